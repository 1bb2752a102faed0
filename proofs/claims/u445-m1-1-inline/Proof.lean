import JvmDerived
import JvmDerived.Pilot.@@N@@Statement
import JvmDerived.Pilot.@@N@@Code
set_option linter.unusedVariables false
set_option linter.unusedSimpArgs false
namespace Jvm.Pilot.@@N@@
open Jvm Jvm.ClassFile Sem Op Lib Jvm.Free Jvm.Stand Jvm.LawKit Jvm.RoadKit Bundle Jvm.Pilot.@@N@@.Jvm.D
/-! OWN KIT: a small forward machine over the library's Stand: one fact a point of the walk (OAt), one law a step, a contract a method (OCon). -/
abbrev Gx : Type := Launch × State × Array Value × List (String × Nat) × Nat
abbrev Gx.l (G : Gx) : Launch := G.1
abbrev Gx.Z (G : Gx) : State := G.2.1
abbrev Gx.a0 (G : Gx) : Array Value := G.2.2.1
abbrev Gx.EL (G : Gx) : List (String × Nat) := G.2.2.2.1
abbrev Gx.n0 (G : Gx) : Nat := G.2.2.2.2
abbrev Kx : Type := Program × Env × State × MethodId × Array Value × List Frame × Method × Code × State
abbrev Kx.p (K : Kx) : Program := K.1
abbrev Kx.e (K : Kx) : Env := K.2.1
abbrev Kx.s (K : Kx) : State := K.2.2.1
abbrev Kx.m (K : Kx) : MethodId := K.2.2.2.1
abbrev Kx.args (K : Kx) : Array Value := K.2.2.2.2.1
abbrev Kx.below (K : Kx) : List Frame := K.2.2.2.2.2.1
abbrev Kx.meth (K : Kx) : Method := K.2.2.2.2.2.2.1
abbrev Kx.c (K : Kx) : Code := K.2.2.2.2.2.2.2.1
abbrev Kx.s0 (K : Kx) : State := K.2.2.2.2.2.2.2.2
abbrev Mx : Type := ByteArray × String × Option FieldType × String × Nat × Room
abbrev Mx.b (M : Mx) : ByteArray := M.1
abbrev Mx.own (M : Mx) : String := M.2.1
abbrev Mx.rt (M : Mx) : Option FieldType := M.2.2.1
abbrev Mx.nm (M : Mx) : String := M.2.2.2.1
abbrev Mx.ml (M : Mx) : Nat := M.2.2.2.2.1
abbrev Mx.R (M : Mx) : Room := M.2.2.2.2.2
/-- the word w of the sheet holds at the law's start -/
abbrev OW (G : Gx) (w : Jvm.Cond) : Prop := w.before G.a0 G.Z = true
/-- what may be written: it is there, and no literal's cell -/
abbrev OSafe (G : Gx) (vm : Vm) (h : Heap) (x : Addr) : Prop := x < h.size ∧ Safe G.Z G.EL vm h x
def OOk (G : Gx) (K : Kx) (M : Mx) : Prop := K.p.tables.exec = Jvm.exec ∧ K.c.code = M.b ∧ K.meth.sig.returnType = M.rt ∧ K.meth.locks = false ∧ K.meth.name = M.nm ∧ K.c.maxLocals = M.ml ∧ EW G.Z G.a0 G.EL
def OAt (G : Gx) (K : Kx) (M : Mx) (A : List Addr) (cs sl : Nat) (h : Heap) (pc : Nat) (L : Array Slot) (S : List Value) : Prop :=
  OOk G K M ∧ ∃ (vm0 : Vm) (k0 : Nat) (T : State) (locs : List Loc), Stand K.p G.l K.e M.R (K.s.setVm vm0) K.m K.args K.below K.meth K.c T locs cs sl ∧ T.heap = h ∧ K.s.Since vm0 k0 ∧ k0 ≤ h.size ∧ G.Z.Warmed39 (K.s.setVm vm0).vm ∧ (K.s.setVm vm0).vm.findClass M.own = some K.m.cls ∧
    CHr G.Z G.EL K.s.vm K.s.heap vm0 h ∧ (∀ x ∈ A, OSafe G vm0 h x) ∧ Fr G.n0 locs ∧ Old G.Z G.n0 h ∧ Steps K.p.tables K.e K.below K.s0 (T.setTop (mkF K.m pc L S))
/-- the invocation ends: it returns v, and Q v h' sf of the heap then (sf: what may be written) -/
def ODone (G : Gx) (K : Kx) (rm : Room) (Q : Option Value → Heap → (Addr → Prop) → Prop) : Prop :=
  ∃ s₂ o, Steps K.p.tables K.e K.below K.s0 s₂ ∧ s₂.status = .running ∧ Ended s₂ K.below o ∧ ∃ v L, o = .returned v ∧ Q v s₂.heap (OSafe G s₂.vm s₂.heap) ∧ Fr G.n0 L ∧ Old G.Z G.n0 s₂.heap ∧ CHr G.Z G.EL K.s.vm K.s.heap s₂.vm s₂.heap ∧ ReturnedEndW K.s o s₂ L rm.cells rm.slots
/-- a method's contract: called with the values as over the heap h it returns, and Q -/
def OCon (G : Gx) (y : MethodName) (B : ByteArray) (ml : Nat) (rt : Option FieldType) (ws : List Jvm.Cond) (rm : Room) (as : Array Value) (A : List Addr) (h : Heap) (Q : Option Value → Heap → (Addr → Prop) → Prop) : Prop :=
  MetFree G.l y (head1 (Jvm.Cond.code y B ml rt :: ws) rm) (fun a U => a = as ∧ G.Z.Warmed39 U.vm ∧ U.heap = h ∧ CHv G.Z G.EL U.vm h ∧ (∀ x ∈ A, OSafe G U.vm h x) ∧ Old G.Z G.n0 h) (fun _ _ _ _ _ => True)
    (fun _ U o U' => ∃ v L, o = .returned v ∧ Q v U'.heap (OSafe G U'.vm U'.heap) ∧ Fr G.n0 L ∧ Old G.Z G.n0 U'.heap ∧ CHr G.Z G.EL U.vm U.heap U'.vm U'.heap ∧ ReturnedEndW U o U' L rm.cells rm.slots)
/-- y's class is no interface, in whatever tables the run has -/
abbrev ONf (G : Gx) (y : MethodName) : Prop := ∀ s : State, G.Z.Warmed39 s.vm → NotFace s y
theorem own_nf {G : Gx} {y : MethodName} {C : String} (w : OW G (Jvm.Cond.selects C y y)) : ONf G y := fun s hZ => notFace_of_selects (args := #[]) (mvT hZ w)
theorem own_nfs {G : Gx} {y : MethodName} {C : String} (w : OW G (Jvm.Cond.superclass y.cls C)) : ONf G y := fun s hZ => nf_super (args := #[]) (mvT hZ w)
section Machine
variable {G : Gx} {K : Kx} {M : Mx} {A : List Addr} {cs sl : Nat} {h : Heap} {pc : Nat} {L : Array Slot} {S : List Value}
/-- the common form of what a step law is handed -/
abbrev OSt (G : Gx) (K : Kx) (M : Mx) (cs sl : Nat) (h : Heap) (vm0 : Vm) (T : State) (locs : List Loc) : Prop := Stand K.p G.l K.e M.R (K.s.setVm vm0) K.m K.args K.below K.meth K.c T locs cs sl
theorem OAt.pure {pc' : Nat} {L' : Array Slot} {S' : List Value} (c : OAt G K M A cs sl h pc L S)
    (f : ∀ vm0 T locs, OSt G K M cs sl h vm0 T locs → T.heap = h → K.p.tables.exec = Jvm.exec → K.c.code = M.b → G.Z.Warmed39 (K.s.setVm vm0).vm → (K.s.setVm vm0).vm.findClass M.own = some K.m.cls → Old G.Z G.n0 h →
      ∃ T', OSt G K M cs sl h vm0 T' locs ∧ T'.heap = h ∧ ∀ target, Steps K.p.tables K.e K.below (T'.setTop (mkF K.m pc' L' S')) target → Steps K.p.tables K.e K.below (T.setTop (mkF K.m pc L S)) target) : OAt G K M A cs sl h pc' L' S' := by
  obtain ⟨ok, vm0, k0, T, locs, X, hT, hS, hk, hZ, hown, hC, hA, hF, hO, st⟩ := c
  obtain ⟨T', X', hT', f'⟩ := f vm0 T locs X hT ok.1 ok.2.1 hZ hown hO
  exact ⟨ok, vm0, k0, T', locs, X', hT', hS, hk, hZ, hown, hC, hA, hF, hO, st.trans (f' _ (Steps.refl _))⟩
theorem OAt.grow {pc' : Nat} {L' : Array Slot} {S' : List Value} {cs' sl' : Nat} {P : Heap → Prop} (c : OAt G K M A cs sl h pc L S)
    (f : ∀ vm0 T locs, OSt G K M cs sl h vm0 T locs → T.heap = h → K.p.tables.exec = Jvm.exec → K.c.code = M.b → G.Z.Warmed39 (K.s.setVm vm0).vm → (K.s.setVm vm0).vm.findClass M.own = some K.m.cls → 
      ∃ T' h', OSt G K M cs' sl' h vm0 T' locs ∧ T'.heap = h' ∧ Ext h h' ∧ h.size < h'.size ∧ P h' ∧ ∀ target, Steps K.p.tables K.e K.below (T'.setTop (mkF K.m pc' L' S')) target → Steps K.p.tables K.e K.below (T.setTop (mkF K.m pc L S)) target) :
    ∃ h', Ext h h' ∧ G.n0 ≤ h.size ∧ P h' ∧ OAt G K M (h.size :: A) cs' sl' h' pc' L' S' := by
  obtain ⟨ok, vm0, k0, T, locs, X, hT, hS, hk, hZ, hown, hC, hA, hF, hO, st⟩ := c
  obtain ⟨T', h', X', hT', E, hlt, hP, f'⟩ := f vm0 T locs X hT ok.1 ok.2.1 hZ hown
  refine ⟨h', E, by rw [← hO.1]; exact hO.2.1, hP, ok, vm0, k0, T', locs, X', hT', hS, Nat.le_trans hk E.1, hZ, hown, hC.trans (CHr.ext E hC.1), fun x hx => ?_, hF, hO.ext E, st.trans (f' _ (Steps.refl _))⟩
  rcases List.mem_cons.mp hx with rfl | hx
  · exact ⟨hlt, Safe.ext E hC.1 (Safe.new (Nat.le_refl _))⟩
  · exact ⟨Nat.lt_of_lt_of_le (hA x hx).1 E.1, Safe.ext E hC.1 (hA x hx).2⟩
theorem OAt.write {pc' : Nat} {L' : Array Slot} {S' : List Value} {a : Addr} {i : Nat} {v : Value} (c : OAt G K M A cs sl h pc L S) (hn : G.n0 ≤ a) (hs : ∀ vm0, G.Z.vm.Alike vm0 → (∀ x ∈ A, OSafe G vm0 h x) → Safe G.Z G.EL vm0 h a)
    (f : ∀ vm0 T locs, OSt G K M cs sl h vm0 T locs → T.heap = h → K.p.tables.exec = Jvm.exec → K.c.code = M.b → G.Z.Warmed39 (K.s.setVm vm0).vm → (K.s.setVm vm0).vm.findClass M.own = some K.m.cls → K.meth.name = M.nm →
      ∃ T' h', OSt G K M cs sl h vm0 T' (locs ++ [⟨a, i⟩]) ∧ T'.heap = h' ∧ Wr h h' a i v ∧ ∀ target, Steps K.p.tables K.e K.below (T'.setTop (mkF K.m pc' L' S')) target → Steps K.p.tables K.e K.below (T.setTop (mkF K.m pc L S)) target) :
    ∃ h', Wr h h' a i v ∧ OAt G K M A cs sl h' pc' L' S' := by
  obtain ⟨ok, vm0, k0, T, locs, X, hT, hS, hk, hZ, hown, hC, hA, hF, hO, st⟩ := c
  obtain ⟨T', h', X', hT', W, f'⟩ := f vm0 T locs X hT ok.1 ok.2.1 hZ hown ok.2.2.2.2.1
  have S' := hs vm0 hZ.alike hA
  refine ⟨h', W, ok, vm0, k0, T', _, X', hT', hS, by rw [W.size]; exact hk, hZ, hown, hC.trans (CHr.wr W S' hC.1), fun x hx => ⟨by rw [W.size]; exact (hA x hx).1, Safe.wr W S' hC.1 (hA x hx).2⟩, hF.app fun y hy => ?_, hO.wr W hn, st.trans (f' _ (Steps.refl _))⟩
  cases List.mem_singleton.mp hy; exact hn
/-- more room may be booked -/
theorem OAt.more {cs' sl' : Nat} (c : OAt G K M A cs sl h pc L S) (h1 : cs ≤ cs') (h2 : sl ≤ sl') : OAt G K M A cs' sl' h pc L S := by
  obtain ⟨ok, vm0, k0, T, locs, X, r⟩ := c
  exact ⟨ok, vm0, k0, T, locs, X.more h1 h2, r⟩
theorem OAt.drop {A' : List Addr} (c : OAt G K M A cs sl h pc L S) (hA : ∀ x ∈ A', x ∈ A) : OAt G K M A' cs sl h pc L S := by
  obtain ⟨ok, vm0, k0, T, locs, X, hT, hS, hk, hZ, hown, hC, hA', r⟩ := c
  exact ⟨ok, vm0, k0, T, locs, X, hT, hS, hk, hZ, hown, hC, fun x hx => hA' x (hA x hx), r⟩
theorem OAt.old (c : OAt G K M A cs sl h pc L S) : Old G.Z G.n0 h := by
  obtain ⟨ok, vm0, k0, T, locs, X, hT, hS, hk, hZ, hown, hC, hA, hF, hO, st⟩ := c
  exact hO
theorem OAt.n0le (c : OAt G K M A cs sl h pc L S) : G.n0 ≤ h.size := by rw [← c.old.1]; exact c.old.2.1
end Machine
section Plain
variable {G : Gx} {K : Kx} {M : Mx} {A : List Addr} {cs sl : Nat} {h : Heap} {pc : Nat} {L : Array Slot}
theorem OAt.iload {S : List Value} {k : Nat} {v : Int32} (c : OAt G K M A cs sl h pc L (S)) (pc' : Nat) (hd : decode M.b pc = .ok (.iload k, 2)) (hl : L[k]? = some (.val (.int v))) (hp : pc + 2 = pc' := by rfl) : OAt G K M A cs sl h pc' L (.int v :: S) := by
  subst hp
  exact c.pure fun vm0 T locs X hT hx hb hZ hown hO => ⟨T, X, hT, fun t r => XS.iload X.here hx rfl (Jvm.hb hb hd) hl r⟩
theorem OAt.iloadN {S : List Value} {k : Fin 4} {v : Int32} (c : OAt G K M A cs sl h pc L (S)) (pc' : Nat) (hd : decode M.b pc = .ok (.iload_n k, 1)) (hl : L[k.val]? = some (.val (.int v))) (hp : pc + 1 = pc' := by rfl) : OAt G K M A cs sl h pc' L (.int v :: S) := by
  subst hp
  exact c.pure fun vm0 T locs X hT hx hb hZ hown hO => ⟨T, X, hT, fun t r => XS.iloadN X.here hx rfl (Jvm.hb hb hd) hl r⟩
theorem OAt.lload {S : List Value} {k : Nat} {v : Int64} (c : OAt G K M A cs sl h pc L (S)) (pc' : Nat) (hd : decode M.b pc = .ok (.lload k, 2)) (hl : L[k]? = some (.val (.long v))) (hp : pc + 2 = pc' := by rfl) : OAt G K M A cs sl h pc' L (.long v :: S) := by
  subst hp
  exact c.pure fun vm0 T locs X hT hx hb hZ hown hO => ⟨T, X, hT, fun t r => Jvm.Free.XT.lload X.here hx rfl (Jvm.hb hb hd) hl r⟩
theorem OAt.lloadN {S : List Value} {k : Fin 4} {v : Int64} (c : OAt G K M A cs sl h pc L (S)) (pc' : Nat) (hd : decode M.b pc = .ok (.lload_n k, 1)) (hl : L[k.val]? = some (.val (.long v))) (hp : pc + 1 = pc' := by rfl) : OAt G K M A cs sl h pc' L (.long v :: S) := by
  subst hp
  exact c.pure fun vm0 T locs X hT hx hb hZ hown hO => ⟨T, X, hT, fun t r => Jvm.Free.XT.lloadN X.here hx rfl (Jvm.hb hb hd) hl r⟩
theorem OAt.aload {S : List Value} {k : Nat} {v : Value} (c : OAt G K M A cs sl h pc L (S)) (pc' : Nat) (hd : decode M.b pc = .ok (.aload k, 2)) (hl : L[k]? = some (.val v)) (hv : v.isRef = true) (hp : pc + 2 = pc' := by rfl) : OAt G K M A cs sl h pc' L (v :: S) := by
  subst hp
  exact c.pure fun vm0 T locs X hT hx hb hZ hown hO => ⟨T, X, hT, fun t r => XS.aload X.here hx rfl (Jvm.hb hb hd) hl hv r⟩
theorem OAt.aloadN {S : List Value} {k : Fin 4} {v : Value} (c : OAt G K M A cs sl h pc L (S)) (pc' : Nat) (hd : decode M.b pc = .ok (.aload_n k, 1)) (hl : L[k.val]? = some (.val v)) (hv : v.isRef = true) (hp : pc + 1 = pc' := by rfl) : OAt G K M A cs sl h pc' L (v :: S) := by
  subst hp
  exact c.pure fun vm0 T locs X hT hx hb hZ hown hO => ⟨T, X, hT, fun t r => XS.aloadN X.here hx rfl (Jvm.hb hb hd) hl hv r⟩
theorem OAt.istore {S : List Value} {k : Nat} {v : Int32} (c : OAt G K M A cs sl h pc L (.int v :: S)) (pc' : Nat) (hd : decode M.b pc = .ok (.istore k, 2)) (L' : Array Slot) (hl : storeLocals L k (.int v) = some L') (hp : pc + 2 = pc' := by rfl) : OAt G K M A cs sl h pc' L' (S) := by
  subst hp
  exact c.pure fun vm0 T locs X hT hx hb hZ hown hO => ⟨T, X, hT, fun t r => XS.istore X.here hx rfl (Jvm.hb hb hd) rfl hl r⟩
theorem OAt.istoreN {S : List Value} {k : Fin 4} {v : Int32} (c : OAt G K M A cs sl h pc L (.int v :: S)) (pc' : Nat) (hd : decode M.b pc = .ok (.istore_n k, 1)) (L' : Array Slot) (hl : storeLocals L k.val (.int v) = some L') (hp : pc + 1 = pc' := by rfl) : OAt G K M A cs sl h pc' L' (S) := by
  subst hp
  exact c.pure fun vm0 T locs X hT hx hb hZ hown hO => ⟨T, X, hT, fun t r => XS.istoreN X.here hx rfl (Jvm.hb hb hd) rfl hl r⟩
theorem OAt.lstore {S : List Value} {k : Nat} {v : Int64} (c : OAt G K M A cs sl h pc L (.long v :: S)) (pc' : Nat) (hd : decode M.b pc = .ok (.lstore k, 2)) (L' : Array Slot) (hl : storeLocals L k (.long v) = some L') (hp : pc + 2 = pc' := by rfl) : OAt G K M A cs sl h pc' L' (S) := by
  subst hp
  exact c.pure fun vm0 T locs X hT hx hb hZ hown hO => ⟨T, X, hT, fun t r => Jvm.Free.XT.lstore X.here hx rfl (Jvm.hb hb hd) rfl hl r⟩
theorem OAt.lstoreN {S : List Value} {k : Fin 4} {v : Int64} (c : OAt G K M A cs sl h pc L (.long v :: S)) (pc' : Nat) (hd : decode M.b pc = .ok (.lstore_n k, 1)) (L' : Array Slot) (hl : storeLocals L k.val (.long v) = some L') (hp : pc + 1 = pc' := by rfl) : OAt G K M A cs sl h pc' L' (S) := by
  subst hp
  exact c.pure fun vm0 T locs X hT hx hb hZ hown hO => ⟨T, X, hT, fun t r => Jvm.Free.XT.lstoreN X.here hx rfl (Jvm.hb hb hd) rfl hl r⟩
theorem OAt.astore {S : List Value} {k : Nat} {v : Value} (c : OAt G K M A cs sl h pc L (v :: S)) (pc' : Nat) (hd : decode M.b pc = .ok (.astore k, 2)) (hv : v.isRef = true) (L' : Array Slot) (hl : storeLocals L k v = some L') (hp : pc + 2 = pc' := by rfl) : OAt G K M A cs sl h pc' L' (S) := by
  subst hp
  exact c.pure fun vm0 T locs X hT hx hb hZ hown hO => ⟨T, X, hT, fun t r => XS.astore X.here hx rfl (Jvm.hb hb hd) rfl hv hl r⟩
theorem OAt.astoreN {S : List Value} {k : Fin 4} {v : Value} (c : OAt G K M A cs sl h pc L (v :: S)) (pc' : Nat) (hd : decode M.b pc = .ok (.astore_n k, 1)) (hv : v.isRef = true) (L' : Array Slot) (hl : storeLocals L k.val v = some L') (hp : pc + 1 = pc' := by rfl) : OAt G K M A cs sl h pc' L' (S) := by
  subst hp
  exact c.pure fun vm0 T locs X hT hx hb hZ hown hO => ⟨T, X, hT, fun t r => XS.astoreN X.here hx rfl (Jvm.hb hb hd) rfl hv hl r⟩
theorem OAt.iconst {S : List Value} {i : Int} (c : OAt G K M A cs sl h pc L (S)) (pc' : Nat) (hd : decode M.b pc = .ok (.iconst i, 1)) (v : Int32) (hv : Int32.ofInt i = v) (hp : pc + 1 = pc' := by rfl) : OAt G K M A cs sl h pc' L (.int v :: S) := by
  subst hp
  exact c.pure fun vm0 T locs X hT hx hb hZ hown hO => ⟨T, X, hT, fun t r => XS.iconst X.here hx rfl (Jvm.hb hb hd) (hv ▸ r)⟩
theorem OAt.bipush {S : List Value} {i : Int} (c : OAt G K M A cs sl h pc L (S)) (pc' : Nat) (hd : decode M.b pc = .ok (.bipush i, 2)) (v : Int32) (hv : (Int8.ofInt i).toInt32 = v) (hp : pc + 2 = pc' := by rfl) : OAt G K M A cs sl h pc' L (.int v :: S) := by
  subst hp
  exact c.pure fun vm0 T locs X hT hx hb hZ hown hO => ⟨T, X, hT, fun t r => XS.bipush X.here hx rfl (Jvm.hb hb hd) (hv ▸ r)⟩
theorem OAt.sipush {S : List Value} {i : Int} (c : OAt G K M A cs sl h pc L (S)) (pc' : Nat) (hd : decode M.b pc = .ok (.sipush i, 3)) (v : Int32) (hv : (Int16.ofInt i).toInt32 = v) (hp : pc + 3 = pc' := by rfl) : OAt G K M A cs sl h pc' L (.int v :: S) := by
  subst hp
  exact c.pure fun vm0 T locs X hT hx hb hZ hown hO => ⟨T, X, hT, fun t r => XS.sipush X.here hx rfl (Jvm.hb hb hd) (hv ▸ r)⟩
theorem OAt.lconst {S : List Value} {i : Fin 2} (c : OAt G K M A cs sl h pc L (S)) (pc' : Nat) (hd : decode M.b pc = .ok (.lconst i, 1)) (v : Int64) (hv : Int64.ofNat i = v) (hp : pc + 1 = pc' := by rfl) : OAt G K M A cs sl h pc' L (.long v :: S) := by
  subst hp
  exact c.pure fun vm0 T locs X hT hx hb hZ hown hO => ⟨T, X, hT, fun t r => Jvm.Free.XT.lconst X.here hx rfl (Jvm.hb hb hd) (hv ▸ r)⟩
theorem OAt.aconstNull {S : List Value}  (c : OAt G K M A cs sl h pc L (S)) (pc' : Nat) (hd : decode M.b pc = .ok (.aconst_null, 1)) (hp : pc + 1 = pc' := by rfl) : OAt G K M A cs sl h pc' L (.null :: S) := by
  subst hp
  exact c.pure fun vm0 T locs X hT hx hb hZ hown hO => ⟨T, X, hT, fun t r => XS.aconstNull X.here hx rfl (Jvm.hb hb hd) r⟩
theorem OAt.iadd {S : List Value} {x y : Int32} (c : OAt G K M A cs sl h pc L (.int y :: .int x :: S)) (pc' : Nat) (hd : decode M.b pc = .ok (.iadd, 1)) (hp : pc + 1 = pc' := by rfl) : OAt G K M A cs sl h pc' L (.int (x + y) :: S) := by
  subst hp
  exact c.pure fun vm0 T locs X hT hx hb hZ hown hO => ⟨T, X, hT, fun t r => XS.iadd X.here hx rfl (Jvm.hb hb hd) rfl r⟩
theorem OAt.isub {S : List Value} {x y : Int32} (c : OAt G K M A cs sl h pc L (.int y :: .int x :: S)) (pc' : Nat) (hd : decode M.b pc = .ok (.isub, 1)) (hp : pc + 1 = pc' := by rfl) : OAt G K M A cs sl h pc' L (.int (x - y) :: S) := by
  subst hp
  exact c.pure fun vm0 T locs X hT hx hb hZ hown hO => ⟨T, X, hT, fun t r => XS.isub X.here hx rfl (Jvm.hb hb hd) rfl r⟩
theorem OAt.imul {S : List Value} {x y : Int32} (c : OAt G K M A cs sl h pc L (.int y :: .int x :: S)) (pc' : Nat) (hd : decode M.b pc = .ok (.imul, 1)) (hp : pc + 1 = pc' := by rfl) : OAt G K M A cs sl h pc' L (.int (x * y) :: S) := by
  subst hp
  exact c.pure fun vm0 T locs X hT hx hb hZ hown hO => ⟨T, X, hT, fun t r => XS.imul X.here hx rfl (Jvm.hb hb hd) rfl r⟩
theorem OAt.iand {S : List Value} {x y : Int32} (c : OAt G K M A cs sl h pc L (.int y :: .int x :: S)) (pc' : Nat) (hd : decode M.b pc = .ok (.iand, 1)) (hp : pc + 1 = pc' := by rfl) : OAt G K M A cs sl h pc' L (.int (x &&& y) :: S) := by
  subst hp
  exact c.pure fun vm0 T locs X hT hx hb hZ hown hO => ⟨T, X, hT, fun t r => XS.iand X.here hx rfl (Jvm.hb hb hd) rfl r⟩
theorem OAt.ior {S : List Value} {x y : Int32} (c : OAt G K M A cs sl h pc L (.int y :: .int x :: S)) (pc' : Nat) (hd : decode M.b pc = .ok (.ior, 1)) (hp : pc + 1 = pc' := by rfl) : OAt G K M A cs sl h pc' L (.int (x ||| y) :: S) := by
  subst hp
  exact c.pure fun vm0 T locs X hT hx hb hZ hown hO => ⟨T, X, hT, fun t r => Jvm.Free.XT.ior X.here hx rfl (Jvm.hb hb hd) rfl r⟩
theorem OAt.ixor {S : List Value} {x y : Int32} (c : OAt G K M A cs sl h pc L (.int y :: .int x :: S)) (pc' : Nat) (hd : decode M.b pc = .ok (.ixor, 1)) (hp : pc + 1 = pc' := by rfl) : OAt G K M A cs sl h pc' L (.int (x ^^^ y) :: S) := by
  subst hp
  exact c.pure fun vm0 T locs X hT hx hb hZ hown hO => ⟨T, X, hT, fun t r => Jvm.Free.XT.ixor X.here hx rfl (Jvm.hb hb hd) rfl r⟩
theorem OAt.ishl {S : List Value} {x y : Int32} (c : OAt G K M A cs sl h pc L (.int y :: .int x :: S)) (pc' : Nat) (hd : decode M.b pc = .ok (.ishl, 1)) (hp : pc + 1 = pc' := by rfl) : OAt G K M A cs sl h pc' L (.int (x <<< (y &&& 31)) :: S) := by
  subst hp
  exact c.pure fun vm0 T locs X hT hx hb hZ hown hO => ⟨T, X, hT, fun t r => Jvm.Free.XT.ishl X.here hx rfl (Jvm.hb hb hd) rfl r⟩
theorem OAt.ishr {S : List Value} {x y : Int32} (c : OAt G K M A cs sl h pc L (.int y :: .int x :: S)) (pc' : Nat) (hd : decode M.b pc = .ok (.ishr, 1)) (hp : pc + 1 = pc' := by rfl) : OAt G K M A cs sl h pc' L (.int (x >>> (y &&& 31)) :: S) := by
  subst hp
  exact c.pure fun vm0 T locs X hT hx hb hZ hown hO => ⟨T, X, hT, fun t r => Jvm.Free.XT.ishr X.here hx rfl (Jvm.hb hb hd) rfl r⟩
theorem OAt.iushr {S : List Value} {x y : Int32} (c : OAt G K M A cs sl h pc L (.int y :: .int x :: S)) (pc' : Nat) (hd : decode M.b pc = .ok (.iushr, 1)) (hp : pc + 1 = pc' := by rfl) : OAt G K M A cs sl h pc' L (.int (Jvm.Free.XT.ushr x y) :: S) := by
  subst hp
  exact c.pure fun vm0 T locs X hT hx hb hZ hown hO => ⟨T, X, hT, fun t r => Jvm.Free.XT.iushr X.here hx rfl (Jvm.hb hb hd) rfl r⟩
theorem OAt.irem {S : List Value} {x y : Int32} (c : OAt G K M A cs sl h pc L (.int y :: .int x :: S)) (pc' : Nat) (hd : decode M.b pc = .ok (.irem, 1)) (hy : y ≠ 0) (hp : pc + 1 = pc' := by rfl) : OAt G K M A cs sl h pc' L (.int (x % y) :: S) := by
  subst hp
  exact c.pure fun vm0 T locs X hT hx hb hZ hown hO => ⟨T, X, hT, fun t r => iremM X hx rfl (Jvm.hb hb hd) rfl hy r⟩
theorem OAt.idiv {S : List Value} {x y : Int32} (c : OAt G K M A cs sl h pc L (.int y :: .int x :: S)) (pc' : Nat) (hd : decode M.b pc = .ok (.idiv, 1)) (hy : y ≠ 0) (hp : pc + 1 = pc' := by rfl) : OAt G K M A cs sl h pc' L (.int (x / y) :: S) := by
  subst hp
  exact c.pure fun vm0 T locs X hT hx hb hZ hown hO => ⟨T, X, hT, fun t r => XS.idiv X.here hx rfl (Jvm.hb hb hd) rfl hy r⟩
theorem OAt.ladd {S : List Value} {x y : Int64} (c : OAt G K M A cs sl h pc L (.long y :: .long x :: S)) (pc' : Nat) (hd : decode M.b pc = .ok (.ladd, 1)) (hp : pc + 1 = pc' := by rfl) : OAt G K M A cs sl h pc' L (.long (x + y) :: S) := by
  subst hp
  exact c.pure fun vm0 T locs X hT hx hb hZ hown hO => ⟨T, X, hT, fun t r => Jvm.Free.XT.ladd X.here hx rfl (Jvm.hb hb hd) rfl r⟩
theorem OAt.lsub {S : List Value} {x y : Int64} (c : OAt G K M A cs sl h pc L (.long y :: .long x :: S)) (pc' : Nat) (hd : decode M.b pc = .ok (.lsub, 1)) (hp : pc + 1 = pc' := by rfl) : OAt G K M A cs sl h pc' L (.long (x - y) :: S) := by
  subst hp
  exact c.pure fun vm0 T locs X hT hx hb hZ hown hO => ⟨T, X, hT, fun t r => Jvm.Free.XT.lsub X.here hx rfl (Jvm.hb hb hd) rfl r⟩
theorem OAt.land {S : List Value} {x y : Int64} (c : OAt G K M A cs sl h pc L (.long y :: .long x :: S)) (pc' : Nat) (hd : decode M.b pc = .ok (.land, 1)) (hp : pc + 1 = pc' := by rfl) : OAt G K M A cs sl h pc' L (.long (x &&& y) :: S) := by
  subst hp
  exact c.pure fun vm0 T locs X hT hx hb hZ hown hO => ⟨T, X, hT, fun t r => Jvm.Free.XT.land X.here hx rfl (Jvm.hb hb hd) rfl r⟩
theorem OAt.lor {S : List Value} {x y : Int64} (c : OAt G K M A cs sl h pc L (.long y :: .long x :: S)) (pc' : Nat) (hd : decode M.b pc = .ok (.lor, 1)) (hp : pc + 1 = pc' := by rfl) : OAt G K M A cs sl h pc' L (.long (x ||| y) :: S) := by
  subst hp
  exact c.pure fun vm0 T locs X hT hx hb hZ hown hO => ⟨T, X, hT, fun t r => Jvm.Free.XT.lor X.here hx rfl (Jvm.hb hb hd) rfl r⟩
theorem OAt.lxor {S : List Value} {x y : Int64} (c : OAt G K M A cs sl h pc L (.long y :: .long x :: S)) (pc' : Nat) (hd : decode M.b pc = .ok (.lxor, 1)) (hp : pc + 1 = pc' := by rfl) : OAt G K M A cs sl h pc' L (.long (x ^^^ y) :: S) := by
  subst hp
  exact c.pure fun vm0 T locs X hT hx hb hZ hown hO => ⟨T, X, hT, fun t r => Jvm.Free.XT.lxor X.here hx rfl (Jvm.hb hb hd) rfl r⟩
theorem OAt.lrem {S : List Value} {x y : Int64} (c : OAt G K M A cs sl h pc L (.long y :: .long x :: S)) (pc' : Nat) (hd : decode M.b pc = .ok (.lrem, 1)) (hy : y ≠ 0) (hp : pc + 1 = pc' := by rfl) : OAt G K M A cs sl h pc' L (.long (x % y) :: S) := by
  subst hp
  exact c.pure fun vm0 T locs X hT hx hb hZ hown hO => ⟨T, X, hT, fun t r => Jvm.Free.XT.lrem X.here hx rfl (Jvm.hb hb hd) rfl hy (by rw [lrem_mod]; exact r)⟩
theorem OAt.lshl {S : List Value} {x : Int64} {y : Int32} (c : OAt G K M A cs sl h pc L (.int y :: .long x :: S)) (pc' : Nat) (hd : decode M.b pc = .ok (.lshl, 1)) (hp : pc + 1 = pc' := by rfl) : OAt G K M A cs sl h pc' L (.long (x <<< (y.toInt64 &&& 63)) :: S) := by
  subst hp
  exact c.pure fun vm0 T locs X hT hx hb hZ hown hO => ⟨T, X, hT, fun t r => Jvm.Free.XT.lshl X.here hx rfl (Jvm.hb hb hd) rfl r⟩
theorem OAt.lshr {S : List Value} {x : Int64} {y : Int32} (c : OAt G K M A cs sl h pc L (.int y :: .long x :: S)) (pc' : Nat) (hd : decode M.b pc = .ok (.lshr, 1)) (hp : pc + 1 = pc' := by rfl) : OAt G K M A cs sl h pc' L (.long (x >>> (y.toInt64 &&& 63)) :: S) := by
  subst hp
  exact c.pure fun vm0 T locs X hT hx hb hZ hown hO => ⟨T, X, hT, fun t r => Jvm.Free.XT.lshr X.here hx rfl (Jvm.hb hb hd) rfl r⟩
theorem OAt.lushr {S : List Value} {x : Int64} {y : Int32} (c : OAt G K M A cs sl h pc L (.int y :: .long x :: S)) (pc' : Nat) (hd : decode M.b pc = .ok (.lushr, 1)) (hp : pc + 1 = pc' := by rfl) : OAt G K M A cs sl h pc' L (.long (Jvm.Free.XT.ushrL x y) :: S) := by
  subst hp
  exact c.pure fun vm0 T locs X hT hx hb hZ hown hO => ⟨T, X, hT, fun t r => Jvm.Free.XT.lushr X.here hx rfl (Jvm.hb hb hd) rfl r⟩
theorem OAt.lcmp {S : List Value} {x y : Int64} (c : OAt G K M A cs sl h pc L (.long y :: .long x :: S)) (pc' : Nat) (hd : decode M.b pc = .ok (.lcmp, 1)) (hp : pc + 1 = pc' := by rfl) : OAt G K M A cs sl h pc' L (.int (Jvm.Free.XT.cmpL x y) :: S) := by
  subst hp
  exact c.pure fun vm0 T locs X hT hx hb hZ hown hO => ⟨T, X, hT, fun t r => Jvm.Free.XT.lcmp X.here hx rfl (Jvm.hb hb hd) rfl r⟩
theorem OAt.i2b {S : List Value} {x : Int32} (c : OAt G K M A cs sl h pc L (.int x :: S)) (pc' : Nat) (hd : decode M.b pc = .ok (.i2b, 1)) (hp : pc + 1 = pc' := by rfl) : OAt G K M A cs sl h pc' L (.int (x.toInt8.toInt32) :: S) := by
  subst hp
  exact c.pure fun vm0 T locs X hT hx hb hZ hown hO => ⟨T, X, hT, fun t r => Jvm.Free.XT.i2b X.here hx rfl (Jvm.hb hb hd) rfl r⟩
theorem OAt.i2c {S : List Value} {x : Int32} (c : OAt G K M A cs sl h pc L (.int x :: S)) (pc' : Nat) (hd : decode M.b pc = .ok (.i2c, 1)) (hp : pc + 1 = pc' := by rfl) : OAt G K M A cs sl h pc' L (.int (x.toUInt32.toUInt16.toUInt32.toInt32) :: S) := by
  subst hp
  exact c.pure fun vm0 T locs X hT hx hb hZ hown hO => ⟨T, X, hT, fun t r => Jvm.Free.XT.i2c X.here hx rfl (Jvm.hb hb hd) rfl r⟩
theorem OAt.i2l {S : List Value} {x : Int32} (c : OAt G K M A cs sl h pc L (.int x :: S)) (pc' : Nat) (hd : decode M.b pc = .ok (.i2l, 1)) (hp : pc + 1 = pc' := by rfl) : OAt G K M A cs sl h pc' L (.long (x.toInt64) :: S) := by
  subst hp
  exact c.pure fun vm0 T locs X hT hx hb hZ hown hO => ⟨T, X, hT, fun t r => Jvm.Free.XT.i2l X.here hx rfl (Jvm.hb hb hd) rfl r⟩
theorem OAt.l2i {S : List Value} {x : Int64} (c : OAt G K M A cs sl h pc L (.long x :: S)) (pc' : Nat) (hd : decode M.b pc = .ok (.l2i, 1)) (hp : pc + 1 = pc' := by rfl) : OAt G K M A cs sl h pc' L (.int (x.toInt32) :: S) := by
  subst hp
  exact c.pure fun vm0 T locs X hT hx hb hZ hown hO => ⟨T, X, hT, fun t r => Jvm.Free.XT.l2i X.here hx rfl (Jvm.hb hb hd) rfl r⟩
theorem OAt.dup {S : List Value} {x : Value} (c : OAt G K M A cs sl h pc L (x :: S)) (pc' : Nat) (hd : decode M.b pc = .ok (.dup, 1)) (hc : x.category = 1) (hp : pc + 1 = pc' := by rfl) : OAt G K M A cs sl h pc' L (x :: x :: S) := by
  subst hp
  exact c.pure fun vm0 T locs X hT hx hb hZ hown hO => ⟨T, X, hT, fun t r => XS.dup X.here hx rfl (Jvm.hb hb hd) rfl hc r⟩
theorem OAt.pop {S : List Value} {x : Value} (c : OAt G K M A cs sl h pc L (x :: S)) (pc' : Nat) (hd : decode M.b pc = .ok (.pop, 1)) (hc : x.category = 1) (hp : pc + 1 = pc' := by rfl) : OAt G K M A cs sl h pc' L (S) := by
  subst hp
  exact c.pure fun vm0 T locs X hT hx hb hZ hown hO => ⟨T, X, hT, fun t r => Jvm.Free.XT.pop X.here hx rfl (Jvm.hb hb hd) rfl hc r⟩
theorem OAt.dupX1 {S : List Value} {x y : Value} (c : OAt G K M A cs sl h pc L (x :: y :: S)) (pc' : Nat) (hd : decode M.b pc = .ok (.dup_x1, 1)) (hc : x.category = 1) (hc' : y.category = 1) (hp : pc + 1 = pc' := by rfl) : OAt G K M A cs sl h pc' L (x :: y :: x :: S) := by
  subst hp
  exact c.pure fun vm0 T locs X hT hx hb hZ hown hO => ⟨T, X, hT, fun t r => Jvm.Free.XT.dupX1 X.here hx rfl (Jvm.hb hb hd) rfl hc hc' r⟩
theorem OAt.dup2 {S : List Value} {x y : Value} (c : OAt G K M A cs sl h pc L (x :: y :: S)) (pc' : Nat) (hd : decode M.b pc = .ok (.dup2, 1)) (hc : x.category = 1) (hc' : y.category = 1) (hp : pc + 1 = pc' := by rfl) : OAt G K M A cs sl h pc' L (x :: y :: x :: y :: S) := by
  subst hp
  exact c.pure fun vm0 T locs X hT hx hb hZ hown hO => ⟨T, X, hT, fun t r => Jvm.Free.XT.dup2 X.here hx rfl (Jvm.hb hb hd) rfl hc hc' r⟩
theorem OAt.iinc {S : List Value} {k : Nat} {i : Int} {x : Int32} (c : OAt G K M A cs sl h pc L S) (pc' : Nat) (hd : decode M.b pc = .ok (.iinc k i, 3)) (hl : L[k]? = some (.val (.int x))) (v : Int32) (hv : x + Int32.ofInt i = v) (L' : Array Slot) (hl' : storeLocals L k (.int v) = some L') (hp : pc + 3 = pc' := by rfl) : OAt G K M A cs sl h pc' L' S := by
  subst hp
  exact c.pure fun vm0 T locs X hT hx hb hZ hown hO => ⟨T, X, hT, fun t r => XS.iinc X.here hx rfl (Jvm.hb hb hd) hl (hv ▸ hl') r⟩
theorem OAt.goto {S : List Value} {o : Int}  (c : OAt G K M A cs sl h pc L (S)) (pc' : Nat) (hd : decode M.b pc = .ok (.goto o, 3)) (ho : 0 ≤ (pc : Int) + o := by decide) (hp : ((pc : Int) + o).toNat = pc' := by decide) : OAt G K M A cs sl h pc' L S :=
  c.pure fun vm0 T locs X hT hx hb hZ hown hO => ⟨T, X, hT, fun t r => XS.goto X.here hx rfl rfl (Jvm.hb hb hd) ho hp r⟩
theorem OAt.ifT {S : List Value} {o : Int} {cd : ClassFile.Cond} {x : Int32} (c : OAt G K M A cs sl h pc L (.int x :: S)) (pc' : Nat) (hd : decode M.b pc = .ok (.ifCond cd o, 3)) (hc : ifCond.holds cd x = true) (ho : 0 ≤ (pc : Int) + o := by decide) (hp : ((pc : Int) + o).toNat = pc' := by decide) : OAt G K M A cs sl h pc' L S :=
  c.pure fun vm0 T locs X hT hx hb hZ hown hO => ⟨T, X, hT, fun t r => XS.ifYes X.here hx rfl rfl (Jvm.hb hb hd) rfl hc ho hp r⟩
theorem OAt.icT {S : List Value} {o : Int} {cd : ClassFile.Cond} {x y : Int32} (c : OAt G K M A cs sl h pc L (.int y :: .int x :: S)) (pc' : Nat) (hd : decode M.b pc = .ok (.if_icmp cd o, 3)) (hc : if_icmp.holds cd x y = true) (ho : 0 ≤ (pc : Int) + o := by decide) (hp : ((pc : Int) + o).toNat = pc' := by decide) : OAt G K M A cs sl h pc' L S :=
  c.pure fun vm0 T locs X hT hx hb hZ hown hO => ⟨T, X, hT, fun t r => XS.icmpYes X.here hx rfl rfl (Jvm.hb hb hd) rfl hc ho hp r⟩
theorem OAt.nullT {S : List Value} {o : Int}  (c : OAt G K M A cs sl h pc L (.null :: S)) (pc' : Nat) (hd : decode M.b pc = .ok (.ifnull o, 3)) (ho : 0 ≤ (pc : Int) + o := by decide) (hp : ((pc : Int) + o).toNat = pc' := by decide) : OAt G K M A cs sl h pc' L S :=
  c.pure fun vm0 T locs X hT hx hb hZ hown hO => ⟨T, X, hT, fun t r => XS.ifnullYes X.here hx rfl rfl (Jvm.hb hb hd) rfl ho hp r⟩
theorem OAt.nonnullT {S : List Value} {o : Int} {b : Addr} (c : OAt G K M A cs sl h pc L (.ref b :: S)) (pc' : Nat) (hd : decode M.b pc = .ok (.ifnonnull o, 3)) (ho : 0 ≤ (pc : Int) + o := by decide) (hp : ((pc : Int) + o).toNat = pc' := by decide) : OAt G K M A cs sl h pc' L S :=
  c.pure fun vm0 T locs X hT hx hb hZ hown hO => ⟨T, X, hT, fun t r => Jvm.Free.XT.ifnonnullYes X.here hx rfl rfl (Jvm.hb hb hd) rfl ho hp r⟩
theorem OAt.acT {S : List Value} {o : Int} {cd : ClassFile.ACond} {x y : Value} (c : OAt G K M A cs sl h pc L (y :: x :: S)) (pc' : Nat) (hd : decode M.b pc = .ok (.if_acmp cd o, 3)) (h1 : x.isRef = true) (h2 : y.isRef = true) (hc : Jvm.Free.XT.acmp cd x y = true) (ho : 0 ≤ (pc : Int) + o := by decide) (hp : ((pc : Int) + o).toNat = pc' := by decide) : OAt G K M A cs sl h pc' L S :=
  c.pure fun vm0 T locs X hT hx hb hZ hown hO => ⟨T, X, hT, fun t r => Jvm.Free.XT.acmpYes X.here hx rfl rfl (Jvm.hb hb hd) rfl h1 h2 hc ho hp r⟩
theorem OAt.ifF {S : List Value} {cd : ClassFile.Cond} {o : Int} {x : Int32} (c : OAt G K M A cs sl h pc L (.int x :: S)) (pc' : Nat) (hd : decode M.b pc = .ok (.ifCond cd o, 3)) (hc : ifCond.holds cd x = false) (hp : pc + 3 = pc' := by rfl) : OAt G K M A cs sl h pc' L (S) := by
  subst hp
  exact c.pure fun vm0 T locs X hT hx hb hZ hown hO => ⟨T, X, hT, fun t r => XS.ifNo X.here hx rfl (Jvm.hb hb hd) rfl hc r⟩
theorem OAt.icF {S : List Value} {cd : ClassFile.Cond} {o : Int} {x y : Int32} (c : OAt G K M A cs sl h pc L (.int y :: .int x :: S)) (pc' : Nat) (hd : decode M.b pc = .ok (.if_icmp cd o, 3)) (hc : if_icmp.holds cd x y = false) (hp : pc + 3 = pc' := by rfl) : OAt G K M A cs sl h pc' L (S) := by
  subst hp
  exact c.pure fun vm0 T locs X hT hx hb hZ hown hO => ⟨T, X, hT, fun t r => XS.icmpNo X.here hx rfl (Jvm.hb hb hd) rfl hc r⟩
theorem OAt.nullF {S : List Value} {o : Int} {b : Addr} (c : OAt G K M A cs sl h pc L (.ref b :: S)) (pc' : Nat) (hd : decode M.b pc = .ok (.ifnull o, 3)) (hp : pc + 3 = pc' := by rfl) : OAt G K M A cs sl h pc' L (S) := by
  subst hp
  exact c.pure fun vm0 T locs X hT hx hb hZ hown hO => ⟨T, X, hT, fun t r => XS.ifnullNo X.here hx rfl (Jvm.hb hb hd) rfl r⟩
theorem OAt.nonnullF {S : List Value} {o : Int} (c : OAt G K M A cs sl h pc L (.null :: S)) (pc' : Nat) (hd : decode M.b pc = .ok (.ifnonnull o, 3)) (hp : pc + 3 = pc' := by rfl) : OAt G K M A cs sl h pc' L (S) := by
  subst hp
  exact c.pure fun vm0 T locs X hT hx hb hZ hown hO => ⟨T, X, hT, fun t r => Jvm.Free.XT.ifnonnullNo X.here hx rfl (Jvm.hb hb hd) rfl r⟩
theorem OAt.acF {S : List Value} {cd : ClassFile.ACond} {o : Int} {x y : Value} (c : OAt G K M A cs sl h pc L (y :: x :: S)) (pc' : Nat) (hd : decode M.b pc = .ok (.if_acmp cd o, 3)) (h1 : x.isRef = true) (h2 : y.isRef = true) (hc : Jvm.Free.XT.acmp cd x y = false) (hp : pc + 3 = pc' := by rfl) : OAt G K M A cs sl h pc' L (S) := by
  subst hp
  exact c.pure fun vm0 T locs X hT hx hb hZ hown hO => ⟨T, X, hT, fun t r => Jvm.Free.XT.acmpNo X.here hx rfl (Jvm.hb hb hd) rfl h1 h2 hc r⟩
theorem OAt.ldcI {S : List Value} {ix : Nat} {v : Int32} (c : OAt G K M A cs sl h pc L (S)) (pc' : Nat) (hd : decode M.b pc = .ok (.ldc ix, 2)) (w : OW G (Jvm.Cond.constant M.own ix v)) (hp : pc + 2 = pc' := by rfl) : OAt G K M A cs sl h pc' L (.int v :: S) := by
  subst hp
  exact c.pure fun vm0 T locs X hT hx hb hZ hown hO => ⟨T, X, hT, fun t r => X.ldcInt hx hown (mvT hZ w) (g := mkF K.m pc L S) rfl (Jvm.hb hb hd) t r⟩
theorem OAt.ldcL {S : List Value} {ix : Nat} {v : Int64} (c : OAt G K M A cs sl h pc L (S)) (pc' : Nat) (hd : decode M.b pc = .ok (.ldc2_w ix, 3)) (w : OW G (Jvm.Cond.constantLong M.own ix v)) (hp : pc + 3 = pc' := by rfl) : OAt G K M A cs sl h pc' L (.long v :: S) := by
  subst hp
  exact c.pure fun vm0 T locs X hT hx hb hZ hown hO => ⟨T, X, hT, fun t r => X.ldc2Long hx hown (mvT hZ w) (g := mkF K.m pc L S) rfl (Jvm.hb hb hd) t r⟩
end Plain
section Arrays
variable {Z : State} {h h' : Heap} {a b : Addr} {ty : FieldType} {vs : List Value}
/-- an array at a of type ty that holds just the values vs -/
def Ary (Z : State) (h : Heap) (a : Addr) (ty : FieldType) (vs : List Value) : Prop := ∃ c : Cell, Arr Z h a c ty ∧ c.slots.toList = vs ∧ vs.length < 2147483648 ∧ ∀ v ∈ vs, fits ty v = true
theorem Ary.lt (F : Ary Z h a ty vs) : a < h.size := by obtain ⟨c, A, -⟩ := F; exact A.lt
theorem Ary.ext (F : Ary Z h a ty vs) (E : Ext h h') : Ary Z h' a ty vs := by obtain ⟨c, A, r⟩ := F; exact ⟨c, A.ext E, r⟩
theorem Ary.keep (F : Ary Z h a ty vs) {ws : List Addr} (K : Keep h h' ws) (q : a ∉ ws) : Ary Z h' a ty vs := by obtain ⟨c, A, r⟩ := F; exact ⟨c, ⟨K.2.1 a c A.1 q, A.2⟩, r⟩
theorem Ary.other (F : Ary Z h b ty vs) {sl : Nat} {v : Value} (W : Wr h h' a sl v) (q : b ≠ a) : Ary Z h' b ty vs := by obtain ⟨c, A, r⟩ := F; exact ⟨c, A.other W q, r⟩
theorem Ary.len (F : Ary Z h a ty vs) : vs.length < 2147483648 := by obtain ⟨c, A, -, r, -⟩ := F; exact r
theorem Ary.set (F : Ary Z h a ty vs) {i : Nat} {v : Value} (W : Wr h h' a i v) (hv : fits ty v = true) : Ary Z h' a ty (vs.set i v) := by
  obtain ⟨c, A, rfl, hl, hf⟩ := F
  refine ⟨c.setSlot i v, A.same W, ?_, by simpa using hl, fun w hw => ?_⟩
  · show (c.slots.setIfInBounds i v).toList = _
    simp
  · rcases List.mem_or_eq_of_mem_set hw with q | rfl
    · exact hf w q
    · exact hv
theorem Ary.arv (F : Ary Z h a ty vs) (d : Value) : ∃ k, Arv Z h a k ty (Int32.ofNat vs.length) vs d := by
  obtain ⟨c, A, rfl, hl, hf⟩ := F
  have e := Int32.toInt_ofNat_small hl
  refine ⟨c.cls, c, A, rfl, ?_, ?_, fun k hk => ?_, fun i hi => ?_⟩
  · simp only [Int32.toNatClampNeg, e]; simp
  · rw [Int32.lt_iff_toInt_lt, e]; show ¬ _ < (0 : Int); omega
  · rw [List.getD_eq_getElem?_getD]; simp [hk]
  · rw [List.getD_eq_getElem?_getD]; simp only [Array.getElem?_toList, Array.getElem?_eq_getElem hi, Option.getD_some]
    exact hf _ (by simp)
theorem Ary.of_arv {k : ClassId} {z : Int32} {d : Value} (F : Arv Z h a k ty z vs d) (hz : z.toNatClampNeg = vs.length) : Ary Z h a ty vs := by
  obtain ⟨c, A, -, hs, hn, H, Gf⟩ := F
  have hlen : c.slots.size = vs.length := hs.trans hz
  have hl : vs.length < 2147483648 := by
    have := z.toInt_lt
    rw [← hz]; simp only [Int32.toNatClampNeg]; omega
  refine ⟨c, A, ?_, hl, fun v hv => ?_⟩
  · apply List.ext_getElem?
    intro i
    by_cases q : i < c.slots.size
    · rw [Array.getElem?_toList, H i q, List.getD_eq_getElem?_getD]
      have : i < vs.length := by omega
      simp [this]
    · rw [List.getElem?_eq_none (by simp; omega), List.getElem?_eq_none (by omega)]
  · obtain ⟨i, hi, rfl⟩ := List.mem_iff_getElem.mp hv
    have := Gf i (by omega)
    simpa [List.getD_eq_getElem?_getD, hi] using this
theorem Ary.new {k : ClassId} {n : Nat} (A : Arr Z h a (newA k ty (Int32.ofNat n)) ty) (hn : n < 2147483648) (hf : fits ty (defaultValue ty) = true) : Ary Z h a ty (List.replicate n (defaultValue ty)) := by
  refine ⟨_, A, ?_, by simpa using hn, fun v hv => by rw [List.eq_of_mem_replicate hv]; exact hf⟩
  have e := Int32.toInt_ofNat_small hn
  simp only [newA, Int32.toNatClampNeg, e]; simp
theorem own_ix {i n : Nat} {j : Int32} (hj : Int32.ofNat i = j) (hi : i < n) (hn : n < 2147483648) : j.toNatClampNeg = i ∧ ¬ (j < 0 ∨ n ≤ j.toNatClampNeg) := by
  subst hj
  have e := Int32.toInt_ofNat_small (show i < 2 ^ 31 by omega)
  have e2 : (Int32.ofNat i).toNatClampNeg = i := by simp only [Int32.toNatClampNeg, e]; simp
  refine ⟨e2, ?_⟩
  rw [e2, Int32.lt_iff_toInt_lt, e]
  show ¬ ((i : Int) < 0 ∨ n ≤ i)
  omega
end Arrays
section HeapSteps
variable {G : Gx} {K : Kx} {M : Mx} {A : List Addr} {cs sl : Nat} {h : Heap} {pc : Nat} {L : Array Slot} {S : List Value}
theorem OAt.getF {O n d R0 : String} {ix : Nat} {a : Addr} {v : Value} (c : OAt G K M A cs sl h pc L (.ref a :: S)) (pc' : Nat) (hd : decode M.b pc = .ok (.getfield ix, 3)) (w : OW G (Jvm.Cond.fieldLink M.own ix R0 n d)) (F : Fld G.Z h a O n d v) (via : Via G.Z R0 O n d := by exact Via.refl) (hp : pc + 3 = pc' := by rfl) : OAt G K M A cs sl h pc' L (v :: S) := by
  subst hp
  exact c.pure fun vm0 T locs X hT hx hb hZ hown hO => Jvm.RoadKit.getF X hx hZ hown (host := "") (Or.inl w) via hT F (g := mkF K.m pc L (.ref a :: S)) rfl rfl (Jvm.hb hb hd)
theorem OAt.getS {O n d R0 : String} {ix : Nat} {v : Value} (c : OAt G K M A cs sl h pc L S) (pc' : Nat) (hd : decode M.b pc = .ok (.getstatic ix, 3)) (w : OW G (Jvm.Cond.fieldLink M.own ix R0 n d)) (F : Sta G.Z G.Z.heap O n d v) (via : Via G.Z R0 O n d := by exact Via.refl) (hp : pc + 3 = pc' := by rfl) : OAt G K M A cs sl h pc' L (v :: S) := by
  subst hp
  exact c.pure fun vm0 T locs X hT hx hb hZ hown hO => Jvm.RoadKit.getS X hx hZ hown (host := "") w via hT (F.ext hO.2) (g := mkF K.m pc L S) rfl (Jvm.hb hb hd)
theorem OAt.cast {C : String} {ix : Nat} {a : Addr} (c : OAt G K M A cs sl h pc L (.ref a :: S)) (pc' : Nat) (hd : decode M.b pc = .ok (.checkcast ix, 3)) (w : OW G (Jvm.Cond.classLink M.own ix C)) (F : Ins G.Z h a C true) (hp : pc + 3 = pc' := by rfl) : OAt G K M A cs sl h pc' L (.ref a :: S) := by
  subst hp
  exact c.pure fun vm0 T locs X hT hx hb hZ hown hO => castY X hx hZ hown w hT F (g := mkF K.m pc L (.ref a :: S)) rfl rfl (Jvm.hb hb hd)
theorem OAt.inst1 {C : String} {ix : Nat} {a : Addr} (c : OAt G K M A cs sl h pc L (.ref a :: S)) (pc' : Nat) (hd : decode M.b pc = .ok (.instanceof ix, 3)) (w : OW G (Jvm.Cond.classLink M.own ix C)) (F : Ins G.Z h a C true) (hp : pc + 3 = pc' := by rfl) : OAt G K M A cs sl h pc' L (.int 1 :: S) := by
  subst hp
  exact c.pure fun vm0 T locs X hT hx hb hZ hown hO => instY X hx hZ hown w hT F (g := mkF K.m pc L (.ref a :: S)) rfl rfl (Jvm.hb hb hd)
theorem OAt.initO {ix : Nat} {a : Addr} {W : Nat} (c : OAt G K M A cs sl h pc L (.ref a :: S)) (pc' : Nat) (hd : decode M.b pc = .ok (.invokespecial ix, 3)) (w1 : OW G (Jvm.Cond.methodLink M.own ix Lib.objectInit)) (w2 : OW G (Jvm.Cond.instanceMethod Lib.objectInit)) (w3 : OW G (Jvm.Cond.code Lib.objectInit object_method_1_code 1 none))
    (hW : (S.map fun v => v.category).sum = W) (hl : W + 12 ≤ M.R.locals) (hf : 1 ≤ M.R.frames) (hL : L.size = M.ml := by rfl) (hp : pc + 3 = pc' := by rfl) : OAt G K M A cs sl h pc' L S := by
  subst hp
  have hml := c.1.2.2.2.2.2.1
  exact c.pure fun vm0 T locs X hT hx hb hZ hown hO => Jvm.RoadKit.initO X hx hZ hown w1 w2 w3 hT (g := mkF K.m pc L (.ref a :: S)) rfl (hL.trans hml.symm) rfl (Jvm.hb hb hd) hf (W := W) (by show 2 * 0 + _ ≤ _; omega) hl
theorem OAt.arrlen {ty : FieldType} {vs : List Value} {a : Addr} (c : OAt G K M A cs sl h pc L (.ref a :: S)) (pc' : Nat) (hd : decode M.b pc = .ok (.arraylength, 1)) (F : Ary G.Z h a ty vs) (n : Int32) (hn : Int32.ofNat vs.length = n) (hp : pc + 1 = pc' := by rfl) : OAt G K M A cs sl h pc' L (.int n :: S) := by
  subst hp
  obtain ⟨cl, Ar, rfl, -⟩ := F
  exact c.pure fun vm0 T locs X hT hx hb hZ hown hO => ⟨T, X, hT, fun t r => X.arraylength hx (by rw [hT]; exact Ar.1) (State.isArrayOf_alike hZ.alike Ar.2.1) (g := mkF K.m pc L (.ref a :: S)) rfl rfl (Jvm.hb hb hd) t (by subst hn; simpa using r)⟩
theorem OAt.caload {vs : List Value} {a : Addr} {j : Int32} (c : OAt G K M A cs sl h pc L (.int j :: .ref a :: S)) (pc' : Nat) (hd : decode M.b pc = .ok (.caload, 1)) (F : Ary G.Z h a .char vs) (i : Nat) (hj : Int32.ofNat i = j) (v : Value) (hv : vs[i]? = some v) (hp : pc + 1 = pc' := by rfl) : OAt G K M A cs sl h pc' L (v :: S) := by
  subst hp
  obtain ⟨cl, Ar, rfl, hl, -⟩ := F
  have hi : i < cl.slots.size := by simpa using (List.getElem?_eq_some_iff.mp hv).1
  obtain ⟨e, q⟩ := own_ix hj hi (by simpa using hl)
  exact c.pure fun vm0 T locs X hT hx hb hZ hown hO => ⟨T, X, hT, fun t r => X.caload hx (by rw [hT]; exact Ar.1) (State.isArrayOf_alike hZ.alike Ar.2.1) Ar.2.2 q (by rw [e]; simpa using hv) (g := mkF K.m pc L (.int j :: .ref a :: S)) rfl rfl (Jvm.hb hb hd) t r⟩
theorem OAt.baload {vs : List Value} {a : Addr} {j : Int32} (c : OAt G K M A cs sl h pc L (.int j :: .ref a :: S)) (pc' : Nat) (hd : decode M.b pc = .ok (.baload, 1)) (F : Ary G.Z h a .byte vs) (i : Nat) (hj : Int32.ofNat i = j) (v : Value) (hv : vs[i]? = some v) (hp : pc + 1 = pc' := by rfl) : OAt G K M A cs sl h pc' L (v :: S) := by
  subst hp
  obtain ⟨cl, Ar, rfl, hl, -⟩ := F
  have hi : i < cl.slots.size := by simpa using (List.getElem?_eq_some_iff.mp hv).1
  obtain ⟨e, q⟩ := own_ix hj hi (by simpa using hl)
  exact c.pure fun vm0 T locs X hT hx hb hZ hown hO => ⟨T, X, hT, fun t r => X.baloadBytes hx (by rw [hT]; exact Ar.1) (State.isArrayOf_alike hZ.alike Ar.2.1) Ar.2.2 q (by rw [e]; simpa using hv) (g := mkF K.m pc L (.int j :: .ref a :: S)) rfl rfl (Jvm.hb hb hd) t r⟩
theorem OAt.aaload {ty : FieldType} {vs : List Value} {a : Addr} {j : Int32} (c : OAt G K M A cs sl h pc L (.int j :: .ref a :: S)) (pc' : Nat) (hd : decode M.b pc = .ok (.aaload, 1)) (F : Ary G.Z h a ty vs) (hty : ty.isReference = true) (i : Nat) (hj : Int32.ofNat i = j) (v : Value) (hv : vs[i]? = some v) (hp : pc + 1 = pc' := by rfl) : OAt G K M A cs sl h pc' L (v :: S) := by
  subst hp
  obtain ⟨cl, Ar, rfl, hl, -⟩ := F
  have hi : i < cl.slots.size := by simpa using (List.getElem?_eq_some_iff.mp hv).1
  obtain ⟨e, q⟩ := own_ix hj hi (by simpa using hl)
  exact c.pure fun vm0 T locs X hT hx hb hZ hown hO => ⟨T, X, hT, fun t r => X.aaload hx (by rw [hT]; exact Ar.1) (State.isArrayOf_alike hZ.alike Ar.2.1) hty Ar.2.2 q (by rw [e]; simpa using hv) (g := mkF K.m pc L (.int j :: .ref a :: S)) rfl rfl (Jvm.hb hb hd) t r⟩
theorem OAt.newO {C : String} {ix n : Nat} (c : OAt G K M A cs sl h pc L S) (pc' : Nat) (hd : decode M.b pc = .ok (.new ix, 3)) (w1 : OW G (Jvm.Cond.classLink M.own ix C)) (w2 : OW G (Jvm.Cond.instantiable C n)) (w3 : OW G (Jvm.Cond.initialized C)) (hc : cs + 1 ≤ M.R.cells) (hl : sl + n ≤ M.R.slots) (hp : pc + 3 = pc' := by rfl) :
    ∃ (a : Addr) (h' : Heap), a = h.size ∧ Ext h h' ∧ G.n0 ≤ a ∧ Exa G.Z h' a C ∧ (∀ {O nm d : String} {ty : FieldType}, Laid G.Z G.a0 C O nm d → parseFieldDescriptor d = some ty → Fld G.Z h' a O nm d (defaultValue ty)) ∧ Unt h' a ∧ OAt G K M (a :: A) (cs + 1) (sl + n) h' pc' L (.ref a :: S) := by
  subst hp
  obtain ⟨h', E, hn, ⟨hE, hF, hU⟩, c'⟩ := c.grow (pc' := pc + 3) (L' := L) (S' := .ref h.size :: S) (cs' := cs + 1) (sl' := sl + n) (P := fun h' => Exa G.Z h' h.size C ∧ (∀ {O nm d : String} {ty : FieldType}, Laid G.Z G.a0 C O nm d → parseFieldDescriptor d = some ty → Fld G.Z h' h.size O nm d (defaultValue ty)) ∧ Unt h' h.size)
    fun vm0 T locs X hT hx hb hZ hown => by
      obtain ⟨T', h', X', e', E', Ex, Fl, U, st⟩ := Jvm.RoadKit.newO X hx hZ hown w1 w2 w3 hT (g := mkF K.m pc L S) rfl (Jvm.hb hb hd) hc hl
      exact ⟨T', h', X', e', E', Ex.lt, ⟨Ex, Fl, U⟩, st⟩
  exact ⟨h.size, h', rfl, E, hn, hE, hF, hU, c'⟩
theorem OAt.newarr {aty : ArrayType} {n : Int32} (c : OAt G K M A cs sl h pc L (.int n :: S)) (pc' : Nat) (hd : decode M.b pc = .ok (.newarray aty, 2)) (ty : FieldType) (hty : newarray.typeOf aty = ty) (w : OW G (Jvm.Cond.arrayClass ty)) (k : Nat) (hn : Int32.ofNat k = n) (cap : Nat) (hk : k ≤ cap) (hb : cap * 8 ≤ 536870912) (hc : cs + 1 ≤ M.R.cells) (hl : sl + cap ≤ M.R.slots) (hp : pc + 2 = pc' := by rfl) :
    ∃ (a : Addr) (h' : Heap), a = h.size ∧ Ext h h' ∧ G.n0 ≤ a ∧ Ary G.Z h' a ty (List.replicate k (defaultValue ty)) ∧ OAt G K M (a :: A) (cs + 1) (sl + cap) h' pc' L (.ref a :: S) := by
  subst hp hty hn
  have hk31 : k < 2147483648 := by omega
  have e := Int32.toInt_ofNat_small (show k < 2 ^ 31 by omega)
  have e2 : (Int32.ofNat k).toNatClampNeg = k := by simp only [Int32.toNatClampNeg, e]; simp
  obtain ⟨h', E, hn, hA, c'⟩ := c.grow (pc' := pc + 2) (L' := L) (S' := .ref h.size :: S) (cs' := cs + 1) (sl' := sl + cap) (P := fun h' => Ary G.Z h' h.size (newarray.typeOf aty) (List.replicate k (defaultValue (newarray.typeOf aty))))
    fun vm0 T locs X hT hx hbb hZ hown => by
      obtain ⟨T', h', cA, X', e', E', Ar, st⟩ := newP X hx hZ w hT (g := mkF K.m pc L (.int (Int32.ofNat k) :: S)) rfl (Jvm.hb hbb hd) rfl (by rw [Int32.lt_iff_toInt_lt, e]; show ¬ (k : Int) < 0; omega) (cap := cap) (by omega) hb hc hl
      exact ⟨T', h', X', e', E', Ar.lt, Ary.new Ar hk31 (by cases aty <;> rfl), st⟩
  exact ⟨h.size, h', rfl, E, hn, hA, c'⟩
theorem OAt.castore {vs : List Value} {a : Addr} {j x : Int32} (c : OAt G K M A cs sl h pc L (.int x :: .int j :: .ref a :: S)) (pc' : Nat) (hd : decode M.b pc = .ok (.castore, 1)) (F : Ary G.Z h a .char vs) (i : Nat) (hj : Int32.ofNat i = j) (hi : i < vs.length) (hn : G.n0 ≤ a) (y : Int32) (hy : nar .char x = y) (hp : pc + 1 = pc' := by rfl) :
    ∃ h', Wr h h' a i (.int y) ∧ Ary G.Z h' a .char (vs.set i (.int y)) ∧ OAt G K M A cs sl h' pc' L S := by
  subst hp hy
  have F' := F
  obtain ⟨cl, Ar, rfl, hl, -⟩ := F
  obtain ⟨e, q⟩ := own_ix hj (by simpa using hi) (by simpa using hl)
  obtain ⟨h', W, c'⟩ := c.write (pc' := pc + 1) (L' := L) (S' := S) (a := a) (i := i) (v := .int (nar .char x)) hn (fun vm0 hal _ => Safe.arr hal Ar (by decide))
    fun vm0 T locs X hT hx hb hZ hown hnm => by
      have st := stC X hx hZ hT Ar q (g := mkF K.m pc L (.int x :: .int j :: .ref a :: S)) rfl rfl (Jvm.hb hb hd)
      rw [e] at st
      exact st
  exact ⟨h', W, F'.set W (fits_nar_char x), c'⟩
theorem OAt.bastore {vs : List Value} {a : Addr} {j x : Int32} (c : OAt G K M A cs sl h pc L (.int x :: .int j :: .ref a :: S)) (pc' : Nat) (hd : decode M.b pc = .ok (.bastore, 1)) (F : Ary G.Z h a .byte vs) (i : Nat) (hj : Int32.ofNat i = j) (hi : i < vs.length) (hn : G.n0 ≤ a) (hA : a ∈ A) (y : Int32) (hy : nar .byte x = y) (hp : pc + 1 = pc' := by rfl) :
    ∃ h', Wr h h' a i (.int y) ∧ Ary G.Z h' a .byte (vs.set i (.int y)) ∧ OAt G K M A cs sl h' pc' L S := by
  subst hp hy
  have F' := F
  obtain ⟨cl, Ar, rfl, hl, -⟩ := F
  obtain ⟨e, q⟩ := own_ix hj (by simpa using hi) (by simpa using hl)
  obtain ⟨h', W, c'⟩ := c.write (pc' := pc + 1) (L' := L) (S' := S) (a := a) (i := i) (v := .int (nar .byte x)) hn (fun vm0 hal hs => (hs a hA).2)
    fun vm0 T locs X hT hx hb hZ hown hnm => by
      have st := stB X hx hZ hT Ar q (g := mkF K.m pc L (.int x :: .int j :: .ref a :: S)) rfl rfl (Jvm.hb hb hd)
      rw [e] at st
      exact st
  exact ⟨h', W, F'.set W (fits_nar_byte x), c'⟩
theorem OAt.putF {O n d R0 C : String} {ix kk : Nat} {ty : FieldType} {a : Addr} {v old : Value} (c : OAt G K M A cs sl h pc L (v :: .ref a :: S)) (pc' : Nat) (hd : decode M.b pc = .ok (.putfield ix, 3)) (w : OW G (Jvm.Cond.fieldLink M.own ix R0 n d)) (F : Fld G.Z h a O n d old) (E : Exa G.Z h a C)
    (wl : OW G (Jvm.Cond.lays C O n d) ∨ (OW G (Jvm.Cond.laysFinal C O n d) ∧ M.own = O ∧ M.nm = "<init>")) (wi : OW G (Jvm.Cond.instantiable C kk)) (hty : parseFieldDescriptor d = some ty) (hn : narrow ty v = v) (hf : fits ty v = true) (h0 : G.n0 ≤ a) (hA : a ∈ A ∨ (C ≠ "java/lang/String" ∧ C ≠ "[B")) (via : Via G.Z R0 O n d := by exact Via.refl) (hp : pc + 3 = pc' := by rfl) :
    ∃ h', Wr h h' a (Jvm.RoadKit.slotOf G.Z O n d) v ∧ OAt G K M A cs sl h' pc' L S := by
  subst hp
  exact c.write h0 (fun vm0 hal hs => hA.elim (fun q => (hs a q).2) (fun q => Safe.exa hal E q.1 q.2))
    fun vm0 T locs X hT hx hb hZ hown hnm => Jvm.RoadKit.putF X hx hZ hown (host := "") (Or.inl w) via hT F E (wl.imp id (fun q => ⟨q.1, q.2.1, hnm.trans q.2.2⟩)) wi hty hn hf (g := mkF K.m pc L (v :: .ref a :: S)) rfl rfl (Jvm.hb hb hd)
end HeapSteps
section Calls
variable {G : Gx} {K : Kx} {M : Mx} {A : List Addr} {cs sl : Nat} {h : Heap} {pc : Nat} {L : Array Slot} {S : List Value}
theorem own_safe {Z : State} {EL : List (String × Nat)} {vm vm1 : Vm} {h : Heap} {x : Addr} (A : CHr Z EL vm h vm1 h) (q : x < h.size ∧ Safe Z EL vm h x) : x < h.size ∧ Safe Z EL vm1 h x := ⟨q.1, A.safe q.1 q.2⟩
/-- a contract, as the payer of a call -/
theorem OCon.payer {y : MethodName} {B : ByteArray} {ml : Nat} {rt : Option FieldType} {rm : Room} {as : Array Value} {A' : List Addr} {Q : Option Value → Heap → (Addr → Prop) → Prop} {p : Program} {e : Env} {R : Room} {s : State} {vm0 : Vm} {args : Array Value} {below : List Frame} {len W : Nat}
    (hC : OCon G y B ml rt [] rm as A' h Q) (hZ : G.Z.Warmed39 (s.setVm vm0).vm) (wc : OW G (Jvm.Cond.code y B ml rt)) (wz : OW G (Jvm.Cond.initialized y.cls)) (hf : rm.frames + 1 ≤ R.frames) (hl : W + (ml + 11) + rm.locals ≤ R.locals) (hEL : EW G.Z G.a0 G.EL) (H : CHv G.Z G.EL vm0 h) (hA : ∀ x ∈ A', OSafe G vm0 h x) (hO : Old G.Z G.n0 h) :
    BackS G.l R p e below (s.setVm vm0) args y len W (fun P a => a = as ∧ P.U.heap = h ∧ P.cells + rm.cells ≤ R.cells ∧ P.slots + rm.slots ≤ R.slots)
      (fun P _ v P' => ∃ L', Q v P'.U.heap (OSafe G P'.U.vm P'.U.heap) ∧ Fr G.n0 L' ∧ Old G.Z G.n0 P'.U.heap ∧ P'.locs = P.locs ++ L' ∧ P'.cells = P.cells + rm.cells ∧ P'.slots = P.slots + rm.slots ∧ CHr G.Z G.EL vm0 h P'.U.vm P'.U.heap) :=
  BackS.of_freeW (bytes := B) (maxL := ml) (ret := rt) (E := fun _ first o t L' k n => k = rm.cells ∧ n = rm.slots ∧ (∃ v, o = .returned v ∧ Q v t.heap (OSafe G t.vm t.heap)) ∧ Fr G.n0 L' ∧ Old G.Z G.n0 t.heap ∧ CHr G.Z G.EL first.vm first.heap t.vm t.heap) hC hf hl
    (fun m meth c P a Y hp => have hU : G.Z.Warmed39 P.U.vm := wtrans (s := s.setVm vm0) hZ Y.warmed
      ⟨by show (Jvm.Cond.and _ .tt).before a P.U = true; rw [Cond.before_and, mv hU wc]; rfl, mv hU wc, mv hU wz, hp.2.2.1, hp.2.2.2⟩)
    (fun m meth c P a g mk Y hp => have hc := CHv.at Y hZ hEL H; ⟨hp.1, wtrans (s := s.setVm vm0) hZ Y.warmed, hp.2.1, hc.1, fun x hx => own_safe hc (hA x hx), hO⟩) (fun _ _ _ _ _ _ _ _ _ => trivial)
    (fun _ _ _ _ ⟨v, L', h1, h2, h3, h4, h5, h6⟩ => ⟨L', _, _, h6, rfl, rfl, ⟨v, h1, h2⟩, h3, h4, h5⟩)
    (fun m meth c P a g mk v t L' k n Y hp _ _ ⟨e1, e2, ⟨v', e3, e4⟩, e5, e6, e7⟩ => by
      cases e3; subst e1 e2
      refine ⟨L', e4, e5, e6, rfl, rfl, rfl, (CHv.at Y hZ hEL H).trans ?_⟩
      rw [← hp.2.1]; exact e7)
/-- what a call leaves, folded -/
theorem own_after {rm : Room} {Q : Option Value → Heap → (Addr → Prop) → Prop} {v : Option Value} {vm0 : Vm} {k0 : Nat} {T : State} {locs : List Loc} {P' : Pt} {pc' : Nat} {S' : List Value} (ok : OOk G K M) (hT : T.heap = h) (hS : K.s.Since vm0 k0) (hk : k0 ≤ h.size) (hZ : G.Z.Warmed39 (K.s.setVm vm0).vm) (hown : (K.s.setVm vm0).vm.findClass M.own = some K.m.cls)
    (hC : CHr G.Z G.EL K.s.vm K.s.heap vm0 h) (hA : ∀ x ∈ A, OSafe G vm0 h x) (hF : Fr G.n0 locs)
    (X' : Stand K.p G.l K.e M.R ((K.s.setVm vm0).setVm P'.U.vm) K.m K.args K.below K.meth K.c P'.U P'.locs P'.cells P'.slots) (hS' : (K.s.setVm vm0).Since P'.U.vm P'.U.heap.size) (hg : T.heap.size ≤ P'.U.heap.size)
    (hq : ∃ L', Q v P'.U.heap (OSafe G P'.U.vm P'.U.heap) ∧ Fr G.n0 L' ∧ Old G.Z G.n0 P'.U.heap ∧ P'.locs = locs ++ L' ∧ P'.cells = cs + rm.cells ∧ P'.slots = sl + rm.slots ∧ CHr G.Z G.EL vm0 h P'.U.vm P'.U.heap)
    (st : Steps K.p.tables K.e K.below K.s0 (P'.U.setTop (mkF K.m pc' L S'))) : ∃ sf, Q v P'.U.heap sf ∧ ∀ B, (∀ x ∈ B, sf x) → OAt G K M (B ++ A) (cs + rm.cells) (sl + rm.slots) P'.U.heap pc' L S' := by
  obtain ⟨L', q1, q2, q3, q4, q5, q6, q7⟩ := hq
  rw [hT] at hg
  obtain ⟨X2, hS2, hZ2, hown2⟩ := rebS hS hk X' hS' hg hZ hown
  rw [q4, q5, q6] at X2
  exact ⟨_, q1, fun B hB => ⟨ok, P'.U.vm, P'.U.heap.size, P'.U, locs ++ L', X2, rfl, hS2, Nat.le_refl _, hZ2, hown2, hC.trans q7, fun x hx => (List.mem_append.mp hx).elim (hB x) fun hx => ⟨Nat.lt_of_lt_of_le (hA x hx).1 hg, q7.safe (hA x hx).1 (hA x hx).2⟩, hF.app q2, q3, st⟩⟩
theorem OAt.callS {y : MethodName} {B : ByteArray} {ml : Nat} {rt : Option FieldType} {rm : Room} {A' : List Addr} {Q : Option Value → Heap → (Addr → Prop) → Prop} {ix W : Nat} {argsL rest : List Value} (c : OAt G K M A cs sl h pc L S) (pc' : Nat) (hd : decode M.b pc = .ok (.invokestatic ix, 3))
    (hC : OCon G y B ml rt [] rm argsL.toArray A' h Q) (hstk : S = argsL.reverse ++ rest) (w1 : OW G (Jvm.Cond.methodLink M.own ix y)) (w2 : OW G (Jvm.Cond.static y)) (w3 : OW G (Jvm.Cond.initialized y.cls)) (w4 : OW G (Jvm.Cond.code y B ml rt)) (hlen : ∀ sig, parseMethodDescriptor y.desc = some sig → argsL.length = sig.parameters.length)
    (hA : ∀ x ∈ A', x ∈ A) (hW : (rest.map fun v => v.category).sum = W) (hl : W + (ml + 11) + rm.locals ≤ M.R.locals) (hf : rm.frames + 1 ≤ M.R.frames) (hc : cs + rm.cells ≤ M.R.cells) (hs : sl + rm.slots ≤ M.R.slots) (hy : y.cls ≠ "java/lang/invoke/MethodHandle" ∧ y.cls ≠ "java/lang/invoke/VarHandle" := by decide) (hL : L.size = M.ml := by rfl) (hp : pc + 3 = pc' := by rfl) :
    ∃ (v : Option Value) (h' : Heap) (sf : Addr → Prop), Q v h' sf ∧ ∀ B, (∀ x ∈ B, sf x) → OAt G K M (B ++ A) (cs + rm.cells) (sl + rm.slots) h' pc' L (v.toList ++ rest) := by
  subst hp
  obtain ⟨ok, vm0, k0, T, locs, X, hT, hS, hk, hZ, hown, hCh, hAs, hF, hO, st⟩ := c
  obtain ⟨v, vm1, P', hw1, X', hS', hg, hq, st'⟩ := callSS X ok.1 hown (mvT hZ w1) (mvT hZ w2) (mvT hZ w3) (mvT hZ w4) hy (hC.payer hZ w4 w3 hf hl ok.2.2.2.2.2.2 hCh.1 (fun x hx => hAs x (hA x hx)) hO) (g := mkF K.m pc L S) rfl (hL.trans ok.2.2.2.2.2.1.symm) (argsL := argsL) (rest := rest) hlen hstk (by show 2 * 0 + _ ≤ _; omega) (Jvm.hb ok.2.1 hd) (fun _ _ => ⟨rfl, hT, hc, hs⟩)
  obtain ⟨sf, q, c'⟩ := own_after (v := v) (L := L) (S' := v.toList ++ rest) (pc' := pc + 3) ok hT hS hk hZ hown hCh hAs hF X' hS' hg hq (st.trans st')
  exact ⟨v, _, sf, q, c'⟩
theorem OAt.callI {y : MethodName} {B : ByteArray} {ml : Nat} {rm : Room} {A' : List Addr} {Q : Option Value → Heap → (Addr → Prop) → Prop} {ix W : Nat} {a : Addr} {argsL rest : List Value} (c : OAt G K M A cs sl h pc L S) (pc' : Nat) (hd : decode M.b pc = .ok (.invokespecial ix, 3))
    (hC : OCon G y B ml none [] rm (.ref a :: argsL).toArray A' h Q) (hstk : S = argsL.reverse ++ .ref a :: rest) (w1 : OW G (Jvm.Cond.methodLink M.own ix y)) (w2 : OW G (Jvm.Cond.instanceMethod y)) (w3 : OW G (Jvm.Cond.initialized y.cls)) (w4 : OW G (Jvm.Cond.code y B ml none)) (hlen : ∀ sig, parseMethodDescriptor y.desc = some sig → argsL.length = sig.parameters.length)
    (hA : ∀ x ∈ A', x ∈ A) (hW : (rest.map fun v => v.category).sum = W) (hl : W + (ml + 11) + rm.locals ≤ M.R.locals) (hf : rm.frames + 1 ≤ M.R.frames) (hc : cs + rm.cells ≤ M.R.cells) (hs : sl + rm.slots ≤ M.R.slots) (hy1 : y.name = "<init>" := by rfl) (hy : y.cls ≠ "java/lang/invoke/MethodHandle" ∧ y.cls ≠ "java/lang/invoke/VarHandle" := by decide) (hL : L.size = M.ml := by rfl) (hp : pc + 3 = pc' := by rfl) :
    ∃ (v : Option Value) (h' : Heap) (sf : Addr → Prop), Q v h' sf ∧ ∀ B, (∀ x ∈ B, sf x) → OAt G K M (B ++ A) (cs + rm.cells) (sl + rm.slots) h' pc' L (v.toList ++ rest) := by
  subst hp
  obtain ⟨ok, vm0, k0, T, locs, X, hT, hS, hk, hZ, hown, hCh, hAs, hF, hO, st⟩ := c
  obtain ⟨v, vm1, P', hw1, X', hS', hg, hq, st'⟩ := X.specialBackS ok.1 hy1 hown (mvT hZ w1) (mvT hZ w2) (mvT hZ w4) hy (hC.payer hZ w4 w3 hf hl ok.2.2.2.2.2.2 hCh.1 (fun x hx => hAs x (hA x hx)) hO) (g := mkF K.m pc L S) rfl (hL.trans ok.2.2.2.2.2.1.symm) st (a := a) (argsL := argsL) (rest := rest) hlen hstk (by show 2 * 0 + _ ≤ _; omega) (Jvm.hb ok.2.1 hd) (fun _ _ => ⟨rfl, hT, hc, hs⟩)
  obtain ⟨sf, q, c'⟩ := own_after (v := v) (L := L) (S' := v.toList ++ rest) (pc' := pc + 3) ok hT hS hk hZ hown hCh hAs hF X' hS' hg hq st'
  exact ⟨v, _, sf, q, c'⟩
theorem OAt.callV {y z : MethodName} {C : String} {B : ByteArray} {ml : Nat} {rt : Option FieldType} {rm : Room} {A' : List Addr} {Q : Option Value → Heap → (Addr → Prop) → Prop} {ix W : Nat} {a : Addr} {argsL rest : List Value} (c : OAt G K M A cs sl h pc L S) (pc' : Nat) (hd : decode M.b pc = .ok (.invokevirtual ix, 3))
    (hC : OCon G z B ml rt [] rm (.ref a :: argsL).toArray A' h Q) (hstk : S = argsL.reverse ++ .ref a :: rest) (E : Exa G.Z h a C) (w1 : OW G (Jvm.Cond.methodLink M.own ix y)) (w2 : OW G (Jvm.Cond.declares y)) (nf : ONf G y) (w5 : OW G (Jvm.Cond.selects C y z)) (w6 : OW G (Jvm.Cond.instanceMethod z)) (w3 : OW G (Jvm.Cond.initialized z.cls)) (w4 : OW G (Jvm.Cond.code z B ml rt)) (hlen : ∀ sig, parseMethodDescriptor y.desc = some sig → argsL.length = sig.parameters.length)
    (hA : ∀ x ∈ A', x ∈ A) (hW : (rest.map fun v => v.category).sum = W) (hl : W + (ml + 11) + rm.locals ≤ M.R.locals) (hf : rm.frames + 1 ≤ M.R.frames) (hc : cs + rm.cells ≤ M.R.cells) (hs : sl + rm.slots ≤ M.R.slots) (hy : y.cls ≠ "java/lang/invoke/MethodHandle" ∧ y.cls ≠ "java/lang/invoke/VarHandle" := by decide) (hL : L.size = M.ml := by rfl) (hp : pc + 3 = pc' := by rfl) :
    ∃ (v : Option Value) (h' : Heap) (sf : Addr → Prop), Q v h' sf ∧ ∀ B, (∀ x ∈ B, sf x) → OAt G K M (B ++ A) (cs + rm.cells) (sl + rm.slots) h' pc' L (v.toList ++ rest) := by
  subst hp
  obtain ⟨ok, vm0, k0, T, locs, X, hT, hS, hk, hZ, hown, hCh, hAs, hF, hO, st⟩ := c
  obtain ⟨cB, kB, i1, i2, i3⟩ := isOf hZ hT E
  obtain ⟨v, vm1, P', hw1, X', hS', hg, hq, st'⟩ := X.virtualBackS ok.1 hown (mvT hZ w1) (mvT hZ w2) (nf _ hZ) (mvT hZ w5) (mvT hZ w6) hy (hC.payer hZ w4 w3 hf hl ok.2.2.2.2.2.2 hCh.1 (fun x hx => hAs x (hA x hx)) hO) i1 i3 (g := mkF K.m pc L S) rfl (hL.trans ok.2.2.2.2.2.1.symm) st (argsL := argsL) (rest := rest) hlen hstk (by show 2 * 0 + _ ≤ _; omega) (Jvm.hb ok.2.1 hd) (fun _ _ => ⟨rfl, hT, hc, hs⟩)
  obtain ⟨sf, q, c'⟩ := own_after (v := v) (L := L) (S' := v.toList ++ rest) (pc' := pc + 3) ok hT hS hk hZ hown hCh hAs hF X' hS' hg hq st'
  exact ⟨v, _, sf, q, c'⟩
theorem OAt.callF {y z : MethodName} {C : String} {B : ByteArray} {ml : Nat} {rt : Option FieldType} {rm : Room} {A' : List Addr} {Q : Option Value → Heap → (Addr → Prop) → Prop} {ix cnt W : Nat} {a : Addr} {argsL rest : List Value} (c : OAt G K M A cs sl h pc L S) (pc' : Nat) (hd : decode M.b pc = .ok (.invokeinterface ix cnt, 5))
    (hC : OCon G z B ml rt [] rm (.ref a :: argsL).toArray A' h Q) (hstk : S = argsL.reverse ++ .ref a :: rest) (E : Exa G.Z h a C) (w1 : OW G (Jvm.Cond.methodLink M.own ix y)) (w2 : OW G (Jvm.Cond.declares y)) (w7 : OW G (Jvm.Cond.interfaceMethod y.cls y.cls y.name y.desc)) (w5 : OW G (Jvm.Cond.selects C y z)) (w6 : OW G (Jvm.Cond.instanceMethod z)) (w8 : OW G (Jvm.Cond.publicMethod z)) (w9 : OW G (Jvm.Cond.unhidden C y.name y.desc)) (w10 : OW G (Jvm.Cond.castable C y.cls)) (w3 : OW G (Jvm.Cond.initialized z.cls)) (w4 : OW G (Jvm.Cond.code z B ml rt)) (hlen : ∀ sig, parseMethodDescriptor y.desc = some sig → argsL.length = sig.parameters.length)
    (hA : ∀ x ∈ A', x ∈ A) (hW : (rest.map fun v => v.category).sum = W) (hl : W + (ml + 11) + rm.locals ≤ M.R.locals) (hf : rm.frames + 1 ≤ M.R.frames) (hc : cs + rm.cells ≤ M.R.cells) (hs : sl + rm.slots ≤ M.R.slots) (m7 : ((Jvm.Cond.interfaceMethod y.cls y.cls y.name y.desc).onTables && (Jvm.Cond.interfaceMethod y.cls y.cls y.name y.desc).keepsFace) = true := by first | rfl | decide) (hy : y.cls ≠ "java/lang/invoke/MethodHandle" ∧ y.cls ≠ "java/lang/invoke/VarHandle" := by decide) (hL : L.size = M.ml := by rfl) (hp : pc + 5 = pc' := by rfl) :
    ∃ (v : Option Value) (h' : Heap) (sf : Addr → Prop), Q v h' sf ∧ ∀ B, (∀ x ∈ B, sf x) → OAt G K M (B ++ A) (cs + rm.cells) (sl + rm.slots) h' pc' L (v.toList ++ rest) := by
  subst hp
  obtain ⟨ok, vm0, k0, T, locs, X, hT, hS, hk, hZ, hown, hCh, hAs, hF, hO, st⟩ := c
  obtain ⟨cB, kB, i1, i2, i3⟩ := isOf hZ hT E
  obtain ⟨v, vm1, P', hw1, X', hS', hg, hq, st'⟩ := X.interfaceBackS ok.1 hown (mvT hZ w1) (mvT hZ w2) (mvT hZ w7 m7) (mvT hZ w5) (mvT hZ w6) (mvT hZ w8) (mvT hZ w9) (mvT hZ w10) hy (hC.payer hZ w4 w3 hf hl ok.2.2.2.2.2.2 hCh.1 (fun x hx => hAs x (hA x hx)) hO) i1 i2 i3 (g := mkF K.m pc L S) rfl (hL.trans ok.2.2.2.2.2.1.symm) st (argsL := argsL) (rest := rest) hlen hstk (by show 2 * 0 + _ ≤ _; omega) (Jvm.hb ok.2.1 hd) (fun _ _ => ⟨rfl, hT, hc, hs⟩)
  obtain ⟨sf, q, c'⟩ := own_after (v := v) (L := L) (S' := v.toList ++ rest) (pc' := pc + 5) ok hT hS hk hZ hown hCh hAs hF X' hS' hg hq st'
  exact ⟨v, _, sf, q, c'⟩
theorem OCon.intro {y : MethodName} {B : ByteArray} {ml : Nat} {rt : Option FieldType} {ws : List Jvm.Cond} {rm : Room} {as : Array Value} {Q : Option Value → Heap → (Addr → Prop) → Prop} (pf : plainFor y = true) (ew : EW G.Z G.a0 G.EL) (L0 : Array Slot) (ef : ∀ m, entryFrame m as ml = mkF m 0 L0 []) 
    (body : ∀ K, OAt G K (B, y.cls, rt, y.name, ml, rm) A 0 0 h 0 L0 [] → ODone G K rm Q) : OCon G y B ml rt ws rm as A h Q := by
  refine MetFree.of_bodySF pf hisR ?_
  intro p e s m args below meth c s₁ Bd hml0 hP hK
  obtain ⟨rfl, hZ, hh, hCH, hA, hO⟩ := hP
  have X0 : Stand p G.l e rm s m args below meth c s₁ [] 0 0 := Stand.of_body Bd
  have e0 : s₁.heap = h := by rw [← hh, Bd.state]; rfl
  have nm := (name_of_methodNamed Bd.named Bd.method).1
  exact body (p, e, s, m, args, below, meth, c, s₁.setTop (entryFrame m args ml)) ⟨⟨Bd.exec, Bd.bytes, Bd.returns, Bd.notSynchronized, nm, hml0, ew⟩, s.vm, s.heap.size, s₁, [], X0, e0, (State.WarmedH.refl s).since _, by rw [hh]; exact Nat.le_refl _, hZ, findClass_of_methodNamed Bd.named,
    by rw [hh]; exact CHr.refl hCH, hA, Fr.nil _, hO, castTop (ef m) (Steps.refl _)⟩
/-- the end of a walk, whatever the return -/
theorem OAt.done {rm : Room} {Q : Option Value → Heap → (Addr → Prop) → Prop} {v : Option Value} (c : OAt G K M A cs sl h pc L S) (hv : M.rt = none → v = none) (hc : cs ≤ rm.cells) (hs : sl ≤ rm.slots) (hQ : ∀ sf : Addr → Prop, (∀ x ∈ A, sf x) → Q v h sf)
    (f : ∀ vm0 T locs, OSt G K M cs sl h vm0 T locs → K.p.tables.exec = Jvm.exec → K.c.code = M.b → K.meth.sig.returnType = M.rt → ∀ fs, (∀ (f : JFrame) (acts : List Action), f.method = K.m → f.locked = none → f.entered = [] → (doReturn K.e (T.setTop f) acts v).1 = T.setFrames fs) → Steps K.p.tables K.e K.below (T.setTop (mkF K.m pc L S)) (T.setFrames fs)) : ODone G K rm Q := by
  obtain ⟨ok, vm0, k0, T, locs, X, hT, hS, hk, hZ, hown, hCh, hAs, hF, hO, st⟩ := c
  obtain ⟨fs, hr, hrun, hended, hW⟩ := (X.more hc hs).leaveW hS (by rw [hT]; exact hk) (v := v) (fun q => hv (ok.2.2.1.symm.trans q)) ok.2.2.2.1
  subst hT
  have hc2 := CHv.at X hZ ok.2.2.2.2.2.2 hCh.1
  refine ⟨T.setFrames fs, _, st.trans (f vm0 T locs X ok.1 ok.2.1 ok.2.2.1 fs hr), hrun, hended, v, locs, rfl, hQ _ fun x hx => own_safe hc2 (hAs x hx), hF, hO, hCh.trans hc2, hW⟩
theorem OAt.ret {rm : Room} {Q : Option Value → Heap → (Addr → Prop) → Prop} (c : OAt G K M A cs sl h pc L []) (hd : decode M.b pc = .ok (.return_, 1)) (hrt : M.rt = none) (hQ : ∀ sf : Addr → Prop, (∀ x ∈ A, sf x) → Q none h sf) (hc : cs ≤ rm.cells) (hs : sl ≤ rm.slots) : ODone G K rm Q :=
  c.done (fun _ => rfl) hc hs hQ fun vm0 T locs X hx hb hr fs hl => X.returnOut hx (hr.trans hrt) (Jvm.hb hb hd) hl
theorem OAt.reti {rm : Room} {Q : Option Value → Heap → (Addr → Prop) → Prop} {w : Int32} {t : FieldType} (c : OAt G K M A cs sl h pc L (.int w :: S)) (hd : decode M.b pc = .ok (.ireturn, 1)) (hrt : M.rt = some t) (hn : narrow t (.int w) = .int w) (hti : t = .int ∨ t = .boolean ∨ t = .byte ∨ t = .char ∨ t = .short) (hQ : ∀ sf : Addr → Prop, (∀ x ∈ A, sf x) → Q (some (.int w)) h sf) (hc : cs ≤ rm.cells) (hs : sl ≤ rm.slots) : ODone G K rm Q :=
  c.done (fun q => by rw [hrt] at q; cases q) hc hs hQ fun vm0 T locs X hx hb hr fs hl => retOut X hx (hr.trans hrt) hn (Or.inl ⟨rfl, hti, w, rfl⟩) (Jvm.hb hb hd) hl
theorem OAt.retl {rm : Room} {Q : Option Value → Heap → (Addr → Prop) → Prop} {w : Int64} (c : OAt G K M A cs sl h pc L (.long w :: S)) (hd : decode M.b pc = .ok (.lreturn, 1)) (hrt : M.rt = some .long) (hQ : ∀ sf : Addr → Prop, (∀ x ∈ A, sf x) → Q (some (.long w)) h sf) (hc : cs ≤ rm.cells) (hs : sl ≤ rm.slots) : ODone G K rm Q :=
  c.done (fun q => by rw [hrt] at q; cases q) hc hs hQ fun vm0 T locs X hx hb hr fs hl => retOut X hx (hr.trans hrt) rfl (Or.inr (Or.inl ⟨rfl, rfl, w, rfl⟩)) (Jvm.hb hb hd) hl
theorem OAt.reta {rm : Room} {Q : Option Value → Heap → (Addr → Prop) → Prop} {w : Value} {t : FieldType} (c : OAt G K M A cs sl h pc L (w :: S)) (hd : decode M.b pc = .ok (.areturn, 1)) (hrt : M.rt = some t) (ht : t.isReference = true) (hn : narrow t w = w) (hw : w.isRef = true) (hQ : ∀ sf : Addr → Prop, (∀ x ∈ A, sf x) → Q (some w) h sf) (hc : cs ≤ rm.cells) (hs : sl ≤ rm.slots) : ODone G K rm Q :=
  c.done (fun q => by rw [hrt] at q; cases q) hc hs hQ fun vm0 T locs X hx hb hr fs hl => retOut X hx (hr.trans hrt) hn (Or.inr (Or.inr (Or.inr (Or.inr ⟨rfl, ht, hw⟩)))) (Jvm.hb hb hd) hl
end Calls
section Cold
variable {G : Gx} {K : Kx} {M : Mx} {A : List Addr} {cs sl : Nat} {h : Heap} {pc : Nat} {L : Array Slot} {S : List Value}
theorem OAt.istoreS {k : Nat} {v : Int32} {o : Slot} (c : OAt G K M A cs sl h pc L (.int v :: S)) (pc' : Nat) (hd : decode M.b pc = .ok (.istore k, 2)) (hl : L[k]? = some o) (ho : One o) (hp : pc + 2 = pc' := by rfl) : OAt G K M A cs sl h pc' (L.setIfInBounds k (.val (.int v))) S := by
  subst hp
  exact c.pure fun vm0 T locs X hT hx hb hZ hown hO => ⟨T, X, hT, fun t r => XS.istoreS X.here hx rfl (Jvm.hb hb hd) rfl hl ho r⟩
theorem OAt.astoreS {k : Nat} {v : Value} {o : Slot} (c : OAt G K M A cs sl h pc L (v :: S)) (pc' : Nat) (hd : decode M.b pc = .ok (.astore k, 2)) (hv : v.isRef = true) (hc : v.category = 1) (hl : L[k]? = some o) (ho : One o) (hp : pc + 2 = pc' := by rfl) : OAt G K M A cs sl h pc' (L.setIfInBounds k (.val v)) S := by
  subst hp
  exact c.pure fun vm0 T locs X hT hx hb hZ hown hO => ⟨T, X, hT, fun t r => XS.astoreS X.here hx rfl (Jvm.hb hb hd) rfl hv hc hl ho r⟩
/-- ldc of a String constant whose text is assumed held -/
theorem OAt.ldcS {text : String} {ix : Nat} (c : OAt G K M A cs sl h pc L S) (pc' : Nat) (hd : decode M.b pc = .ok (.ldc ix, 2)) (w : OW G (Jvm.Cond.stringLink M.own ix text)) (wS : ∀ a ∈ Bundle.stringAtoms, OW G a) (hmem : (M.own, ix) ∈ G.EL) (vs : List Value) (ht : (∀ c ∈ text.toList, c.toNat < 256) ∧ text.toList.map (fun c => Value.int (Jvm.Lit.byteI c.toNat.toUInt16)) = vs) (hvl : vs.length < 2147483648)
    (n : Nat) (hn : 4 * text.toList.length ≤ n) (hbig : n ≤ 536870912) (hc : cs + 2 ≤ M.R.cells) (hl : sl + (n + 4) ≤ M.R.slots) (hp : pc + 2 = pc' := by rfl) :
    ∃ (a b : Addr) (h' : Heap), Ext h h' ∧ Exa G.Z h' a "java/lang/String" ∧ Fld G.Z h' a "java/lang/String" "coder" "B" (.int 0) ∧ Fld G.Z h' a "java/lang/String" "value" "[B" (.ref b) ∧ Ary G.Z h' b .byte vs ∧ (∀ x ∈ A, x ≠ a ∧ x ≠ b) ∧ OAt G K M A (cs + 2) (sl + (n + 4)) h' pc' L (.ref a :: S) := by
  subst hp
  obtain ⟨ok, vm0, k0, T, locs, X, hT, hS, hk, hZ, hown, hCh, hAs, hF, hO, st⟩ := c
  have e := Int32.toInt_ofNat_small (show vs.length < 2 ^ 31 by omega)
  have e2 : (Int32.ofNat vs.length).toNatClampNeg = vs.length := by simp only [Int32.toNatClampNeg, e]; simp
  obtain ⟨a, T', h', k1, b, kk, X', hT', E, hS', hk', hZ', hown', Ex, Co, Va, Av, la, lb, hC', hLit, hne, st'⟩ := ldcCH X ok.1 hZ hown w wS hT hS hk ok.2.2.2.2.2.2 hmem hCh.1 ht (z := Int32.ofNat vs.length) (by rw [Int32.lt_iff_toInt_lt, e]; show ¬ (vs.length : Int) < 0; omega) e2 (g := mkF K.m pc L S) rfl (Jvm.hb ok.2.1 hd) hn hbig hc hl
  have hs : ∀ x ∈ A, OSafe G T'.vm h' x := fun x hx => ⟨Nat.lt_of_lt_of_le (hAs x hx).1 E.1, hC'.safe (hAs x hx).1 (hAs x hx).2⟩
  exact ⟨a, b, h', E, Ex, Co, Va, Ary.of_arv Av e2, fun x hx => hne x (hs x hx).2, ok, T'.vm, k1, T', locs, X', hT', hS', hk', hZ', hown', hCh.trans hC', hs, hF, hO.ext E, st.trans (st' _ (Steps.refl _))⟩
end Cold
section Conds
variable {x y : Int32}
theorem own_ic_eq_t (h : x = y) : if_icmp.holds .eq x y = true := (teq h).1
theorem own_ic_eq_f (h : ¬ x = y) : if_icmp.holds .eq x y = false := (feq h).1
theorem own_ic_ne_t (h : ¬ x = y) : if_icmp.holds .ne x y = true := (feq h).2
theorem own_ic_ne_f (h : x = y) : if_icmp.holds .ne x y = false := (teq h).2
theorem own_ic_lt_t (h : x < y) : if_icmp.holds .lt x y = true := (tlt h).1
theorem own_ic_lt_f (h : ¬ x < y) : if_icmp.holds .lt x y = false := (flt h).1
theorem own_ic_ge_t (h : ¬ x < y) : if_icmp.holds .ge x y = true := (flt h).2.1
theorem own_ic_ge_f (h : x < y) : if_icmp.holds .ge x y = false := (tlt h).2.1
theorem own_ic_gt_t (h : y < x) : if_icmp.holds .gt x y = true := (tlt h).2.2.1
theorem own_ic_gt_f (h : ¬ y < x) : if_icmp.holds .gt x y = false := (flt h).2.2.1
theorem own_ic_le_t (h : ¬ y < x) : if_icmp.holds .le x y = true := (flt h).2.2.2
theorem own_ic_le_f (h : y < x) : if_icmp.holds .le x y = false := (tlt h).2.2.2
theorem own_if_eq_t (h : x = 0) : ifCond.holds .eq x = true := (if0 _ _).trans (own_ic_eq_t h)
theorem own_if_eq_f (h : ¬ x = 0) : ifCond.holds .eq x = false := (if0 _ _).trans (own_ic_eq_f h)
theorem own_if_ne_t (h : ¬ x = 0) : ifCond.holds .ne x = true := (if0 _ _).trans (own_ic_ne_t h)
theorem own_if_ne_f (h : x = 0) : ifCond.holds .ne x = false := (if0 _ _).trans (own_ic_ne_f h)
theorem own_if_lt_t (h : x < 0) : ifCond.holds .lt x = true := (if0 _ _).trans (own_ic_lt_t h)
theorem own_if_lt_f (h : ¬ x < 0) : ifCond.holds .lt x = false := (if0 _ _).trans (own_ic_lt_f h)
theorem own_if_ge_t (h : ¬ x < 0) : ifCond.holds .ge x = true := (if0 _ _).trans (own_ic_ge_t h)
theorem own_if_ge_f (h : x < 0) : ifCond.holds .ge x = false := (if0 _ _).trans (own_ic_ge_f h)
theorem own_if_gt_t (h : 0 < x) : ifCond.holds .gt x = true := (if0 _ _).trans (own_ic_gt_t h)
theorem own_if_gt_f (h : ¬ 0 < x) : ifCond.holds .gt x = false := (if0 _ _).trans (own_ic_gt_f h)
theorem own_if_le_t (h : ¬ 0 < x) : ifCond.holds .le x = true := (if0 _ _).trans (own_ic_le_t h)
theorem own_if_le_f (h : 0 < x) : ifCond.holds .le x = false := (if0 _ _).trans (own_ic_le_f h)
end Conds
section Ints
theorem own_toInt {n : Nat} (h : n < 2147483648) : (Int32.ofNat n).toInt = n := Int32.toInt_ofNat_small h
theorem own_lt {i n : Nat} (h : i < n) (hn : n < 2147483648) : Int32.ofNat i < Int32.ofNat n := by
  rw [Int32.lt_iff_toInt_lt, own_toInt (by omega), own_toInt hn]; omega
theorem own_nlt {i n : Nat} (h : ¬ i < n) (hi : i < 2147483648) : ¬ Int32.ofNat i < Int32.ofNat n := by
  rw [Int32.lt_iff_toInt_lt, own_toInt hi, own_toInt (by omega)]; omega
theorem own_nneg {i : Nat} (hi : i < 2147483648) : ¬ Int32.ofNat i < 0 := own_nlt (i := i) (n := 0) (by omega) hi
theorem own_inj {i n : Nat} (h : Int32.ofNat i = Int32.ofNat n) (hi : i < 2147483648) (hn : n < 2147483648) : i = n := by
  have := congrArg Int32.toInt h
  rw [own_toInt hi, own_toInt hn] at this; omega
theorem own_succ (i : Nat) : Int32.ofNat i + Int32.ofInt 1 = Int32.ofNat (i + 1) := by
  rw [Int32.ofNat_add]; rfl
theorem own_addn (i k : Nat) : Int32.ofNat i + Int32.ofNat k = Int32.ofNat (i + k) := (Int32.ofNat_add i k).symm
theorem own_subn (i k : Nat) (h : k ≤ i) (hi : i < 2147483648) : Int32.ofNat i - Int32.ofNat k = Int32.ofNat (i - k) := by
  apply Int32.toInt_inj.mp
  have := c_isub (Int32.ofNat i) (Int32.ofNat k)
  rw [own_toInt hi, own_toInt (by omega)] at this
  rw [own_toInt (by omega)]
  have r := rng32 (Int32.ofNat i - Int32.ofNat k)
  omega
theorem own_shl1 (n : Nat) (hn : n < 1073741823) : Int32.ofNat n <<< ((1 : Int32) &&& 31) = Int32.ofNat (2 * n) := by
  apply Int32.toInt_inj.mp
  have := c_ishl (Int32.ofNat n) 1 1 (by decide)
  rw [own_toInt (by omega)] at this
  rw [own_toInt (by omega)]
  have r := rng32 (Int32.ofNat n <<< ((1 : Int32) &&& 31))
  omega
/-- what i2b leaves -/
def lo8 (x : Int32) : Int32 := x.toInt8.toInt32
theorem own_lo8_lo8 (x : Int32) : (lo8 x).toInt8.toInt32 = lo8 x := by
  apply Int32.toInt_inj.mp
  have h1 := c_i2b (lo8 x); have h2 := c_i2b x
  have e : (lo8 x).toInt = x.toInt8.toInt32.toInt := rfl
  omega
theorem own_nar_b (x : Int32) : nar .byte (x.toInt8.toInt32) = lo8 x := own_lo8_lo8 x
theorem own_lo8_rng (x : Int32) : ((lo8 x).toInt - x.toInt) % 256 = 0 ∧ -128 ≤ (lo8 x).toInt ∧ (lo8 x).toInt < 128 := c_i2b x
theorem own_shr0 (x : Int32) : x >>> ((0 : Int32) &&& 31) = x := by
  apply Int32.toInt_inj.mp
  rw [c_ishr x 0 0 (by decide)]; simp
/-- a char is what i2c leaves of it -/
theorem own_i2c {x : Int32} (h : 0 ≤ x.toInt ∧ x.toInt < 65536) : x.toUInt32.toUInt16.toUInt32.toInt32 = x := by
  apply Int32.toInt_inj.mp
  have := c_i2c x
  omega
theorem own_narc {x : Int32} (h : 0 ≤ x.toInt ∧ x.toInt < 65536) : nar .char x = x := own_i2c h
theorem own_charfit {x : Int32} (h : fits .char (.int x) = true) : 0 ≤ x.toInt ∧ x.toInt < 65536 := by
  obtain ⟨h1, h2⟩ := rng_char h
  rw [Int32.lt_iff_toInt_lt] at h1 h2
  have e1 : (0 : Int32).toInt = 0 := by decide
  have e2 : (65535 : Int32).toInt = 65535 := by decide
  omega
/-- a Latin-1 byte read back -/
theorem own_mask {x : Int32} (h : 0 ≤ x.toInt ∧ x.toInt < 256) : lo8 x &&& 255 = x := by
  apply Int32.toInt_inj.mp
  rw [c_mask (lo8 x) 255 8 (by decide) (by decide)]
  have := own_lo8_rng x
  omega
/-- two bytes read back -/
theorem own_char2 {x : Int32} (h : 0 ≤ x.toInt ∧ x.toInt < 65536) : ((((lo8 x &&& 255) <<< ((0 : Int32) &&& 31)) ||| ((lo8 (x >>> ((8 : Int32) &&& 31)) &&& 255) <<< ((8 : Int32) &&& 31))).toUInt32.toUInt16.toUInt32.toInt32) = x := by
  have e0 : ∀ z : Int32, z <<< ((0 : Int32) &&& 31) = z := fun z => by
    apply Int32.toInt_inj.mp
    have := c_ishl z 0 0 (by decide)
    have r := rng32 z; have r2 := rng32 (z <<< ((0 : Int32) &&& 31)); omega
  have h8 := c_ishr x 8 8 (by decide)
  have a1 := c_mask (lo8 x) 255 8 (by decide) (by decide)
  have a2 := c_mask (lo8 (x >>> ((8 : Int32) &&& 31))) 255 8 (by decide) (by decide)
  have l1 := own_lo8_rng x
  have l2 := own_lo8_rng (x >>> ((8 : Int32) &&& 31))
  have s2 := c_ishl (lo8 (x >>> ((8 : Int32) &&& 31)) &&& 255) 8 8 (by decide)
  have rs := rng32 ((lo8 (x >>> ((8 : Int32) &&& 31)) &&& 255) <<< ((8 : Int32) &&& 31))
  rw [e0]
  have o := c_or' (lo8 x &&& 255) ((lo8 (x >>> ((8 : Int32) &&& 31)) &&& 255) <<< ((8 : Int32) &&& 31)) 8 (by decide) 256 (by decide)
  have ov : ((lo8 x &&& 255) ||| ((lo8 (x >>> ((8 : Int32) &&& 31)) &&& 255) <<< ((8 : Int32) &&& 31))).toInt = x.toInt := by
    have r := rng32 ((lo8 x &&& 255) ||| ((lo8 (x >>> ((8 : Int32) &&& 31)) &&& 255) <<< ((8 : Int32) &&& 31)))
    have := o (by omega) (by omega) (by omega)
    omega
  have q : ((lo8 x &&& 255) ||| ((lo8 (x >>> ((8 : Int32) &&& 31)) &&& 255) <<< ((8 : Int32) &&& 31))) = x := Int32.toInt_inj.mp ov
  rw [q]; exact own_i2c h
end Ints
section Lists
theorem own_fill {α : Type} (us vs : List α) (i : Nat) (x : α) (hx : us[i]? = some x) (hv : i < vs.length) : (us.take i ++ vs.drop i).set i x = us.take (i + 1) ++ vs.drop (i + 1) := by
  obtain ⟨hi, rfl⟩ := List.getElem?_eq_some_iff.mp hx
  have hl : (us.take i).length = i := by simp; omega
  rw [List.set_append_right _ _ (by omega), hl, Nat.sub_self, List.drop_eq_getElem_cons hv, List.set_cons_zero, ← List.take_append_getElem hi, List.append_assoc]
  rfl
end Lists
section Strings
variable {Z : State} {h h' : Heap} {a b x : Addr} {cs : List Int32}
def Lat (cs : List Int32) : Prop := ∀ c ∈ cs, 0 ≤ c.toInt ∧ c.toInt < 256
def Chs (cs : List Int32) : Prop := ∀ c ∈ cs, 0 ≤ c.toInt ∧ c.toInt < 65536
def encL (cs : List Int32) : List Value := cs.map fun c => .int (lo8 c)
def encU (cs : List Int32) : List Value := cs.flatMap fun c => [.int (lo8 c), .int (lo8 (c >>> ((8 : Int32) &&& 31)))]
theorem encL_len (cs : List Int32) : (encL cs).length = cs.length := by simp [encL]
theorem encU_len (cs : List Int32) : (encU cs).length = 2 * cs.length := by
  induction cs with
  | nil => rfl
  | cons c cs ih => simp only [encU, List.flatMap_cons, List.length_append, List.length_cons, List.length_nil] at ih ⊢; omega
/-- a String of the bytes bs, of this coder -/
def StrB (Z : State) (h : Heap) (a : Addr) (co : Int32) (bs : List Value) : Prop := Exa Z h a "java/lang/String" ∧ Fld Z h a "java/lang/String" "coder" "B" (.int co) ∧ ∃ b, Fld Z h a "java/lang/String" "value" "[B" (.ref b) ∧ Ary Z h b .byte bs
/-- a String of the chars cs -/
def Str (Z : State) (h : Heap) (a : Addr) (cs : List Int32) : Prop := (Lat cs ∧ StrB Z h a 0 (encL cs)) ∨ (Chs cs ∧ (∃ c ∈ cs, 255 < c.toInt) ∧ StrB Z h a 1 (encU cs))
theorem StrB.ext {co : Int32} {bs : List Value} (F : StrB Z h a co bs) (E : Ext h h') : StrB Z h' a co bs := by
  obtain ⟨h1, h2, b, h3, h4⟩ := F; exact ⟨h1.ext E, h2.ext E, b, h3.ext E, h4.ext E⟩
theorem Str.ext (F : Str Z h a cs) (E : Ext h h') : Str Z h' a cs := F.imp (fun q => ⟨q.1, q.2.ext E⟩) fun q => ⟨q.1, q.2.1, q.2.2.ext E⟩
/-- no String that has its value, and no byte[] -/
def NStr (Z : State) (h : Heap) (x : Addr) : Prop := (∀ co bs, ¬ StrB Z h x co bs) ∧ ∀ vs, ¬ Ary Z h x .byte vs
theorem StrB.keep {co : Int32} {bs : List Value} {ws : List Addr} (F : StrB Z h a co bs) (K : Keep h h' ws) (hw : ∀ x ∈ ws, NStr Z h x) : StrB Z h' a co bs := by
  have ha : a ∉ ws := fun q => (hw a q).1 _ _ F
  obtain ⟨h1, h2, b, h3, h4⟩ := F
  exact ⟨h1.keep K, h2.keep K ha, b, h3.keep K ha, h4.keep K fun q => (hw b q).2 _ h4⟩
theorem Str.keep {ws : List Addr} (F : Str Z h a cs) (K : Keep h h' ws) (hw : ∀ x ∈ ws, NStr Z h x) : Str Z h' a cs := F.imp (fun q => ⟨q.1, q.2.keep K hw⟩) fun q => ⟨q.1, q.2.1, q.2.2.keep K hw⟩
theorem own_arr_type {t1 t2 : FieldType} {c1 c2 : Cell} (A : Arr Z h x c1 t1) (B : Arr Z h x c2 t2) : t1 = t2 := by
  cases A.1.symm.trans B.1
  obtain ⟨-, k1, j1, comp1, j2⟩ := A.2.1
  obtain ⟨-, k2, i1, comp2, i2⟩ := B.2.1
  cases j1.symm.trans i1
  rw [j2] at i2; cases i2; rfl
theorem NStr.arr {ty : FieldType} {vs : List Value} {a0 : Array Value} {n : Nat} (F : Ary Z h x ty vs) (ht : ty ≠ .byte) (wi : (Jvm.Cond.instantiable "java/lang/String" n).before a0 Z = true) : NStr Z h x := by
  obtain ⟨c, A, -⟩ := F
  refine ⟨fun co bs q => ne_arr q.1 wi A rfl, fun vs q => ?_⟩
  obtain ⟨c', A', -⟩ := q
  exact ht (own_arr_type A A')
theorem NStr.exa {C : String} {a0 : Array Value} {n : Nat} (F : Exa Z h x C) (hC : C ≠ "java/lang/String") (wi : (Jvm.Cond.instantiable C n).before a0 Z = true) : NStr Z h x := by
  refine ⟨fun co bs q => ne_exa F q.1 hC rfl, fun vs q => ?_⟩
  obtain ⟨c', A', -⟩ := q
  exact ne_arr F wi A' rfl
theorem NStr.null {a0 : Array Value} {n : Nat} (F : Exa Z h x "java/lang/String") (V : Fld Z h x "java/lang/String" "value" "[B" .null) (wi : (Jvm.Cond.instantiable "java/lang/String" n).before a0 Z = true) : NStr Z h x := by
  refine ⟨fun co bs q => ?_, fun vs q => ?_⟩
  · obtain ⟨-, -, b, q3, -⟩ := q
    exact V.ne q3 (by simp) rfl
  · obtain ⟨c', A', -⟩ := q
    exact ne_arr F wi A' rfl
theorem NStr.new (hx : h.size ≤ x) : NStr Z h x := ⟨fun _ _ q => absurd q.1.lt (Nat.not_lt.mpr hx), fun _ q => absurd q.lt (Nat.not_lt.mpr hx)⟩
theorem own_all1 {P : Addr → Prop} (q : P x) : ∀ y ∈ [x], P y := fun y hy => by cases List.mem_singleton.mp hy; exact q
theorem own_chs (F : Ary Z h a .char (cs.map Value.int)) : Chs cs := by
  obtain ⟨c, A, -, -, hf⟩ := F
  intro c hc
  exact own_charfit (hf _ (List.mem_map.mpr ⟨c, hc, rfl⟩))
end Strings
section More
variable {G : Gx} {K : Kx} {M : Mx} {A : List Addr} {cs sl : Nat} {h h' : Heap} {pc : Nat} {L : Array Slot} {S : List Value}
/-- an array of references to objects of the class C, and what it holds -/
def Arf (Z : State) (h : Heap) (a : Addr) (C : String) (vs : List Value) : Prop := ∃ c : Cell, Arr Z h a c (.object C) ∧ Ovr Z c.cls C ∧ c.slots.toList = vs ∧ vs.length < 2147483648 ∧ ∀ v ∈ vs, fits (.object C) v = true
theorem Arf.ary {Z : State} {a : Addr} {C : String} {vs : List Value} (F : Arf Z h a C vs) : Ary Z h a (.object C) vs := by obtain ⟨c, A, -, r⟩ := F; exact ⟨c, A, r⟩
theorem Arf.ext {Z : State} {a : Addr} {C : String} {vs : List Value} (F : Arf Z h a C vs) (E : Ext h h') : Arf Z h' a C vs := by obtain ⟨c, A, r⟩ := F; exact ⟨c, A.ext E, r⟩
theorem Arf.keep {Z : State} {a : Addr} {C : String} {vs : List Value} (F : Arf Z h a C vs) {ws : List Addr} (K : Keep h h' ws) (q : a ∉ ws) : Arf Z h' a C vs := by obtain ⟨c, A, r⟩ := F; exact ⟨c, ⟨K.2.1 a c A.1 q, A.2⟩, r⟩
theorem OAt.anewarr {C : String} {ix : Nat} {n : Int32} (c : OAt G K M A cs sl h pc L (.int n :: S)) (pc' : Nat) (hd : decode M.b pc = .ok (.anewarray ix, 3)) (w1 : OW G (Jvm.Cond.classLink M.own ix C)) (w2 : OW G (Jvm.Cond.arrayOver (.object C))) (k : Nat) (hn : Int32.ofNat k = n) (cap : Nat) (hk : k ≤ cap) (hb : cap * 8 ≤ 536870912) (hc : cs + 1 ≤ M.R.cells) (hl : sl + cap ≤ M.R.slots) (hp : pc + 3 = pc' := by rfl) :
    ∃ (a : Addr) (h' : Heap), a = h.size ∧ Ext h h' ∧ G.n0 ≤ a ∧ Arf G.Z h' a C (List.replicate k .null) ∧ OAt G K M (a :: A) (cs + 1) (sl + cap) h' pc' L (.ref a :: S) := by
  subst hp hn
  have e := Int32.toInt_ofNat_small (show k < 2 ^ 31 by omega)
  have e2 : (Int32.ofNat k).toNatClampNeg = k := by simp only [Int32.toNatClampNeg, e]; simp
  obtain ⟨h', E, hn, hA, c'⟩ := c.grow (pc' := pc + 3) (L' := L) (S' := .ref h.size :: S) (cs' := cs + 1) (sl' := sl + cap) (P := fun h' => Arf G.Z h' h.size C (List.replicate k .null))
    fun vm0 T locs X hT hx hbb hZ hown => by
      obtain ⟨T', h', cA, X', e', E', Ar, O, st⟩ := newR X hx hZ hown w1 w2 hT (g := mkF K.m pc L (.int (Int32.ofNat k) :: S)) rfl (Jvm.hb hbb hd) rfl (by rw [Int32.lt_iff_toInt_lt, e]; show ¬ (k : Int) < 0; omega) (cap := cap) (by omega) hb hc hl
      obtain ⟨c1, A1, q1, q2, q3⟩ := Ary.new Ar (by omega) rfl
      cases A1.1.symm.trans Ar.1
      exact ⟨T', h', X', e', E', Ar.lt, ⟨_, Ar, O, q1, q2, q3⟩, st⟩
  exact ⟨h.size, h', rfl, E, hn, hA, c'⟩
theorem OAt.aastore {C : String} {vs : List Value} {a y : Addr} {j : Int32} (c : OAt G K M A cs sl h pc L (.ref y :: .int j :: .ref a :: S)) (pc' : Nat) (hd : decode M.b pc = .ok (.aastore, 1)) (F : Arf G.Z h a C vs) (I : Ins G.Z h y C true) (i : Nat) (hj : Int32.ofNat i = j) (hi : i < vs.length) (hn : G.n0 ≤ a) (hp : pc + 1 = pc' := by rfl) :
    ∃ h', Wr h h' a i (.ref y) ∧ Arf G.Z h' a C (vs.set i (.ref y)) ∧ OAt G K M A cs sl h' pc' L S := by
  subst hp
  obtain ⟨cl, Ar, O, rfl, hl, hf⟩ := F
  have F' : Ary G.Z h a (.object C) cl.slots.toList := ⟨cl, Ar, rfl, hl, hf⟩
  obtain ⟨e, q⟩ := own_ix hj (by simpa using hi) (by simpa using hl)
  obtain ⟨h', W, c'⟩ := c.write (pc' := pc + 1) (L' := L) (S' := S) (a := a) (i := i) (v := .ref y) hn (fun vm0 hal _ => Safe.arr hal Ar (by simp))
    fun vm0 T locs X hT hx hb hZ hown hnm => by
      have st := stR X hx hZ hT Ar q rfl (Sto.of Ar O I) (g := mkF K.m pc L (.ref y :: .int j :: .ref a :: S)) rfl rfl (Jvm.hb hb hd)
      rw [e] at st
      exact st
  have As := Ar.same W
  obtain ⟨c1, A1, q1, q2, q3⟩ := F'.set W (v := .ref y) rfl
  cases A1.1.symm.trans As.1
  exact ⟨h', W, ⟨_, As, O, q1, q2, q3⟩, c'⟩
/-- a step that writes the cells ws, all ours -/
theorem OAt.write2 {pc' : Nat} {L' : Array Slot} {S' : List Value} {a : Addr} {P : Heap → Prop} (c : OAt G K M A cs sl h pc L S) (hn : G.n0 ≤ a) (hA : a ∈ A)
    (f : ∀ vm0 T locs, OSt G K M cs sl h vm0 T locs → T.heap = h → K.p.tables.exec = Jvm.exec → K.c.code = M.b → G.Z.Warmed39 (K.s.setVm vm0).vm → (K.s.setVm vm0).vm.findClass M.own = some K.m.cls → Fr G.n0 locs → K.c.maxLocals = M.ml →
      ∃ T' h' L2, OSt G K M cs sl h vm0 T' L2 ∧ T'.heap = h' ∧ Fr G.n0 L2 ∧ Keep h h' [a] ∧ P h' ∧ ∀ target, Steps K.p.tables K.e K.below (T'.setTop (mkF K.m pc' L' S')) target → Steps K.p.tables K.e K.below (T.setTop (mkF K.m pc L S)) target) :
    ∃ h', Keep h h' [a] ∧ P h' ∧ OAt G K M A cs sl h' pc' L' S' := by
  obtain ⟨ok, vm0, k0, T, locs, X, hT, hS, hk, hZ, hown, hC, hAs, hF, hO, st⟩ := c
  obtain ⟨T', h', L2, X', hT', hF', Kp, hP, f'⟩ := f vm0 T locs X hT ok.1 ok.2.1 hZ hown hF ok.2.2.2.2.2.1
  have hs : ∀ x ∈ [a], Safe G.Z G.EL vm0 h x := own_all1 (hAs a hA).2
  exact ⟨h', Kp, hP, ok, vm0, k0, T', L2, X', hT', hS, Nat.le_trans hk Kp.1, hZ, hown, hC.trans (CHr.keep Kp hs hC.1), fun x hx => ⟨Nat.lt_of_lt_of_le (hAs x hx).1 Kp.1, Safe.keep Kp hs hC.1 (hAs x hx).2⟩, hF', hO.keep Kp (own_all1 hn), st.trans (f' _ (Steps.refl _))⟩
/-- System.arraycopy of bytes, into an array of ours -/
theorem OAt.acopy {ix W : Nat} {a b : Addr} {vs ds : List Value} {sp dp n : Int32} (c : OAt G K M A cs sl h pc L (.int n :: .int dp :: .ref b :: .int sp :: .ref a :: S)) (pc' : Nat) (hd : decode M.b pc = .ok (.invokestatic ix, 3))
    (w1 : OW G (Jvm.Cond.methodLink M.own ix Jvm.Stand.acN)) (w2 : OW G (Jvm.Cond.native Jvm.Stand.acN)) (w3 : OW G (Jvm.Cond.static Jvm.Stand.acN)) (w4 : OW G (Jvm.Cond.initialized "java/lang/System")) (Y : Ary G.Z h a .byte vs) (D : Ary G.Z h b .byte ds) (i j k : Nat) (hi : Int32.ofNat i = sp) (hj : Int32.ofNat j = dp) (hk : Int32.ofNat k = n) (h1 : i + k ≤ vs.length) (h2 : j + k ≤ ds.length) (hn : G.n0 ≤ b) (hA : b ∈ A)
    (hW : (S.map fun v => v.category).sum = W) (hl : W + (nativeFrameWords "java/lang/System" "arraycopy" 5 + 11) ≤ M.R.locals) (hf : 1 ≤ M.R.frames) (hL : L.size = M.ml := by rfl) (hp : pc + 3 = pc' := by rfl) :
    ∃ h', Keep h h' [b] ∧ Ary G.Z h' b .byte (ds.take j ++ (vs.drop i).take k ++ ds.drop (j + k)) ∧ OAt G K M A cs sl h' pc' L S := by
  subst hp hi hj hk
  have lv := Y.len
  have ld := D.len
  have ei : (Int32.ofNat i).toNatClampNeg = i := by simp only [Int32.toNatClampNeg, Int32.toInt_ofNat_small (show i < 2 ^ 31 by omega)]; simp
  have ej : (Int32.ofNat j).toNatClampNeg = j := by simp only [Int32.toNatClampNeg, Int32.toInt_ofNat_small (show j < 2 ^ 31 by omega)]; simp
  have ek : (Int32.ofNat k).toNatClampNeg = k := by simp only [Int32.toNatClampNeg, Int32.toInt_ofNat_small (show k < 2 ^ 31 by omega)]; simp
  have ev : (Int32.ofNat vs.length).toNatClampNeg = vs.length := by simp only [Int32.toNatClampNeg, Int32.toInt_ofNat_small (show vs.length < 2 ^ 31 by omega)]; simp
  have ed : (Int32.ofNat ds.length).toNatClampNeg = ds.length := by simp only [Int32.toNatClampNeg, Int32.toInt_ofNat_small (show ds.length < 2 ^ 31 by omega)]; simp
  obtain ⟨k1, V⟩ := Y.arv (.int 0)
  obtain ⟨k2, D'⟩ := D.arv (.int 0)
  have hus : (vs.drop i).take k = (List.range (Int32.ofNat k).toNatClampNeg).map fun t => vs.getD ((Int32.ofNat i).toNatClampNeg + t) (.int 0) := by
    rw [ek, ei]
    apply List.ext_getElem?
    intro t
    by_cases q : t < k
    · rw [List.getElem?_take_of_lt q, List.getElem?_drop, List.getElem?_map, List.getElem?_range q]
      have : i + t < vs.length := by omega
      simp [this]
    · rw [List.getElem?_eq_none (by simp; omega), List.getElem?_eq_none (by simp; omega)]
  refine c.write2 hn hA fun vm0 T locs X hT hx hb hZ hown hF hml => ?_
  obtain ⟨T', h', L2, X', e', F2, K2, V2, st⟩ := cpA X hx hZ hown w1 w2 w3 w4 hT V D' (Or.inl ⟨rfl, rfl⟩) (own_nneg (by omega)) (own_nneg (by omega)) (own_nneg (by omega)) (by rw [ei, ek, ev]; exact h1) (by rw [ej, ek, ed]; exact h2) hus (by rw [ej, ek]; exact h2) hF hn (g := mkF K.m pc L (.int (Int32.ofNat k) :: .int (Int32.ofNat j) :: .ref b :: .int (Int32.ofNat i) :: .ref a :: S)) rfl (hL.trans hml.symm) rfl (Jvm.hb hb hd) hf (W := W) (by show 2 * 0 + _ ≤ _; omega) hl
  refine ⟨T', h', L2, X', e', F2, K2, ?_, st⟩
  rw [ej, ek] at V2
  refine Ary.of_arv V2 ?_
  rw [ed]; simp; omega
end More
section Clone
variable {G : Gx} {K : Kx} {M : Mx} {A : List Addr} {cs sl : Nat} {h h' : Heap} {pc : Nat} {L : Array Slot} {S : List Value}
/-- an array's clone() -/
theorem OAt.clone {ad : String} {ix W : Nat} {a : Addr} {ty : FieldType} {vs : List Value} (c : OAt G K M A cs sl h pc L (.ref a :: S)) (pc' : Nat) (hd : decode M.b pc = .ok (.invokevirtual ix, 3)) (w1 : OW G (Jvm.Cond.methodLink M.own ix ⟨ad, "clone", "()Ljava/lang/Object;"⟩)) (w2 : OW G (Jvm.Cond.sameMethod ad "java/lang/Object" "clone" "()Ljava/lang/Object;")) (w3 : OW G (Jvm.Cond.native ⟨"java/lang/Object", "clone", "()Ljava/lang/Object;"⟩))
    (w4 : OW G (Jvm.Cond.instanceMethod ⟨"java/lang/Object", "clone", "()Ljava/lang/Object;"⟩)) (w5 : OW G (Jvm.Cond.selects ad ⟨ad, "clone", "()Ljava/lang/Object;"⟩ ⟨"java/lang/Object", "clone", "()Ljava/lang/Object;"⟩)) (w6 : OW G (Jvm.Cond.castable ad "java/lang/Cloneable")) (Y : Ary G.Z h a ty vs) (E : Exa G.Z h a ad) (cap : Nat) (hcap : vs.length ≤ cap)
    (hW : (S.map fun v => v.category).sum = W) (hl : W + 14 ≤ M.R.locals) (hf : 1 ≤ M.R.frames) (hc : cs + 1 ≤ M.R.cells) (hs : sl + cap ≤ M.R.slots) (hL : L.size = M.ml := by rfl) (hp : pc + 3 = pc' := by rfl) :
    ∃ (d : Addr) (h' : Heap), d = h.size ∧ Ext h h' ∧ G.n0 ≤ d ∧ Ary G.Z h' d ty vs ∧ Exa G.Z h' d ad ∧ OAt G K M (d :: A) (cs + 1) (sl + cap) h' pc' L (.ref d :: S) := by
  subst hp
  obtain ⟨cl, Ar, rfl, hlen, hfit⟩ := Y
  have hml := c.1.2.2.2.2.2.1
  have F : FitC G.Z cl := fitC_of Ar fun i hi v hv => hfit v (by
    obtain ⟨q, rfl⟩ := Array.getElem?_eq_some_iff.mp hv
    simp)
  obtain ⟨h', Ex, hn, ⟨hA, hE⟩, c'⟩ := c.grow (pc' := pc + 3) (L' := L) (S' := .ref h.size :: S) (cs' := cs + 1) (sl' := sl + cap) (P := fun h' => Ary G.Z h' h.size ty cl.slots.toList ∧ Exa G.Z h' h.size ad)
    fun vm0 T locs X hT hx hb hZ hown => by
      obtain ⟨T', h', X', e', E', Ar', Ex', st⟩ := cloneA X hx hZ hown w1 w2 w3 w4 w5 w6 hT Ar E F (g := mkF K.m pc L (.ref a :: S)) rfl (hL.trans hml.symm) rfl (Jvm.hb hb hd) hf (W := W) (cap := cap) (by show 2 * 0 + _ ≤ _; omega) hl (by simpa using hcap) hc hs
      exact ⟨T', h', X', e', E', Ar'.lt, ⟨⟨_, Ar', rfl, hlen, hfit⟩, Ex'⟩, st⟩
  exact ⟨h.size, h', rfl, Ex, hn, hA, hE, c'⟩
end Clone
section CastNull
variable {G : Gx} {K : Kx} {M : Mx} {A : List Addr} {cs sl : Nat} {h h' : Heap} {pc : Nat} {L : Array Slot} {S : List Value}
theorem OAt.castN {ix : Nat} (c : OAt G K M A cs sl h pc L (.null :: S)) (pc' : Nat) (hd : decode M.b pc = .ok (.checkcast ix, 3)) (hp : pc + 3 = pc' := by rfl) : OAt G K M A cs sl h pc' L (.null :: S) := by
  subst hp
  exact c.pure fun vm0 T locs X hT hx hb hZ hown hO => ⟨T, X, hT, fun t r => X.checkcastNull hx (g := mkF K.m pc L (.null :: S)) rfl rfl (Jvm.hb hb hd) t r⟩
end CastNull
section Calls2
variable {G : Gx} {K : Kx} {M : Mx} {A : List Addr} {cs sl : Nat} {h : Heap} {pc : Nat} {L : Array Slot} {S : List Value}
/-- a method that its class itself declares is what the lookup from that class finds -/
theorem own_same {G : Gx} {y : MethodName} (nf : ONf G y) (w : OW G (Jvm.Cond.instanceMethod y)) (hy : y.cls ≠ "java/lang/invoke/MethodHandle" ∧ y.cls ≠ "java/lang/invoke/VarHandle") : OW G (Jvm.Cond.sameMethod y.cls y.cls y.name y.desc) := by
  obtain ⟨mk, meth, hn, -, -, -⟩ := Cond.instanceMethod_spec w
  obtain ⟨kr, hk, hi⟩ := nf G.Z (State.Warmed39.refl _) mk hn
  have hf := State.methodFound?_of_named hn hy
  have hc := findClass_of_methodNamed hn
  have hn' : G.Z.methodNamed? ⟨y.cls, y.name, y.desc⟩ = some mk := hn
  show (Jvm.Cond.sameMethod y.cls y.cls y.name y.desc).before G.a0 G.Z = true
  simp [Jvm.Cond.before, Jvm.Cond.holds, Jvm.Cond.value, hc, hf, hn', hk, hi]
/-- a class that owns a selected method is no interface: so for any other method of that class -/
theorem own_nfo {G : Gx} {y z : MethodName} {C : String} (w : OW G (Jvm.Cond.selects C z z)) (e : y.cls = z.cls) : ONf G y := fun s hZ r0 hn => by
  obtain ⟨c2, r2, m2, -, -, q3, -, kP, hkP, hkPi⟩ := Cond.selects_spec (mvT (args := #[]) hZ w)
  have h1 := findClass_of_methodNamed hn
  have h2 := findClass_of_methodNamed q3
  rw [e] at h1
  have e3 : r0.cls = m2.cls := Option.some.inj (h1.symm.trans h2)
  exact ⟨kP, by rw [e3]; exact hkP, hkPi⟩
/-- a private method's call by invokevirtual, whatever class the word 'selects' names -/
theorem own_privS {p : Program} {l : Launch} {e : Env} {R : Room} {s : State} {m : MethodId} {args : Array Value} {below : List Frame} {meth : Method} {c : Code} {T : State} {locs : List Loc} {cells slots : Nat} (X : Stand p l e R s m args below meth c T locs cells slots) (hexec : p.tables.exec = Jvm.exec) {own : String} {index : Nat} {y : MethodName} {bytes : ByteArray} {maxL : Nat} {ret : Option FieldType}
    (hown : s.vm.findClass own = some m.cls) (hlink : (Jvm.Cond.methodLink own index y).before args s = true) (hinst : (Jvm.Cond.instanceMethod y).before args s = true) (nf : NotFace s y)
    (hpriv : (Jvm.Cond.privateMethod y).before args s = true) (hcode : (Jvm.Cond.code y bytes maxL ret).before args s = true) (hy : y.cls ≠ "java/lang/invoke/MethodHandle" ∧ y.cls ≠ "java/lang/invoke/VarHandle")
    {W : Nat} {Pre : Free.Pt → Array Value → Prop} {Post : Free.Pt → Array Value → Option Value → Free.Pt → Prop} (hK : Free.BackS l R p e below s args y 3 W Pre Post)
    {g : JFrame} (hg : g.method = m) (hsize : g.locals.size = c.maxLocals) {s₀ : State} (hcome : Steps p.tables e below s₀ (T.setTop g)) {a : Addr} {cell : Cell} (hcell : T.heap[a]? = some cell) (hobj : ∀ q, cell.vm ≠ .statics q)
    {argsL rest : List Value} (hlen : ∀ sig, parseMethodDescriptor y.desc = some sig → argsL.length = sig.parameters.length)
    (hstack : g.stack = argsL.reverse ++ .ref a :: rest) (hW : 2 * g.monitorRoom + (rest.map fun v => v.category).sum ≤ W) (hdg : decode c.code g.pc = .ok (.invokevirtual index, 3))
    (hpre : ∀ vm₁, s.WarmedH vm₁ → Pre ⟨T.setVm vm₁, locs, cells, slots⟩ (.ref a :: argsL).toArray) :
    ∃ (v : Option Value) (vm₁ : Vm) (B : Free.Pt), s.WarmedH vm₁ ∧ Stand p l e R (s.setVm B.U.vm) m args below meth c B.U B.locs B.cells B.slots ∧ s.Since B.U.vm B.U.heap.size ∧ T.heap.size ≤ B.U.heap.size ∧ Post ⟨T.setVm vm₁, locs, cells, slots⟩ (.ref a :: argsL).toArray v B ∧
      Steps p.tables e below s₀ (B.U.setTop { g with pc := g.pc + 3, stack := v.toList ++ rest }) := by
  obtain ⟨mk, methM, hnamed, hmethM, hstM, habM⟩ := Cond.instanceMethod_spec hinst
  obtain ⟨methM', cM, hmethM', -, -, -, -, -, -, hsigM⟩ := Cond.code_spec hnamed hcode
  cases hmethM.symm.trans hmethM'
  obtain ⟨kP, hkP, hkPi⟩ := nf mk hnamed
  have hselP : selectMethod e.platform s.vm cell.cls mk = .method mk := selectMethod_private hmethM (Cond.privateMethod_at hpriv mk methM hnamed hmethM)
  obtain ⟨vm₁, X₁, hstep₁⟩ := X.invokevirtual hexec hown hlink hnamed hmethM hstM hkP hkPi hy (a := a) (cell := cell) hcell hobj hselP hmethM habM hkP hkPi (g := g) hg (argsL := argsL) (rest := rest) (hlen _ hsigM) hstack hdg
  have hW₁ : s.WarmedH vm₁ := X₁.warmed
  obtain ⟨v, B, X', hS, hgr, hpost, hsteps⟩ := hK m meth c ⟨T.setVm vm₁, locs, cells, slots⟩ { g with stack := rest } (.invokevirtual index) mk (.ref a :: argsL).toArray X₁ hg hsize hdg hW (X₁.named hnamed) (hpre vm₁ hW₁)
  exact ⟨v, vm₁, B, hW₁, X', hS, hgr, hpost, (hcome.trans (hstep₁ _ fun acts => by rw [doInvoke_state]; exact Steps.refl _)).trans hsteps⟩
theorem OAt.callP {y : MethodName} {C : String} {B : ByteArray} {ml : Nat} {rt : Option FieldType} {rm : Room} {A' : List Addr} {Q : Option Value → Heap → (Addr → Prop) → Prop} {ix W : Nat} {a : Addr} {argsL rest : List Value} (c : OAt G K M A cs sl h pc L S) (pc' : Nat) (hd : decode M.b pc = .ok (.invokevirtual ix, 3))
    (hC : OCon G y B ml rt [] rm (.ref a :: argsL).toArray A' h Q) (hstk : S = argsL.reverse ++ .ref a :: rest) (E : Exa G.Z h a C) (w1 : OW G (Jvm.Cond.methodLink M.own ix y)) (w2 : OW G (Jvm.Cond.privateMethod y)) (nf : ONf G y) (w6 : OW G (Jvm.Cond.instanceMethod y)) (w3 : OW G (Jvm.Cond.initialized y.cls)) (w4 : OW G (Jvm.Cond.code y B ml rt)) (hlen : ∀ sig, parseMethodDescriptor y.desc = some sig → argsL.length = sig.parameters.length)
    (hA : ∀ x ∈ A', x ∈ A) (hW : (rest.map fun v => v.category).sum = W) (hl : W + (ml + 11) + rm.locals ≤ M.R.locals) (hf : rm.frames + 1 ≤ M.R.frames) (hc : cs + rm.cells ≤ M.R.cells) (hs : sl + rm.slots ≤ M.R.slots) (hy : y.cls ≠ "java/lang/invoke/MethodHandle" ∧ y.cls ≠ "java/lang/invoke/VarHandle" := by decide) (hL : L.size = M.ml := by rfl) (hp : pc + 3 = pc' := by rfl) :
    ∃ (v : Option Value) (h' : Heap) (sf : Addr → Prop), Q v h' sf ∧ ∀ B, (∀ x ∈ B, sf x) → OAt G K M (B ++ A) (cs + rm.cells) (sl + rm.slots) h' pc' L (v.toList ++ rest) := by
  subst hp
  obtain ⟨ok, vm0, k0, T, locs, X, hT, hS, hk, hZ, hown, hCh, hAs, hF, hO, st⟩ := c
  obtain ⟨cell, i1, i2⟩ := Exa.cell E
  obtain ⟨v, vm1, P', hw1, X', hS', hg, hq, st'⟩ := own_privS X ok.1 hown (mvT hZ w1) (mvT hZ w6) (nf _ hZ) (mvP hZ w2) (mvT hZ w4) hy (hC.payer hZ w4 w3 hf hl ok.2.2.2.2.2.2 hCh.1 (fun x hx => hAs x (hA x hx)) hO) (g := mkF K.m pc L S) rfl (hL.trans ok.2.2.2.2.2.1.symm) st (a := a) (by rw [hT]; exact i1) i2 (argsL := argsL) (rest := rest) hlen hstk (by show 2 * 0 + _ ≤ _; omega) (Jvm.hb ok.2.1 hd) (fun _ _ => ⟨rfl, hT, hc, hs⟩)
  obtain ⟨sf, q, c'⟩ := own_after (v := v) (L := L) (S' := v.toList ++ rest) (pc' := pc + 3) ok hT hS hk hZ hown hCh hAs hF X' hS' hg hq st'
  exact ⟨v, _, sf, q, c'⟩
theorem own_ins {Z : State} {a0 : Array Value} {a : Addr} {C D : String} (E : Exa Z h a C) (w : (Jvm.Cond.castable C D).before a0 Z = true) : Ins Z h a D true := by
  obtain ⟨cell, k, e1, e2, e3, e4, -⟩ := E
  obtain ⟨c3, t3, q1, q2, q3⟩ := Cond.castable_spec w
  cases e2.symm.trans q1
  exact ⟨cell, t3, e1, q2, by rw [e4, q3]; rfl⟩
/-- a superclass's own method, by invokespecial -/
theorem OAt.callU {y : MethodName} {C : String} {B : ByteArray} {ml : Nat} {rt : Option FieldType} {rm : Room} {A' : List Addr} {Q : Option Value → Heap → (Addr → Prop) → Prop} {ix W : Nat} {a : Addr} {argsL rest : List Value} (c : OAt G K M A cs sl h pc L S) (pc' : Nat) (hd : decode M.b pc = .ok (.invokespecial ix, 3))
    (hC : OCon G y B ml rt [] rm (.ref a :: argsL).toArray A' h Q) (hstk : S = argsL.reverse ++ .ref a :: rest) (F : Ins G.Z h a C true) (w1 : OW G (Jvm.Cond.methodLink M.own ix y)) (w2 : OW G (Jvm.Cond.superclass M.own y.cls)) (nf : ONf G y) (w6 : OW G (Jvm.Cond.instanceMethod y)) (w3 : OW G (Jvm.Cond.initialized y.cls)) (w4 : OW G (Jvm.Cond.code y B ml rt)) (hlen : ∀ sig, parseMethodDescriptor y.desc = some sig → argsL.length = sig.parameters.length)
    (hA : ∀ x ∈ A', x ∈ A) (hW : (rest.map fun v => v.category).sum = W) (hl : W + (ml + 11) + rm.locals ≤ M.R.locals) (hf : rm.frames + 1 ≤ M.R.frames) (hc : cs + rm.cells ≤ M.R.cells) (hs : sl + rm.slots ≤ M.R.slots) (hn : y.name ≠ "<init>" := by decide) (hy : y.cls ≠ "java/lang/invoke/MethodHandle" ∧ y.cls ≠ "java/lang/invoke/VarHandle" := by decide) (hL : L.size = M.ml := by rfl) (hp : pc + 3 = pc' := by rfl) :
    ∃ (v : Option Value) (h' : Heap) (sf : Addr → Prop), Q v h' sf ∧ ∀ B, (∀ x ∈ B, sf x) → OAt G K M (B ++ A) (cs + rm.cells) (sl + rm.slots) h' pc' L (v.toList ++ rest) := by
  subst hp
  obtain ⟨ok, vm0, k0, T, locs, X, hT, hS, hk, hZ, hown, hCh, hAs, hF, hO, st⟩ := c
  obtain ⟨v, vm1, P', hw1, X', hS', hg, hq, st'⟩ := superBackS X ok.1 hZ hown w1 (own_same nf w6 hy) w6 w2 hn (hC.payer hZ w4 w3 hf hl ok.2.2.2.2.2.2 hCh.1 (fun x hx => hAs x (hA x hx)) hO) hT F (g := mkF K.m pc L S) rfl (hL.trans ok.2.2.2.2.2.1.symm) w4 (argsL := argsL) (rest := rest) hlen hstk (by show 2 * 0 + _ ≤ _; omega) (Jvm.hb ok.2.1 hd) (fun _ _ => ⟨rfl, hT, hc, hs⟩)
  obtain ⟨sf, q, c'⟩ := own_after (v := v) (L := L) (S' := v.toList ++ rest) (pc' := pc + 3) ok hT hS hk hZ hown hCh hAs hF X' hS' hg hq (st.trans st')
  exact ⟨v, _, sf, q, c'⟩
/-- a method that the reference's class inherits (sameMethod) -/
theorem OAt.callW {y z : MethodName} {C ow : String} {B : ByteArray} {ml : Nat} {rt : Option FieldType} {rm : Room} {A' : List Addr} {Q : Option Value → Heap → (Addr → Prop) → Prop} {ix W : Nat} {a : Addr} {argsL rest : List Value} (c : OAt G K M A cs sl h pc L S) (pc' : Nat) (hd : decode M.b pc = .ok (.invokevirtual ix, 3))
    (hC : OCon G z B ml rt [] rm (.ref a :: argsL).toArray A' h Q) (hstk : S = argsL.reverse ++ .ref a :: rest) (E : Exa G.Z h a C) (w1 : OW G (Jvm.Cond.methodLink M.own ix y)) (w7 : OW G (Jvm.Cond.sameMethod y.cls ow y.name y.desc)) (w2 : OW G (Jvm.Cond.declares ⟨ow, y.name, y.desc⟩)) (w5 : OW G (Jvm.Cond.selects C y z)) (w6 : OW G (Jvm.Cond.instanceMethod z)) (w3 : OW G (Jvm.Cond.initialized z.cls)) (w4 : OW G (Jvm.Cond.code z B ml rt)) (hlen : ∀ sig, parseMethodDescriptor y.desc = some sig → argsL.length = sig.parameters.length)
    (hA : ∀ x ∈ A', x ∈ A) (hW : (rest.map fun v => v.category).sum = W) (hl : W + (ml + 11) + rm.locals ≤ M.R.locals) (hf : rm.frames + 1 ≤ M.R.frames) (hc : cs + rm.cells ≤ M.R.cells) (hs : sl + rm.slots ≤ M.R.slots) (m7 : ((Jvm.Cond.sameMethod y.cls ow y.name y.desc).onTables && (Jvm.Cond.sameMethod y.cls ow y.name y.desc).keepsFace) = true := by first | rfl | decide) (hy : ow ≠ "java/lang/invoke/MethodHandle" ∧ ow ≠ "java/lang/invoke/VarHandle" := by decide) (hL : L.size = M.ml := by rfl) (hp : pc + 3 = pc' := by rfl) :
    ∃ (v : Option Value) (h' : Heap) (sf : Addr → Prop), Q v h' sf ∧ ∀ B, (∀ x ∈ B, sf x) → OAt G K M (B ++ A) (cs + rm.cells) (sl + rm.slots) h' pc' L (v.toList ++ rest) := by
  subst hp
  obtain ⟨ok, vm0, k0, T, locs, X, hT, hS, hk, hZ, hown, hCh, hAs, hF, hO, st⟩ := c
  obtain ⟨cB, kB, i1, i2, i3⟩ := isOf hZ hT E
  obtain ⟨v, vm1, P', hw1, X', hS', hg, hq, st'⟩ := X.virtualBackUpS ok.1 hown (mvT hZ w1) (mvT hZ w7 m7) (mvT hZ w2) hy (mvT hZ w5) (mvT hZ w6) (hC.payer hZ w4 w3 hf hl ok.2.2.2.2.2.2 hCh.1 (fun x hx => hAs x (hA x hx)) hO) i1 i3 (g := mkF K.m pc L S) rfl (hL.trans ok.2.2.2.2.2.1.symm) st (argsL := argsL) (rest := rest) hlen hstk (by show 2 * 0 + _ ≤ _; omega) (Jvm.hb ok.2.1 hd) (fun _ _ => ⟨rfl, hT, hc, hs⟩)
  obtain ⟨sf, q, c'⟩ := own_after (v := v) (L := L) (S' := v.toList ++ rest) (pc' := pc + 3) ok hT hS hk hZ hown hCh hAs hF X' hS' hg hq st'
  exact ⟨v, _, sf, q, c'⟩
/-- newarray of a primitive type, with the array's own class -/
theorem OAt.newarrX {aty : ArrayType} {n : Int32} (c : OAt G K M A cs sl h pc L (.int n :: S)) (pc' : Nat) (hd : decode M.b pc = .ok (.newarray aty, 2)) (ty : FieldType) (hty : newarray.typeOf aty = ty) (w : OW G (Jvm.Cond.arrayClass ty)) (k : Nat) (hn : Int32.ofNat k = n) (cap : Nat) (hk : k ≤ cap) (hb : cap * 8 ≤ 536870912) (hc : cs + 1 ≤ M.R.cells) (hl : sl + cap ≤ M.R.slots) (hp : pc + 2 = pc' := by rfl) :
    ∃ (a : Addr) (h' : Heap), a = h.size ∧ Ext h h' ∧ G.n0 ≤ a ∧ Ary G.Z h' a ty (List.replicate k (defaultValue ty)) ∧ Exa G.Z h' a ("[" ++ ty.toString) ∧ OAt G K M (a :: A) (cs + 1) (sl + cap) h' pc' L (.ref a :: S) := by
  subst hp hty hn
  have hk31 : k < 2147483648 := by omega
  have e := Int32.toInt_ofNat_small (show k < 2 ^ 31 by omega)
  have e2 : (Int32.ofNat k).toNatClampNeg = k := by simp only [Int32.toNatClampNeg, e]; simp
  obtain ⟨h', E, hn, ⟨hA, hE⟩, c'⟩ := c.grow (pc' := pc + 2) (L' := L) (S' := .ref h.size :: S) (cs' := cs + 1) (sl' := sl + cap) (P := fun h' => Ary G.Z h' h.size (newarray.typeOf aty) (List.replicate k (defaultValue (newarray.typeOf aty))) ∧ Exa G.Z h' h.size ("[" ++ (newarray.typeOf aty).toString))
    fun vm0 T locs X hT hx hbb hZ hown => by
      have hcb : componentBytes (newarray.typeOf aty) ≤ 8 := by cases aty <;> decide
      obtain ⟨cA, kA, comp, h1, h2, h3, X', st⟩ := X.newarrayPrim hx (mvA hZ w) (g := mkF K.m pc L (.int (Int32.ofNat k) :: S)) rfl (Jvm.hb hbb hd) rfl (by rw [Int32.lt_iff_toInt_lt, e]; show ¬ (k : Int) < 0; omega) (Nat.le_trans (Nat.mul_le_mul (show (Int32.ofNat k).toNatClampNeg ≤ cap by omega) hcb) hb) hc (by omega)
      subst hT
      rw [hZ.alike.findClass] at h1
      obtain ⟨kZ, z1, -⟩ := Vm.findClass_spec h1
      obtain ⟨k', z2, z3⟩ := hZ.alike.2.2 _ _ z1
      cases h2.symm.trans z2
      have kk : kZ.kind = .array comp (newarray.typeOf aty) := by rw [← h3, z3]
      have Ar : Arr G.Z (T.heap.push (newA cA (newarray.typeOf aty) (Int32.ofNat k))) T.heap.size (newA cA (newarray.typeOf aty) (Int32.ofNat k)) (newarray.typeOf aty) := ⟨by simp, ⟨by simp [newA], kZ, z1, comp, kk⟩, by simp [newA]⟩
      refine ⟨_, _, X'.more (Nat.le_refl _) (by omega), rfl, ⟨by show T.heap.size ≤ (T.heap.push _).size; simp, fun a c h => ?_⟩, Ar.lt, ⟨Ary.new Ar hk31 (by cases aty <;> rfl), _, kZ, Ar.1, h1, z1, rfl, fun q => by rw [kk] at q; cases q⟩, st⟩
      show (T.heap.push _)[a]? = _
      rw [Array.getElem?_push_lt (Array.getElem?_eq_some_iff.mp h).1]; exact (Array.getElem?_eq_getElem _).symm.trans h
  exact ⟨h.size, h', rfl, E, hn, hA, hE, c'⟩
end Calls2
section Subs
/-- what lastIndexOf('/') answers -/
def OLi (bs : List Int32) (r : Int32) : Prop := (∃ i : Nat, r = Int32.ofNat i ∧ bs[i]? = some 47 ∧ ∀ j, i < j → bs[j]? ≠ some 47) ∨ (r = -1 ∧ ∀ j : Nat, bs[j]? ≠ some 47)
theorem own_li {bs : List Int32} {v : Option Value} (h : (∃ i : Nat, v = some (.int (Int32.ofNat i)) ∧ bs[i]? = some 47 ∧ ∀ j, i < j → bs[j]? ≠ some 47) ∨ (v = some (.int (-1)) ∧ ∀ j : Nat, bs[j]? ≠ some 47)) : ∃ r : Int32, v = some (.int r) ∧ OLi bs r := by
  rcases h with ⟨i, h1, h2, h3⟩ | ⟨h1, h2⟩
  · exact ⟨_, h1, Or.inl ⟨i, rfl, h2, h3⟩⟩
  · exact ⟨_, h1, Or.inr ⟨rfl, h2⟩⟩
theorem own_pred (i : Nat) (hi : i + 1 < 2147483648) : Int32.ofNat (i + 1) + Int32.ofInt (-1) = Int32.ofNat i := by
  apply Int32.toInt_inj.mp
  have h := c_iadd (Int32.ofNat (i + 1)) (Int32.ofInt (-1))
  rw [own_toInt hi] at h
  have e : (Int32.ofInt (-1)).toInt = -1 := by decide
  have r := rng32 (Int32.ofNat (i + 1) + Int32.ofInt (-1))
  rw [own_toInt (by omega)]
  omega
theorem own_lo47 {c : Int32} (h : 0 ≤ c.toInt ∧ c.toInt < 256) : lo8 c = 47 ↔ c = 47 := by
  constructor
  · intro e
    rw [← own_mask h, e]; decide
  · rintro rfl; decide
end Subs
section Strings2
variable {Z : State} {h h' : Heap} {a b x : Addr} {cs : List Int32}
theorem own_fillU {i r : Nat} {ci : Int32} (hci : cs[i]? = some ci) (hel : (encU (cs.take i)).length = 2 * i) : ((encU (cs.take i) ++ List.replicate (2 * (r + 1)) (Value.int 0)).set (2 * i) (.int (lo8 ci))).set (2 * i + 1) (.int (lo8 (ci >>> ((8 : Int32) &&& 31)))) = encU (cs.take (i + 1)) ++ List.replicate (2 * r) (.int 0) := by
  have e1 : List.replicate (2 * (r + 1)) (Value.int 0) = .int 0 :: .int 0 :: List.replicate (2 * r) (.int 0) := by
    rw [show 2 * (r + 1) = 2 * r + 1 + 1 by omega, List.replicate_succ, List.replicate_succ]
  rw [e1, List.set_append_right _ _ (by omega), hel, Nat.sub_self, List.set_cons_zero, List.set_append_right _ _ (by omega), hel, Nat.add_sub_cancel_left, List.take_add_one, hci]
  simp [encU]
theorem own_encU {k : Nat} {c : Int32} (hc : cs[k]? = some c) : (encU cs)[2 * k]? = some (.int (lo8 c)) ∧ (encU cs)[2 * k + 1]? = some (.int (lo8 (c >>> ((8 : Int32) &&& 31)))) := by
  induction cs generalizing k with
  | nil => simp at hc
  | cons d ds ih =>
    cases k with
    | zero => simp at hc; subst hc; simp [encU]
    | succ k =>
      have := ih (k := k) (by simpa using hc)
      have e : encU (d :: ds) = .int (lo8 d) :: .int (lo8 (d >>> ((8 : Int32) &&& 31))) :: encU ds := by simp [encU]
      rw [e, show 2 * (k + 1) = 2 * k + 1 + 1 by omega]
      exact this
theorem own_cod1 {n : Nat} (h0 : 0 < n) (hn : n < 1073741824) : (Jvm.Free.XT.ushr (Int32.ofNat n - Int32.ofNat (2 * n)) 31).toInt8.toInt32 = 1 := by
  have h1 := c_isub (Int32.ofNat n) (Int32.ofNat (2 * n))
  rw [own_toInt (by omega), own_toInt (by omega)] at h1
  have r := rng32 (Int32.ofNat n - Int32.ofNat (2 * n))
  have h2 : (Jvm.Free.XT.ushr (Int32.ofNat n - Int32.ofNat (2 * n)) 31).toInt = _ := c_iushr (Int32.ofNat n - Int32.ofNat (2 * n)) 31 31 (by decide) (by decide)
  have e : Jvm.Free.XT.ushr (Int32.ofNat n - Int32.ofNat (2 * n)) 31 = 1 := by
    apply Int32.toInt_inj.mp
    rw [h2]
    have : (1 : Int32).toInt = 1 := by decide
    omega
  rw [e]; decide
theorem own_strB (S : Str Z h a cs) : ∃ co bs, StrB Z h a co bs ∧ (bs.length = 0 ↔ cs = []) := by
  rcases S with ⟨-, B⟩ | ⟨-, -, B⟩
  · exact ⟨_, _, B, by rw [encL_len]; exact List.length_eq_zero_iff⟩
  · exact ⟨_, _, B, by rw [encU_len, ← List.length_eq_zero_iff]; omega⟩
end Strings2
section Strings3
variable {Z : State} {h h' : Heap} {a b x : Addr} {cs xs ys : List Int32}
/-- the bytes of a String of the chars cs, of this coder -/
def Enc (co : Int32) (bs : List Int32) (cs : List Int32) : Prop := (Lat cs ∧ co = 0 ∧ bs = cs.map lo8) ∨ (Chs cs ∧ (∃ c ∈ cs, 255 < c.toInt) ∧ co = 1 ∧ bs = cs.flatMap fun c => [lo8 c, lo8 (c >>> ((8 : Int32) &&& 31))])
theorem encL_map (cs : List Int32) : encL cs = (cs.map lo8).map Value.int := by simp [encL]
theorem encU_map (cs : List Int32) : encU cs = (cs.flatMap fun c => [lo8 c, lo8 (c >>> ((8 : Int32) &&& 31))]).map Value.int := by
  induction cs with
  | nil => rfl
  | cons c cs ih => simp only [encU, List.flatMap_cons, List.map_append, List.map_cons, List.map_nil] at ih ⊢; rw [ih]
theorem own_strE (S : Str Z h a cs) : ∃ co bs, StrB Z h a co (bs.map Value.int) ∧ Enc co bs cs := by
  rcases S with ⟨l, B⟩ | ⟨l, g, B⟩
  · exact ⟨0, cs.map lo8, by rw [← encL_map]; exact B, Or.inl ⟨l, rfl, rfl⟩⟩
  · exact ⟨1, _, by rw [← encU_map]; exact B, Or.inr ⟨l, g, rfl, rfl⟩⟩
theorem own_latInj (hx : Lat xs) (hy : Lat ys) (e : xs.map lo8 = ys.map lo8) : xs = ys := by
  induction xs generalizing ys with
  | nil => cases ys with
    | nil => rfl
    | cons y ys => simp at e
  | cons x xs ih => cases ys with
    | nil => simp at e
    | cons y ys =>
      simp only [List.map_cons, List.cons.injEq] at e
      have e1 : x = y := by rw [← own_mask (hx x (by simp)), e.1, own_mask (hy y (by simp))]
      rw [e1, ih (fun c hc => hx c (by simp [hc])) (fun c hc => hy c (by simp [hc])) e.2]
theorem own_chsInj (hx : Chs xs) (hy : Chs ys) (e : (xs.flatMap fun c => [lo8 c, lo8 (c >>> ((8 : Int32) &&& 31))]) = ys.flatMap fun c => [lo8 c, lo8 (c >>> ((8 : Int32) &&& 31))]) : xs = ys := by
  induction xs generalizing ys with
  | nil => cases ys with
    | nil => rfl
    | cons y ys => simp at e
  | cons x xs ih => cases ys with
    | nil => simp at e
    | cons y ys =>
      simp only [List.flatMap_cons, List.cons_append, List.nil_append, List.cons.injEq] at e
      have e1 : x = y := by rw [← own_char2 (hx x (by simp)), e.1, e.2.1, own_char2 (hy y (by simp))]
      rw [e1, ih (fun c hc => hx c (by simp [hc])) (fun c hc => hy c (by simp [hc])) e.2.2]
theorem own_strC {co1 co2 : Int32} {us vs : List Int32} (h1 : Enc co1 us xs) (h2 : Enc co2 vs ys) : (co1 = co2 ∧ us = vs) ↔ xs = ys := by
  constructor
  · rintro ⟨rfl, rfl⟩
    rcases h1 with ⟨l1, e1, b1⟩ | ⟨l1, g1, e1, b1⟩ <;> rcases h2 with ⟨l2, e2, b2⟩ | ⟨l2, g2, e2, b2⟩
    · exact own_latInj l1 l2 (b1.symm.trans b2)
    · rw [e1] at e2; exact absurd e2 (by decide)
    · rw [e1] at e2; exact absurd e2 (by decide)
    · exact own_chsInj l1 l2 (b1.symm.trans b2)
  · rintro rfl
    rcases h1 with ⟨l1, rfl, rfl⟩ | ⟨l1, g1, rfl, rfl⟩ <;> rcases h2 with ⟨l2, rfl, rfl⟩ | ⟨l2, g2, rfl, rfl⟩
    · exact ⟨rfl, rfl⟩
    · obtain ⟨c, hc, q⟩ := g2; have := (l1 c hc).2; omega
    · obtain ⟨c, hc, q⟩ := g1; have := (l2 c hc).2; omega
    · exact ⟨rfl, rfl⟩
theorem own_fld_inj {C n d : String} {v w : Value} (F : Fld Z h a C n d v) (F' : Fld Z h a C n d w) : v = w := by
  by_cases q : v = w
  · exact q
  · exact absurd rfl (F.ne F' q)
theorem Ary.inj {ty : FieldType} {us vs : List Value} (F : Ary Z h a ty us) (F' : Ary Z h a ty vs) : us = vs := by
  obtain ⟨c, A, rfl, -⟩ := F
  obtain ⟨c', A', rfl, -⟩ := F'
  cases A.1.symm.trans A'.1; rfl
theorem Str.inj (S1 : Str Z h a xs) (S2 : Str Z h a ys) : xs = ys := by
  obtain ⟨co1, us, ⟨E1, C1, b1, V1, Y1⟩, e1⟩ := own_strE S1
  obtain ⟨co2, vs, ⟨E2, C2, b2, V2, Y2⟩, e2⟩ := own_strE S2
  have hc : co1 = co2 := by have := own_fld_inj C1 C2; simpa using this
  have hb : b1 = b2 := by have := own_fld_inj V1 V2; simpa using this
  subst hb
  have hv := Y1.inj Y2
  have hv' : us = vs := by
    have := congrArg (List.map fun v => match v with | Value.int x => x | _ => 0) hv
    simpa [List.map_map, Function.comp_def] using this
  exact (own_strC e1 e2).mp ⟨hc, hv'⟩
theorem Str.exa (S : Str Z h a cs) : Exa Z h a "java/lang/String" := by rcases S with ⟨-, q⟩ | ⟨-, -, q⟩ <;> exact q.1
theorem own_strlit {bs : List Value} (E : Exa Z h a "java/lang/String") (C : Fld Z h a "java/lang/String" "coder" "B" (.int 0)) (V : Fld Z h a "java/lang/String" "value" "[B" (.ref b)) (Y : Ary Z h b .byte bs) (hl : Lat cs) (hb : encL cs = bs) : Str Z h a cs := Or.inl ⟨hl, E, C, b, V, hb ▸ Y⟩
end Strings3
def OGood (G : Gx) : Prop := (∀ d ∈ tables_1, d.before G.a0 G.Z = true) ∧ G.EL = consts_1 ∧ (∃ z : Int32, Sta G.Z G.Z.heap "java/lang/String" "COMPACT_STRINGS" "Z" (.int z) ∧ z ≠ 0) ∧ Sta G.Z G.Z.heap "java/lang/StringUTF16" "$assertionsDisabled" "Z" (.int 1) ∧ Sta G.Z G.Z.heap "java/lang/StringUTF16" "HI_BYTE_SHIFT" "I" (.int 0) ∧ Sta G.Z G.Z.heap "java/lang/StringUTF16" "LO_BYTE_SHIFT" "I" (.int 8) ∧ (∃ z : Value, Sta G.Z G.Z.heap "jdk/internal/util/Preconditions" "SIOOBE_FORMATTER" "Ljava/util/function/BiFunction;" z ∧ z.isRef = true) ∧ (∃ o : Addr, Sta G.Z G.Z.heap "com/example/wegweiser/wegweiser/directory/Author" "OPERATOR" "Lcom/example/wegweiser/wegweiser/directory/Author;" (.ref o) ∧ o < G.Z.heap.size) ∧ True
theorem own_ew {G : Gx} (hG : OGood G) : EW G.Z G.a0 G.EL := by rw [hG.2.1]; exact (EW.cons (hG.1 _ (List.mem_of_getElem? (i := 64) rfl)) (by decide) (EW.cons (hG.1 _ (List.mem_of_getElem? (i := 163) rfl)) (by decide) (EW.cons (hG.1 _ (List.mem_of_getElem? (i := 14) rfl)) (by decide) EW.nil)))
theorem own_el_0 {G : Gx} (hG : OGood G) : ("com/example/wegweiser/wegweiser/directory/Author", 35) ∈ G.EL := by rw [hG.2.1]; exact List.mem_of_getElem? (i := 0) rfl
theorem own_el_1 {G : Gx} (hG : OGood G) : ("com/example/wegweiser/wegweiser/directory/AuthorClientPinLaw", 40) ∈ G.EL := by rw [hG.2.1]; exact List.mem_of_getElem? (i := 1) rfl
theorem own_el_2 {G : Gx} (hG : OGood G) : ("java/lang/String", 7) ∈ G.EL := by rw [hG.2.1]; exact List.mem_of_getElem? (i := 2) rfl
theorem own_sa {G : Gx} (hG : OGood G) : ∀ a ∈ Bundle.stringAtoms, OW G a := fun d hd => by
  simp only [Bundle.stringAtoms, List.mem_cons, List.not_mem_nil, or_false] at hd
  rcases hd with rfl | rfl | rfl | rfl | rfl | rfl | rfl
  · exact (hG.1 _ (List.mem_of_getElem? (i := 3) rfl))
  · exact (hG.1 _ (List.mem_of_getElem? (i := 2) rfl))
  · exact (hG.1 _ (List.mem_of_getElem? (i := 15) rfl))
  · exact (hG.1 _ (List.mem_of_getElem? (i := 16) rfl))
  · exact (hG.1 _ (List.mem_of_getElem? (i := 17) rfl))
  · exact (hG.1 _ (List.mem_of_getElem? (i := 18) rfl))
  · exact (hG.1 _ (List.mem_of_getElem? (i := 19) rfl))
abbrev y_cod : MethodName := ⟨"java/lang/StringUTF16", "coderFromArrayLen", "([BI)B"⟩
theorem pn_0 : plainName "java/lang/StringUTF16" = true := by first | (simp [plainName, overriddenIn]; done) | decide +kernel
theorem d_cod_0 : decode jdk_52_method_15_code 0 = .ok (.iload_n 1, 1) := by decide +kernel
theorem d_cod_1 : decode jdk_52_method_15_code 1 = .ok (.aload_n 0, 1) := by decide +kernel
theorem d_cod_2 : decode jdk_52_method_15_code 2 = .ok (.arraylength, 1) := by decide +kernel
theorem d_cod_3 : decode jdk_52_method_15_code 3 = .ok (.isub, 1) := by decide +kernel
theorem d_cod_4 : decode jdk_52_method_15_code 4 = .ok (.bipush 31, 2) := by decide +kernel
theorem d_cod_6 : decode jdk_52_method_15_code 6 = .ok (.iushr, 1) := by decide +kernel
theorem d_cod_7 : decode jdk_52_method_15_code 7 = .ok (.i2b, 1) := by decide +kernel
theorem d_cod_8 : decode jdk_52_method_15_code 8 = .ok (.ireturn, 1) := by decide +kernel
abbrev rm_cod : Room := { frames := 0, cells := 0, slots := 0, locals := 0 }
abbrev M_cod : Mx := (jdk_52_method_15_code, y_cod.cls, (some .byte), y_cod.name, 2, rm_cod)
theorem ef_cod (m : MethodId) (x0 : Addr) (x1 : Int32) : entryFrame m #[.ref x0, .int x1] 2 = mkF m 0 #[.val (.ref x0), .val (.int x1)] [] := by first | (simp [entryFrame, mkF, argsToLocals, Value.category]; done) | rfl
set_option maxRecDepth 65536 in
set_option maxHeartbeats 4000000 in
theorem con_cod {G : Gx} (hG : OGood G) {h0 : Heap} {b : Addr} {vs : List Value} {n : Nat} {r : Int32} (Y : Ary G.Z h0 b .byte vs) (hr : (Jvm.Free.XT.ushr (Int32.ofNat n - Int32.ofNat vs.length) 31).toInt8.toInt32 = r) (hn : narrow .byte (.int r) = .int r) : OCon G y_cod jdk_52_method_15_code 2 (some .byte) [] rm_cod #[.ref b, .int (Int32.ofNat n)] [] h0 (fun v h' _ => v = some (.int r) ∧ h' = h0) := by
  refine OCon.intro (plainFor_of_name pn_0) (own_ew hG) #[.val (.ref b), .val (.int (Int32.ofNat n))] (fun m => ef_cod m b (Int32.ofNat n)) ?_
  intro K c
  replace c : OAt G K M_cod [] 0 0 h0 0 #[.val (.ref b), .val (.int (Int32.ofNat n))] [] := c
  replace c := c.iloadN 1 d_cod_0 rfl
  replace c := c.aloadN 2 d_cod_1 rfl rfl
  replace c := c.arrlen 3 d_cod_2 Y (Int32.ofNat vs.length) rfl
  replace c := c.isub 4 d_cod_3
  replace c := c.bipush 6 d_cod_4 31 (by decide)
  replace c := c.iushr 7 d_cod_6
  replace c := c.i2b 8 d_cod_7
  rw [hr] at c
  exact c.reti (t := .byte) d_cod_8 rfl hn (by simp) (fun sf hs => ⟨rfl, rfl⟩) (by decide) (by decide)
abbrev y_cmp5 : MethodName := ⟨"java/lang/StringUTF16", "compress", "([CI[BII)I"⟩
abbrev Q_cmp5 (G : Gx) (h0 : Heap) (d : Addr) (cs : List Int32) (vs : List Value) : Option Value → Heap → (Addr → Prop) → Prop := fun v h' _ => ∃ k, k ≤ cs.length ∧ v = some (.int (Int32.ofNat k)) ∧ Keep h0 h' [d] ∧ Ary G.Z h' d .byte ((encL cs).take k ++ vs.drop k) ∧ Lat (cs.take k) ∧ ∀ c, cs[k]? = some c → 255 < c.toInt
theorem d_cmp5_0 : decode jdk_52_method_21_code 0 = .ok (.iconst 0, 1) := by decide +kernel
theorem d_cmp5_1 : decode jdk_52_method_21_code 1 = .ok (.istore 5, 2) := by decide +kernel
theorem d_cmp5_3 : decode jdk_52_method_21_code 3 = .ok (.iload 5, 2) := by decide +kernel
theorem d_cmp5_5 : decode jdk_52_method_21_code 5 = .ok (.iload 4, 2) := by decide +kernel
theorem d_cmp5_7 : decode jdk_52_method_21_code 7 = .ok (.if_icmp .ge 37, 3) := by decide +kernel
theorem d_cmp5_10 : decode jdk_52_method_21_code 10 = .ok (.aload_n 0, 1) := by decide +kernel
theorem d_cmp5_11 : decode jdk_52_method_21_code 11 = .ok (.iload_n 1, 1) := by decide +kernel
theorem d_cmp5_12 : decode jdk_52_method_21_code 12 = .ok (.caload, 1) := by decide +kernel
theorem d_cmp5_13 : decode jdk_52_method_21_code 13 = .ok (.istore 6, 2) := by decide +kernel
theorem d_cmp5_15 : decode jdk_52_method_21_code 15 = .ok (.iload 6, 2) := by decide +kernel
theorem d_cmp5_17 : decode jdk_52_method_21_code 17 = .ok (.sipush 255, 3) := by decide +kernel
theorem d_cmp5_20 : decode jdk_52_method_21_code 20 = .ok (.if_icmp .le 6, 3) := by decide +kernel
theorem d_cmp5_23 : decode jdk_52_method_21_code 23 = .ok (.iload 5, 2) := by decide +kernel
theorem d_cmp5_25 : decode jdk_52_method_21_code 25 = .ok (.ireturn, 1) := by decide +kernel
theorem d_cmp5_26 : decode jdk_52_method_21_code 26 = .ok (.aload_n 2, 1) := by decide +kernel
theorem d_cmp5_27 : decode jdk_52_method_21_code 27 = .ok (.iload_n 3, 1) := by decide +kernel
theorem d_cmp5_28 : decode jdk_52_method_21_code 28 = .ok (.iload 6, 2) := by decide +kernel
theorem d_cmp5_30 : decode jdk_52_method_21_code 30 = .ok (.i2b, 1) := by decide +kernel
theorem d_cmp5_31 : decode jdk_52_method_21_code 31 = .ok (.bastore, 1) := by decide +kernel
theorem d_cmp5_32 : decode jdk_52_method_21_code 32 = .ok (.iinc 1 1, 3) := by decide +kernel
theorem d_cmp5_35 : decode jdk_52_method_21_code 35 = .ok (.iinc 3 1, 3) := by decide +kernel
theorem d_cmp5_38 : decode jdk_52_method_21_code 38 = .ok (.iinc 5 1, 3) := by decide +kernel
theorem d_cmp5_41 : decode jdk_52_method_21_code 41 = .ok (.goto (-38), 3) := by decide +kernel
theorem d_cmp5_44 : decode jdk_52_method_21_code 44 = .ok (.iload 4, 2) := by decide +kernel
theorem d_cmp5_46 : decode jdk_52_method_21_code 46 = .ok (.ireturn, 1) := by decide +kernel
abbrev rm_cmp5 : Room := { frames := 0, cells := 0, slots := 0, locals := 0 }
abbrev M_cmp5 : Mx := (jdk_52_method_21_code, y_cmp5.cls, (some .int), y_cmp5.name, 7, rm_cmp5)
theorem ef_cmp5 (m : MethodId) (x0 : Addr) (x1 : Int32) (x2 : Addr) (x3 : Int32) (x4 : Int32) : entryFrame m #[.ref x0, .int x1, .ref x2, .int x3, .int x4] 7 = mkF m 0 #[.val (.ref x0), .val (.int x1), .val (.ref x2), .val (.int x3), .val (.int x4), .unset, .unset] [] := by first | (simp [entryFrame, mkF, argsToLocals, Value.category]; done) | rfl
set_option maxRecDepth 65536 in
set_option maxHeartbeats 4000000 in
theorem con_cmp5 {G : Gx} (hG : OGood G) {h0 : Heap} {ca d : Addr} {cs : List Int32} {vs : List Value} (hd : G.n0 ≤ d) (Y : Ary G.Z h0 ca .char (cs.map Value.int)) (D : Ary G.Z h0 d .byte vs) (hv : vs.length = cs.length) : OCon G y_cmp5 jdk_52_method_21_code 7 (some .int) [] rm_cmp5 #[.ref ca, .int 0, .ref d, .int 0, .int (Int32.ofNat cs.length)] [d] h0 (Q_cmp5 G h0 d cs vs) := by
  refine OCon.intro (plainFor_of_name pn_0) (own_ew hG) #[.val (.ref ca), .val (.int 0), .val (.ref d), .val (.int 0), .val (.int (Int32.ofNat cs.length)), .unset, .unset] (fun m => ef_cmp5 m ca 0 d 0 (Int32.ofNat cs.length)) ?_
  intro K c
  replace c : OAt G K M_cmp5 [d] 0 0 h0 0 #[.val (.ref ca), .val (.int 0), .val (.ref d), .val (.int 0), .val (.int (Int32.ofNat cs.length)), .unset, .unset] [] := c
  replace c := c.iconst 1 d_cmp5_0 0 (by decide)
  replace c := c.istore 3 d_cmp5_1 #[.val (.ref ca), .val (.int 0), .val (.ref d), .val (.int 0), .val (.int (Int32.ofNat cs.length)), .val (.int 0), .unset] rfl
  have hlen : cs.length < 2147483648 := by simpa using Y.len
  have hne : ca ≠ d := fun q => by obtain ⟨c1, A1, -⟩ := Y; obtain ⟨c2, A2, -⟩ := D; rw [q] at A1; exact absurd (own_arr_type A1 A2) (by decide)
  have loop : ∀ (r i : Nat), i + r = cs.length → ∀ (z : Slot) (h1 : Heap), One z → Keep h0 h1 [d] → Ary G.Z h1 d .byte ((encL cs).take i ++ vs.drop i) → Lat (cs.take i) → OAt G K M_cmp5 [d] 0 0 h1 3 #[.val (.ref ca), .val (.int (Int32.ofNat i)), .val (.ref d), .val (.int (Int32.ofNat i)), .val (.int (Int32.ofNat cs.length)), .val (.int (Int32.ofNat i)), z] [] → ODone G K rm_cmp5 (Q_cmp5 G h0 d cs vs) := by
    intro r
    induction r with
    | zero =>
      intro i hi z h1 hz K1 D1 la c
      have hin : i = cs.length := by omega
      subst hin
      replace c := c.iload 5 d_cmp5_3 rfl
      replace c := c.iload 7 d_cmp5_5 rfl
      replace c := c.icT 44 d_cmp5_7 (own_ic_ge_t (own_nlt (by omega) hlen))
      replace c := c.iload 46 d_cmp5_44 rfl
      exact c.reti (t := .int) d_cmp5_46 rfl rfl (by simp) (fun sf hs => ⟨cs.length, Nat.le_refl _, rfl, K1, D1, la, fun c hc => by simp at hc⟩) (by decide) (by decide)
    | succ r ih =>
      intro i hi z h1 hz K1 D1 la c
      have hil : i < cs.length := by omega
      obtain ⟨ci, hci⟩ : ∃ ci, cs[i]? = some ci := ⟨cs[i], List.getElem?_eq_getElem hil⟩
      have Y1 : Ary G.Z h1 ca .char (cs.map Value.int) := Y.keep K1 (ninS hne nin0)
      replace c := c.iload 5 d_cmp5_3 rfl
      replace c := c.iload 7 d_cmp5_5 rfl
      replace c := c.icF 10 d_cmp5_7 (own_ic_ge_f (own_lt hil hlen))
      replace c := c.aloadN 11 d_cmp5_10 rfl rfl
      replace c := c.iloadN 12 d_cmp5_11 rfl
      replace c := c.caload 13 d_cmp5_12 Y1 (i) rfl (.int ci) (by simp [hci])
      replace c := c.istoreS 15 d_cmp5_13 rfl hz
      replace c : OAt G K M_cmp5 [d] 0 0 h1 15 #[.val (.ref ca), .val (.int (Int32.ofNat i)), .val (.ref d), .val (.int (Int32.ofNat i)), .val (.int (Int32.ofNat cs.length)), .val (.int (Int32.ofNat i)), .val (.int ci)] [] := c
      replace c := c.iload 17 d_cmp5_15 rfl
      replace c := c.sipush 20 d_cmp5_17 255 (by decide)
      by_cases q : (255 : Int32) < ci
      · skip
        replace c := c.icF 23 d_cmp5_20 (own_ic_le_f q)
        replace c := c.iload 25 d_cmp5_23 rfl
        exact c.reti (t := .int) d_cmp5_25 rfl rfl (by simp) (fun sf hs => ⟨i, by omega, rfl, K1, D1, la, fun c hc => by rw [hci] at hc; cases hc; rw [Int32.lt_iff_toInt_lt] at q; exact q⟩) (by decide) (by decide)
      · skip
        replace c := c.icT 26 d_cmp5_20 (own_ic_le_t q)
        replace c := c.aloadN 27 d_cmp5_26 rfl rfl
        replace c := c.iloadN 28 d_cmp5_27 rfl
        replace c := c.iload 30 d_cmp5_28 rfl
        replace c := c.i2b 31 d_cmp5_30
        have hvi : i < ((encL cs).take i ++ vs.drop i).length := by simp [encL_len]; omega
        obtain ⟨hp, Wp, Yp, c⟩ := c.bastore 32 d_cmp5_31 D1 (i) rfl hvi hd (by simp) (lo8 ci) (own_nar_b ci)
        replace c := c.iinc 35 d_cmp5_32 rfl (Int32.ofNat (i + 1)) (own_succ i) #[.val (.ref ca), .val (.int (Int32.ofNat (i + 1))), .val (.ref d), .val (.int (Int32.ofNat i)), .val (.int (Int32.ofNat cs.length)), .val (.int (Int32.ofNat i)), .val (.int ci)] rfl
        replace c := c.iinc 38 d_cmp5_35 rfl (Int32.ofNat (i + 1)) (own_succ i) #[.val (.ref ca), .val (.int (Int32.ofNat (i + 1))), .val (.ref d), .val (.int (Int32.ofNat (i + 1))), .val (.int (Int32.ofNat cs.length)), .val (.int (Int32.ofNat i)), .val (.int ci)] rfl
        replace c := c.iinc 41 d_cmp5_38 rfl (Int32.ofNat (i + 1)) (own_succ i) #[.val (.ref ca), .val (.int (Int32.ofNat (i + 1))), .val (.ref d), .val (.int (Int32.ofNat (i + 1))), .val (.int (Int32.ofNat cs.length)), .val (.int (Int32.ofNat (i + 1))), .val (.int ci)] rfl
        replace c := c.goto 3 d_cmp5_41
        have hfill := own_fill (encL cs) vs i (.int (lo8 ci)) (by simp [encL, hci]) (by omega)
        rw [hfill] at Yp
        refine ih (i + 1) (by omega) _ _ (One.val rfl) (K1.wr Wp (Or.inl (by simp))) Yp ?_ c
        intro c hc
        rw [List.take_add_one, hci] at hc
        rcases List.mem_append.mp hc with hc | hc
        · exact la c hc
        · have hc' : c = ci := by simpa using hc
          rw [hc']; have := own_chs Y ci (List.mem_of_getElem? hci); rw [Int32.lt_iff_toInt_lt] at q; have e : (255 : Int32).toInt = 255 := by decide
          omega
  exact loop cs.length 0 (by omega) _ _ One.u (Keep.refl _ _) (by simpa using D) (fun c hc => by simp at hc) c
abbrev y_nbl : MethodName := ⟨"java/lang/StringUTF16", "newBytesLength", "(I)I"⟩
theorem d_nbl_0 : decode jdk_52_method_3_code 0 = .ok (.iload_n 0, 1) := by decide +kernel
theorem d_nbl_1 : decode jdk_52_method_3_code 1 = .ok (.ifCond .ge 11, 3) := by decide +kernel
theorem d_nbl_12 : decode jdk_52_method_3_code 12 = .ok (.iload_n 0, 1) := by decide +kernel
theorem d_nbl_13 : decode jdk_52_method_3_code 13 = .ok (.ldc 20, 2) := by decide +kernel
theorem d_nbl_15 : decode jdk_52_method_3_code 15 = .ok (.if_icmp .lt 40, 3) := by decide +kernel
theorem d_nbl_55 : decode jdk_52_method_3_code 55 = .ok (.iload_n 0, 1) := by decide +kernel
theorem d_nbl_56 : decode jdk_52_method_3_code 56 = .ok (.iconst 1, 1) := by decide +kernel
theorem d_nbl_57 : decode jdk_52_method_3_code 57 = .ok (.ishl, 1) := by decide +kernel
theorem d_nbl_58 : decode jdk_52_method_3_code 58 = .ok (.ireturn, 1) := by decide +kernel
abbrev rm_nbl : Room := { frames := 0, cells := 0, slots := 0, locals := 0 }
abbrev M_nbl : Mx := (jdk_52_method_3_code, y_nbl.cls, (some .int), y_nbl.name, 1, rm_nbl)
theorem ef_nbl (m : MethodId) (x0 : Int32) : entryFrame m #[.int x0] 1 = mkF m 0 #[.val (.int x0)] [] := by first | (simp [entryFrame, mkF, argsToLocals, Value.category]; done) | rfl
set_option maxRecDepth 65536 in
set_option maxHeartbeats 4000000 in
theorem con_nbl {G : Gx} (hG : OGood G) {h0 : Heap} {n : Nat} (hn : n ≤ 4000) : OCon G y_nbl jdk_52_method_3_code 1 (some .int) [] rm_nbl #[.int (Int32.ofNat n)] [] h0 (fun v h' _ => v = some (.int (Int32.ofNat (2 * n))) ∧ h' = h0) := by
  refine OCon.intro (plainFor_of_name pn_0) (own_ew hG) #[.val (.int (Int32.ofNat n))] (fun m => ef_nbl m (Int32.ofNat n)) ?_
  intro K c
  replace c : OAt G K M_nbl [] 0 0 h0 0 #[.val (.int (Int32.ofNat n))] [] := c
  replace c := c.iloadN 1 d_nbl_0 rfl
  replace c := c.ifT 12 d_nbl_1 (own_if_ge_t (own_nneg (by omega)))
  replace c := c.iloadN 13 d_nbl_12 rfl
  replace c := c.ldcI 15 d_nbl_13 (v := 1073741823) (hG.1 _ (List.mem_of_getElem? (i := 205) rfl))
  replace c := c.icT 55 d_nbl_15 (own_ic_lt_t (own_lt (n := 1073741823) (by omega) (by decide)))
  replace c := c.iloadN 56 d_nbl_55 rfl
  replace c := c.iconst 57 d_nbl_56 1 (by decide)
  replace c := c.ishl 58 d_nbl_57
  rw [own_shl1 n (by omega)] at c
  exact c.reti (t := .int) d_nbl_58 rfl rfl (by simp) (fun sf hs => ⟨rfl, rfl⟩) (by decide) (by decide)
abbrev y_nbf : MethodName := ⟨"java/lang/StringUTF16", "newBytesFor", "(I)[B"⟩
theorem pd_0 : parseMethodDescriptor "(I)I" = some ⟨[.int], some .int⟩ := by decide +kernel
theorem d_nbf_0 : decode jdk_52_method_2_code 0 = .ok (.iload_n 0, 1) := by decide +kernel
theorem d_nbf_1 : decode jdk_52_method_2_code 1 = .ok (.invokestatic 11, 3) := by decide +kernel
theorem d_nbf_4 : decode jdk_52_method_2_code 4 = .ok (.newarray .byte, 2) := by decide +kernel
theorem d_nbf_6 : decode jdk_52_method_2_code 6 = .ok (.areturn, 1) := by decide +kernel
abbrev rm_nbf : Room := { frames := 1, cells := 1, slots := 32, locals := 12 }
abbrev M_nbf : Mx := (jdk_52_method_2_code, y_nbf.cls, (some (.array .byte)), y_nbf.name, 1, rm_nbf)
theorem ef_nbf (m : MethodId) (x0 : Int32) : entryFrame m #[.int x0] 1 = mkF m 0 #[.val (.int x0)] [] := by first | (simp [entryFrame, mkF, argsToLocals, Value.category]; done) | rfl
set_option maxRecDepth 65536 in
set_option maxHeartbeats 4000000 in
theorem con_nbf {G : Gx} (hG : OGood G) {h0 : Heap} {n : Nat} (hn : n ≤ 16) : OCon G y_nbf jdk_52_method_2_code 1 (some (.array .byte)) [] rm_nbf #[.int (Int32.ofNat n)] [] h0 (fun v h' sf => ∃ u : Addr, v = some (.ref u) ∧ u = h0.size ∧ G.n0 ≤ u ∧ Ext h0 h' ∧ Ary G.Z h' u .byte (List.replicate (2 * n) (.int 0)) ∧ sf u) := by
  refine OCon.intro (plainFor_of_name pn_0) (own_ew hG) #[.val (.int (Int32.ofNat n))] (fun m => ef_nbf m (Int32.ofNat n)) ?_
  intro K c
  replace c : OAt G K M_nbf [] 0 0 h0 0 #[.val (.int (Int32.ofNat n))] [] := c
  replace c := c.iloadN 1 d_nbf_0 rfl
  obtain ⟨v, h1, sf, ⟨rfl, hh⟩, c⟩ := c.callS (y := y_nbl) (argsL := [.int (Int32.ofNat n)]) (rest := []) 4 d_nbf_1 (con_nbl hG (by omega)) rfl (hG.1 _ (List.mem_of_getElem? (i := 202) rfl)) (hG.1 _ (List.mem_of_getElem? (i := 203) rfl)) (hG.1 _ (List.mem_of_getElem? (i := 188) rfl)) (hG.1 _ (List.mem_of_getElem? (i := 204) rfl)) (lenOf pd_0 rfl) (by simp) (W := 0) rfl (by decide) (by decide) (by decide) (by decide)
  rw [hh] at c
  replace c := c [] (by simp)
  replace c : OAt G K M_nbf [] 0 0 h0 4 #[.val (.int (Int32.ofNat n))] [.int (Int32.ofNat (2 * n))] := c
  obtain ⟨u, h_u, s_u, x_u, g_u, Y_u, c⟩ := c.newarr 6 d_nbf_4 .byte rfl (hG.1 _ (List.mem_of_getElem? (i := 15) rfl)) (2 * n) rfl 32 (by omega) (by decide) (by decide) (by decide)
  exact c.reta (t := (.array .byte)) d_nbf_6 rfl rfl rfl rfl (fun sf hs => ⟨u, rfl, s_u, g_u, x_u, Y_u, hs u (by simp)⟩) (by decide) (by decide)
abbrev y_putc : MethodName := ⟨"java/lang/StringUTF16", "putChar", "([BII)V"⟩
theorem d_putc_0 : decode jdk_52_method_4_code 0 = .ok (.getstatic 44, 3) := by decide +kernel
theorem d_putc_3 : decode jdk_52_method_4_code 3 = .ok (.ifCond .ne 25, 3) := by decide +kernel
theorem d_putc_28 : decode jdk_52_method_4_code 28 = .ok (.iload_n 1, 1) := by decide +kernel
theorem d_putc_29 : decode jdk_52_method_4_code 29 = .ok (.iconst 1, 1) := by decide +kernel
theorem d_putc_30 : decode jdk_52_method_4_code 30 = .ok (.ishl, 1) := by decide +kernel
theorem d_putc_31 : decode jdk_52_method_4_code 31 = .ok (.istore_n 1, 1) := by decide +kernel
theorem d_putc_32 : decode jdk_52_method_4_code 32 = .ok (.aload_n 0, 1) := by decide +kernel
theorem d_putc_33 : decode jdk_52_method_4_code 33 = .ok (.iload_n 1, 1) := by decide +kernel
theorem d_putc_34 : decode jdk_52_method_4_code 34 = .ok (.iinc 1 1, 3) := by decide +kernel
theorem d_putc_37 : decode jdk_52_method_4_code 37 = .ok (.iload_n 2, 1) := by decide +kernel
theorem d_putc_38 : decode jdk_52_method_4_code 38 = .ok (.getstatic 59, 3) := by decide +kernel
theorem d_putc_41 : decode jdk_52_method_4_code 41 = .ok (.ishr, 1) := by decide +kernel
theorem d_putc_42 : decode jdk_52_method_4_code 42 = .ok (.i2b, 1) := by decide +kernel
theorem d_putc_43 : decode jdk_52_method_4_code 43 = .ok (.bastore, 1) := by decide +kernel
theorem d_putc_44 : decode jdk_52_method_4_code 44 = .ok (.aload_n 0, 1) := by decide +kernel
theorem d_putc_45 : decode jdk_52_method_4_code 45 = .ok (.iload_n 1, 1) := by decide +kernel
theorem d_putc_46 : decode jdk_52_method_4_code 46 = .ok (.iload_n 2, 1) := by decide +kernel
theorem d_putc_47 : decode jdk_52_method_4_code 47 = .ok (.getstatic 63, 3) := by decide +kernel
theorem d_putc_50 : decode jdk_52_method_4_code 50 = .ok (.ishr, 1) := by decide +kernel
theorem d_putc_51 : decode jdk_52_method_4_code 51 = .ok (.i2b, 1) := by decide +kernel
theorem d_putc_52 : decode jdk_52_method_4_code 52 = .ok (.bastore, 1) := by decide +kernel
theorem d_putc_53 : decode jdk_52_method_4_code 53 = .ok (.return_, 1) := by decide +kernel
abbrev rm_putc : Room := { frames := 0, cells := 0, slots := 0, locals := 0 }
abbrev M_putc : Mx := (jdk_52_method_4_code, y_putc.cls, none, y_putc.name, 3, rm_putc)
theorem ef_putc (m : MethodId) (x0 : Addr) (x1 : Int32) (x2 : Int32) : entryFrame m #[.ref x0, .int x1, .int x2] 3 = mkF m 0 #[.val (.ref x0), .val (.int x1), .val (.int x2)] [] := by first | (simp [entryFrame, mkF, argsToLocals, Value.category]; done) | rfl
set_option maxRecDepth 65536 in
set_option maxHeartbeats 4000000 in
theorem con_putc {G : Gx} (hG : OGood G) {h0 : Heap} {u : Addr} {i : Nat} {x : Int32} {vs : List Value} (hu : G.n0 ≤ u) (Y : Ary G.Z h0 u .byte vs) (hi : 2 * i + 1 < vs.length) (hi2 : i < 4000) : OCon G y_putc jdk_52_method_4_code 3 none [] rm_putc #[.ref u, .int (Int32.ofNat i), .int x] [u] h0 (fun v h' _ => v = none ∧ Keep h0 h' [u] ∧ Ary G.Z h' u .byte ((vs.set (2 * i) (.int (lo8 x))).set (2 * i + 1) (.int (lo8 (x >>> ((8 : Int32) &&& 31)))))) := by
  refine OCon.intro (plainFor_of_name pn_0) (own_ew hG) #[.val (.ref u), .val (.int (Int32.ofNat i)), .val (.int x)] (fun m => ef_putc m u (Int32.ofNat i) x) ?_
  intro K c
  replace c : OAt G K M_putc [u] 0 0 h0 0 #[.val (.ref u), .val (.int (Int32.ofNat i)), .val (.int x)] [] := c
  have hvl := Y.len
  replace c := c.getS 3 d_putc_0 (hG.1 _ (List.mem_of_getElem? (i := 209) rfl)) hG.2.2.2.1
  replace c := c.ifT 28 d_putc_3 (own_if_ne_t (by decide))
  replace c := c.iloadN 29 d_putc_28 rfl
  replace c := c.iconst 30 d_putc_29 1 (by decide)
  replace c := c.ishl 31 d_putc_30
  rw [own_shl1 i (by omega)] at c
  replace c := c.istoreN 32 d_putc_31 #[.val (.ref u), .val (.int (Int32.ofNat (2 * i))), .val (.int x)] rfl
  replace c := c.aloadN 33 d_putc_32 rfl rfl
  replace c := c.iloadN 34 d_putc_33 rfl
  replace c := c.iinc 37 d_putc_34 rfl (Int32.ofNat (2 * i + 1)) (own_succ _) #[.val (.ref u), .val (.int (Int32.ofNat (2 * i + 1))), .val (.int x)] rfl
  replace c := c.iloadN 38 d_putc_37 rfl
  replace c := c.getS 41 d_putc_38 (hG.1 _ (List.mem_of_getElem? (i := 210) rfl)) hG.2.2.2.2.1
  replace c := c.ishr 42 d_putc_41
  rw [own_shr0] at c
  replace c := c.i2b 43 d_putc_42
  obtain ⟨h1, W1, Y1, c⟩ := c.bastore 44 d_putc_43 Y (2 * i) rfl (by omega) hu (by simp) (lo8 x) (own_nar_b x)
  replace c := c.aloadN 45 d_putc_44 rfl rfl
  replace c := c.iloadN 46 d_putc_45 rfl
  replace c := c.iloadN 47 d_putc_46 rfl
  replace c := c.getS 50 d_putc_47 (hG.1 _ (List.mem_of_getElem? (i := 211) rfl)) hG.2.2.2.2.2.1
  replace c := c.ishr 51 d_putc_50
  replace c := c.i2b 52 d_putc_51
  obtain ⟨h2, W2, Y2, c⟩ := c.bastore 53 d_putc_52 Y1 (2 * i + 1) rfl (by simpa using hi) hu (by simp) (lo8 (x >>> ((8 : Int32) &&& 31))) (own_nar_b _)
  exact c.ret d_putc_53 rfl (fun sf hs => ⟨rfl, (Keep.of_wr W1).wr W2 (Or.inl (by simp)), Y2⟩) (by decide) (by decide)
abbrev y_getc : MethodName := ⟨"java/lang/StringUTF16", "getChar", "([BI)C"⟩
theorem d_getc_0 : decode jdk_52_method_5_code 0 = .ok (.getstatic 44, 3) := by decide +kernel
theorem d_getc_3 : decode jdk_52_method_5_code 3 = .ok (.ifCond .ne 25, 3) := by decide +kernel
theorem d_getc_28 : decode jdk_52_method_5_code 28 = .ok (.iload_n 1, 1) := by decide +kernel
theorem d_getc_29 : decode jdk_52_method_5_code 29 = .ok (.iconst 1, 1) := by decide +kernel
theorem d_getc_30 : decode jdk_52_method_5_code 30 = .ok (.ishl, 1) := by decide +kernel
theorem d_getc_31 : decode jdk_52_method_5_code 31 = .ok (.istore_n 1, 1) := by decide +kernel
theorem d_getc_32 : decode jdk_52_method_5_code 32 = .ok (.aload_n 0, 1) := by decide +kernel
theorem d_getc_33 : decode jdk_52_method_5_code 33 = .ok (.iload_n 1, 1) := by decide +kernel
theorem d_getc_34 : decode jdk_52_method_5_code 34 = .ok (.iinc 1 1, 3) := by decide +kernel
theorem d_getc_37 : decode jdk_52_method_5_code 37 = .ok (.baload, 1) := by decide +kernel
theorem d_getc_38 : decode jdk_52_method_5_code 38 = .ok (.sipush 255, 3) := by decide +kernel
theorem d_getc_41 : decode jdk_52_method_5_code 41 = .ok (.iand, 1) := by decide +kernel
theorem d_getc_42 : decode jdk_52_method_5_code 42 = .ok (.getstatic 59, 3) := by decide +kernel
theorem d_getc_45 : decode jdk_52_method_5_code 45 = .ok (.ishl, 1) := by decide +kernel
theorem d_getc_46 : decode jdk_52_method_5_code 46 = .ok (.aload_n 0, 1) := by decide +kernel
theorem d_getc_47 : decode jdk_52_method_5_code 47 = .ok (.iload_n 1, 1) := by decide +kernel
theorem d_getc_48 : decode jdk_52_method_5_code 48 = .ok (.baload, 1) := by decide +kernel
theorem d_getc_49 : decode jdk_52_method_5_code 49 = .ok (.sipush 255, 3) := by decide +kernel
theorem d_getc_52 : decode jdk_52_method_5_code 52 = .ok (.iand, 1) := by decide +kernel
theorem d_getc_53 : decode jdk_52_method_5_code 53 = .ok (.getstatic 63, 3) := by decide +kernel
theorem d_getc_56 : decode jdk_52_method_5_code 56 = .ok (.ishl, 1) := by decide +kernel
theorem d_getc_57 : decode jdk_52_method_5_code 57 = .ok (.ior, 1) := by decide +kernel
theorem d_getc_58 : decode jdk_52_method_5_code 58 = .ok (.i2c, 1) := by decide +kernel
theorem d_getc_59 : decode jdk_52_method_5_code 59 = .ok (.ireturn, 1) := by decide +kernel
abbrev rm_getc : Room := { frames := 0, cells := 0, slots := 0, locals := 0 }
abbrev M_getc : Mx := (jdk_52_method_5_code, y_getc.cls, (some .char), y_getc.name, 2, rm_getc)
theorem ef_getc (m : MethodId) (x0 : Addr) (x1 : Int32) : entryFrame m #[.ref x0, .int x1] 2 = mkF m 0 #[.val (.ref x0), .val (.int x1)] [] := by first | (simp [entryFrame, mkF, argsToLocals, Value.category]; done) | rfl
set_option maxRecDepth 65536 in
set_option maxHeartbeats 4000000 in
theorem con_getc {G : Gx} (hG : OGood G) {h0 : Heap} {u : Addr} {i : Nat} {x : Int32} {vs : List Value} (Y : Ary G.Z h0 u .byte vs) (h1 : vs[2 * i]? = some (.int (lo8 x))) (h2 : vs[2 * i + 1]? = some (.int (lo8 (x >>> ((8 : Int32) &&& 31))))) (hx : 0 ≤ x.toInt ∧ x.toInt < 65536) (hi2 : i < 4000) : OCon G y_getc jdk_52_method_5_code 2 (some .char) [] rm_getc #[.ref u, .int (Int32.ofNat i)] [] h0 (fun v h' _ => v = some (.int x) ∧ h' = h0) := by
  refine OCon.intro (plainFor_of_name pn_0) (own_ew hG) #[.val (.ref u), .val (.int (Int32.ofNat i))] (fun m => ef_getc m u (Int32.ofNat i)) ?_
  intro K c
  replace c : OAt G K M_getc [] 0 0 h0 0 #[.val (.ref u), .val (.int (Int32.ofNat i))] [] := c
  replace c := c.getS 3 d_getc_0 (hG.1 _ (List.mem_of_getElem? (i := 209) rfl)) hG.2.2.2.1
  replace c := c.ifT 28 d_getc_3 (own_if_ne_t (by decide))
  replace c := c.iloadN 29 d_getc_28 rfl
  replace c := c.iconst 30 d_getc_29 1 (by decide)
  replace c := c.ishl 31 d_getc_30
  rw [own_shl1 i (by omega)] at c
  replace c := c.istoreN 32 d_getc_31 #[.val (.ref u), .val (.int (Int32.ofNat (2 * i)))] rfl
  replace c := c.aloadN 33 d_getc_32 rfl rfl
  replace c := c.iloadN 34 d_getc_33 rfl
  replace c := c.iinc 37 d_getc_34 rfl (Int32.ofNat (2 * i + 1)) (own_succ _) #[.val (.ref u), .val (.int (Int32.ofNat (2 * i + 1)))] rfl
  replace c := c.baload 38 d_getc_37 Y (2 * i) rfl (.int (lo8 x)) h1
  replace c := c.sipush 41 d_getc_38 255 (by decide)
  replace c := c.iand 42 d_getc_41
  replace c := c.getS 45 d_getc_42 (hG.1 _ (List.mem_of_getElem? (i := 210) rfl)) hG.2.2.2.2.1
  replace c := c.ishl 46 d_getc_45
  replace c := c.aloadN 47 d_getc_46 rfl rfl
  replace c := c.iloadN 48 d_getc_47 rfl
  replace c := c.baload 49 d_getc_48 Y (2 * i + 1) rfl (.int (lo8 (x >>> ((8 : Int32) &&& 31)))) h2
  replace c := c.sipush 52 d_getc_49 255 (by decide)
  replace c := c.iand 53 d_getc_52
  replace c := c.getS 56 d_getc_53 (hG.1 _ (List.mem_of_getElem? (i := 211) rfl)) hG.2.2.2.2.2.1
  replace c := c.ishl 57 d_getc_56
  replace c := c.ior 58 d_getc_57
  replace c := c.i2c 59 d_getc_58
  rw [own_char2 hx] at c
  exact c.reti (t := .char) d_getc_59 rfl (by show Value.int _ = _; rw [own_i2c hx]) (by simp) (fun sf hs => ⟨rfl, rfl⟩) (by decide) (by decide)
abbrev y_tob : MethodName := ⟨"java/lang/StringUTF16", "toBytes", "([CII)[B"⟩
abbrev Q_tob (G : Gx) (h0 : Heap) (cs : List Int32) : Option Value → Heap → (Addr → Prop) → Prop := fun v h' sf => ∃ u : Addr, v = some (.ref u) ∧ h0.size ≤ u ∧ G.n0 ≤ u ∧ Keep h0 h' [] ∧ Ary G.Z h' u .byte (encU cs) ∧ sf u
theorem pd_1 : parseMethodDescriptor "(I)[B" = some ⟨[.int], some (.array .byte)⟩ := by decide +kernel
theorem pd_2 : parseMethodDescriptor "([BII)V" = some ⟨[(.array .byte), .int, .int], none⟩ := by decide +kernel
theorem d_tob_0 : decode jdk_52_method_14_code 0 = .ok (.iload_n 2, 1) := by decide +kernel
theorem d_tob_1 : decode jdk_52_method_14_code 1 = .ok (.invokestatic 107, 3) := by decide +kernel
theorem d_tob_4 : decode jdk_52_method_14_code 4 = .ok (.astore_n 3, 1) := by decide +kernel
theorem d_tob_5 : decode jdk_52_method_14_code 5 = .ok (.iconst 0, 1) := by decide +kernel
theorem d_tob_6 : decode jdk_52_method_14_code 6 = .ok (.istore 4, 2) := by decide +kernel
theorem d_tob_8 : decode jdk_52_method_14_code 8 = .ok (.iload 4, 2) := by decide +kernel
theorem d_tob_10 : decode jdk_52_method_14_code 10 = .ok (.iload_n 2, 1) := by decide +kernel
theorem d_tob_11 : decode jdk_52_method_14_code 11 = .ok (.if_icmp .ge 21, 3) := by decide +kernel
theorem d_tob_14 : decode jdk_52_method_14_code 14 = .ok (.aload_n 3, 1) := by decide +kernel
theorem d_tob_15 : decode jdk_52_method_14_code 15 = .ok (.iload 4, 2) := by decide +kernel
theorem d_tob_17 : decode jdk_52_method_14_code 17 = .ok (.aload_n 0, 1) := by decide +kernel
theorem d_tob_18 : decode jdk_52_method_14_code 18 = .ok (.iload_n 1, 1) := by decide +kernel
theorem d_tob_19 : decode jdk_52_method_14_code 19 = .ok (.caload, 1) := by decide +kernel
theorem d_tob_20 : decode jdk_52_method_14_code 20 = .ok (.invokestatic 111, 3) := by decide +kernel
theorem d_tob_23 : decode jdk_52_method_14_code 23 = .ok (.iinc 1 1, 3) := by decide +kernel
theorem d_tob_26 : decode jdk_52_method_14_code 26 = .ok (.iinc 4 1, 3) := by decide +kernel
theorem d_tob_29 : decode jdk_52_method_14_code 29 = .ok (.goto (-21), 3) := by decide +kernel
theorem d_tob_32 : decode jdk_52_method_14_code 32 = .ok (.aload_n 3, 1) := by decide +kernel
theorem d_tob_33 : decode jdk_52_method_14_code 33 = .ok (.areturn, 1) := by decide +kernel
abbrev rm_tob : Room := { frames := 2, cells := 1, slots := 32, locals := 24 }
abbrev M_tob : Mx := (jdk_52_method_14_code, y_tob.cls, (some (.array .byte)), y_tob.name, 5, rm_tob)
theorem ef_tob (m : MethodId) (x0 : Addr) (x1 : Int32) (x2 : Int32) : entryFrame m #[.ref x0, .int x1, .int x2] 5 = mkF m 0 #[.val (.ref x0), .val (.int x1), .val (.int x2), .unset, .unset] [] := by first | (simp [entryFrame, mkF, argsToLocals, Value.category]; done) | rfl
set_option maxRecDepth 65536 in
set_option maxHeartbeats 4000000 in
theorem con_tob {G : Gx} (hG : OGood G) {h0 : Heap} {ca : Addr} {cs : List Int32} (hN : cs.length ≤ 16) (Y : Ary G.Z h0 ca .char (cs.map Value.int)) : OCon G y_tob jdk_52_method_14_code 5 (some (.array .byte)) [] rm_tob #[.ref ca, .int 0, .int (Int32.ofNat cs.length)] [] h0 (Q_tob G h0 cs) := by
  refine OCon.intro (plainFor_of_name pn_0) (own_ew hG) #[.val (.ref ca), .val (.int 0), .val (.int (Int32.ofNat cs.length)), .unset, .unset] (fun m => ef_tob m ca 0 (Int32.ofNat cs.length)) ?_
  intro K c
  replace c : OAt G K M_tob [] 0 0 h0 0 #[.val (.ref ca), .val (.int 0), .val (.int (Int32.ofNat cs.length)), .unset, .unset] [] := c
  replace c := c.iloadN 1 d_tob_0 rfl
  obtain ⟨v, h_u, sf, ⟨u, rfl, s_u, g_u, x_u, Y_u, hsf⟩, c⟩ := c.callS (y := y_nbf) (argsL := [.int (Int32.ofNat cs.length)]) (rest := []) 4 d_tob_1 (con_nbf hG hN) rfl (hG.1 _ (List.mem_of_getElem? (i := 199) rfl)) (hG.1 _ (List.mem_of_getElem? (i := 200) rfl)) (hG.1 _ (List.mem_of_getElem? (i := 188) rfl)) (hG.1 _ (List.mem_of_getElem? (i := 201) rfl)) (lenOf pd_1 rfl) (by simp) (W := 0) rfl (by decide) (by decide) (by decide) (by decide)
  replace c := c [u] (by simpa using hsf)
  replace c : OAt G K M_tob [u] 1 32 h_u 4 #[.val (.ref ca), .val (.int 0), .val (.int (Int32.ofNat cs.length)), .unset, .unset] [.ref u] := c
  replace c := c.astoreN 5 d_tob_4 rfl #[.val (.ref ca), .val (.int 0), .val (.int (Int32.ofNat cs.length)), .val (.ref u), .unset] rfl
  replace c := c.iconst 6 d_tob_5 0 (by decide)
  replace c := c.istore 8 d_tob_6 #[.val (.ref ca), .val (.int 0), .val (.int (Int32.ofNat cs.length)), .val (.ref u), .val (.int 0)] rfl
  have K0 : Keep h0 h_u [] := (Keep.refl _ _).ext x_u
  have hne : ca < h0.size := Y.lt
  have hlen : cs.length < 2147483648 := by omega
  have loop : ∀ (r i : Nat), i + r = cs.length → ∀ (h1 : Heap), Keep h0 h1 [] → Ary G.Z h1 u .byte (encU (cs.take i) ++ List.replicate (2 * r) (.int 0)) → OAt G K M_tob [u] 1 32 h1 8 #[.val (.ref ca), .val (.int (Int32.ofNat i)), .val (.int (Int32.ofNat cs.length)), .val (.ref u), .val (.int (Int32.ofNat i))] [] → ODone G K rm_tob (Q_tob G h0 cs) := by
    intro r
    induction r with
    | zero =>
      intro i hi h1 K1 D1 c
      have hin : i = cs.length := by omega
      subst hin
      replace c := c.iload 10 d_tob_8 rfl
      replace c := c.iloadN 11 d_tob_10 rfl
      replace c := c.icT 32 d_tob_11 (own_ic_ge_t (own_nlt (by omega) hlen))
      replace c := c.aloadN 33 d_tob_32 rfl rfl
      exact c.reta (t := (.array .byte)) d_tob_33 rfl rfl rfl rfl (fun sf hs => ⟨u, rfl, Nat.le_of_eq s_u.symm, g_u, K1, by simpa using D1, hs u (by simp)⟩) (by decide) (by decide)
    | succ r ih =>
      intro i hi h1 K1 D1 c
      have hil : i < cs.length := by omega
      obtain ⟨ci, hci⟩ : ∃ ci, cs[i]? = some ci := ⟨cs[i], List.getElem?_eq_getElem hil⟩
      have Y1 : Ary G.Z h1 ca .char (cs.map Value.int) := Y.keep K1 nin0
      replace c := c.iload 10 d_tob_8 rfl
      replace c := c.iloadN 11 d_tob_10 rfl
      replace c := c.icF 14 d_tob_11 (own_ic_ge_f (own_lt hil hlen))
      replace c := c.aloadN 15 d_tob_14 rfl rfl
      replace c := c.iload 17 d_tob_15 rfl
      replace c := c.aloadN 18 d_tob_17 rfl rfl
      replace c := c.iloadN 19 d_tob_18 rfl
      replace c := c.caload 20 d_tob_19 Y1 (i) rfl (.int ci) (by simp [hci])
      have hel : (encU (cs.take i)).length = 2 * i := by rw [encU_len]; simp; omega
      obtain ⟨v, h2, sf, ⟨rfl, K2, D2⟩, c⟩ := c.callS (y := y_putc) (argsL := [.ref u, .int (Int32.ofNat i), .int ci]) (rest := []) 23 d_tob_20 (con_putc hG g_u D1 (by rw [List.length_append, hel, List.length_replicate]; omega) (by omega)) rfl (hG.1 _ (List.mem_of_getElem? (i := 206) rfl)) (hG.1 _ (List.mem_of_getElem? (i := 207) rfl)) (hG.1 _ (List.mem_of_getElem? (i := 188) rfl)) (hG.1 _ (List.mem_of_getElem? (i := 208) rfl)) (lenOf pd_2 rfl) (by simp) (W := 0) rfl (by decide) (by decide) (by decide) (by decide)
      replace c := c [] (by simp)
      replace c : OAt G K M_tob [u] 1 32 h2 23 #[.val (.ref ca), .val (.int (Int32.ofNat i)), .val (.int (Int32.ofNat cs.length)), .val (.ref u), .val (.int (Int32.ofNat i))] [] := c
      replace c := c.iinc 26 d_tob_23 rfl (Int32.ofNat (i + 1)) (own_succ i) #[.val (.ref ca), .val (.int (Int32.ofNat (i + 1))), .val (.int (Int32.ofNat cs.length)), .val (.ref u), .val (.int (Int32.ofNat i))] rfl
      replace c := c.iinc 29 d_tob_26 rfl (Int32.ofNat (i + 1)) (own_succ i) #[.val (.ref ca), .val (.int (Int32.ofNat (i + 1))), .val (.int (Int32.ofNat cs.length)), .val (.ref u), .val (.int (Int32.ofNat (i + 1)))] rfl
      replace c := c.goto 8 d_tob_29
      have hfill : ((encU (cs.take i) ++ List.replicate (2 * (r + 1)) (Value.int 0)).set (2 * i) (.int (lo8 ci))).set (2 * i + 1) (.int (lo8 (ci >>> ((8 : Int32) &&& 31)))) = encU (cs.take (i + 1)) ++ List.replicate (2 * r) (.int 0) := own_fillU hci hel
      rw [hfill] at D2
      exact ih (i + 1) (by omega) h2 (K1.trans K2 (fun x hx => by cases List.mem_singleton.mp hx; exact Or.inr (Nat.le_of_eq s_u.symm))) D2 c
  exact loop cs.length 0 (by omega) h_u K0 (by simpa [encU] using Y_u) c
abbrev y_cmp3 : MethodName := ⟨"java/lang/StringUTF16", "compress", "([CII)[B"⟩
abbrev Q_cmp3 (G : Gx) (h0 : Heap) (cs : List Int32) : Option Value → Heap → (Addr → Prop) → Prop := fun v h' _ => ∃ b : Addr, v = some (.ref b) ∧ h0.size ≤ b ∧ Keep h0 h' [] ∧ ((Lat cs ∧ Ary G.Z h' b .byte (encL cs)) ∨ (Chs cs ∧ (∃ c ∈ cs, 255 < c.toInt) ∧ Ary G.Z h' b .byte (encU cs)))
theorem pd_3 : parseMethodDescriptor "([CI[BII)I" = some ⟨[(.array .char), .int, (.array .byte), .int, .int], some .int⟩ := by decide +kernel
theorem pd_4 : parseMethodDescriptor "([CII)[B" = some ⟨[(.array .char), .int, .int], some (.array .byte)⟩ := by decide +kernel
theorem pd_5 : parseMethodDescriptor "([BI)C" = some ⟨[(.array .byte), .int], some .char⟩ := by decide +kernel
theorem d_cmp3_0 : decode jdk_52_method_16_code 0 = .ok (.iload_n 2, 1) := by decide +kernel
theorem d_cmp3_1 : decode jdk_52_method_16_code 1 = .ok (.newarray .byte, 2) := by decide +kernel
theorem d_cmp3_3 : decode jdk_52_method_16_code 3 = .ok (.astore_n 3, 1) := by decide +kernel
theorem d_cmp3_4 : decode jdk_52_method_16_code 4 = .ok (.aload_n 0, 1) := by decide +kernel
theorem d_cmp3_5 : decode jdk_52_method_16_code 5 = .ok (.iload_n 1, 1) := by decide +kernel
theorem d_cmp3_6 : decode jdk_52_method_16_code 6 = .ok (.aload_n 3, 1) := by decide +kernel
theorem d_cmp3_7 : decode jdk_52_method_16_code 7 = .ok (.iconst 0, 1) := by decide +kernel
theorem d_cmp3_8 : decode jdk_52_method_16_code 8 = .ok (.iload_n 2, 1) := by decide +kernel
theorem d_cmp3_9 : decode jdk_52_method_16_code 9 = .ok (.invokestatic 115, 3) := by decide +kernel
theorem d_cmp3_12 : decode jdk_52_method_16_code 12 = .ok (.istore 4, 2) := by decide +kernel
theorem d_cmp3_14 : decode jdk_52_method_16_code 14 = .ok (.iload 4, 2) := by decide +kernel
theorem d_cmp3_16 : decode jdk_52_method_16_code 16 = .ok (.iload_n 2, 1) := by decide +kernel
theorem d_cmp3_17 : decode jdk_52_method_16_code 17 = .ok (.if_icmp .eq 40, 3) := by decide +kernel
theorem d_cmp3_20 : decode jdk_52_method_16_code 20 = .ok (.aload_n 0, 1) := by decide +kernel
theorem d_cmp3_21 : decode jdk_52_method_16_code 21 = .ok (.iload_n 1, 1) := by decide +kernel
theorem d_cmp3_22 : decode jdk_52_method_16_code 22 = .ok (.iload_n 2, 1) := by decide +kernel
theorem d_cmp3_23 : decode jdk_52_method_16_code 23 = .ok (.invokestatic 119, 3) := by decide +kernel
theorem d_cmp3_26 : decode jdk_52_method_16_code 26 = .ok (.astore 5, 2) := by decide +kernel
theorem d_cmp3_28 : decode jdk_52_method_16_code 28 = .ok (.aload 5, 2) := by decide +kernel
theorem d_cmp3_30 : decode jdk_52_method_16_code 30 = .ok (.iload 4, 2) := by decide +kernel
theorem d_cmp3_32 : decode jdk_52_method_16_code 32 = .ok (.invokestatic 71, 3) := by decide +kernel
theorem d_cmp3_35 : decode jdk_52_method_16_code 35 = .ok (.sipush 255, 3) := by decide +kernel
theorem d_cmp3_38 : decode jdk_52_method_16_code 38 = .ok (.if_icmp .gt 16, 3) := by decide +kernel
theorem d_cmp3_54 : decode jdk_52_method_16_code 54 = .ok (.aload 5, 2) := by decide +kernel
theorem d_cmp3_56 : decode jdk_52_method_16_code 56 = .ok (.areturn, 1) := by decide +kernel
theorem d_cmp3_57 : decode jdk_52_method_16_code 57 = .ok (.aload_n 3, 1) := by decide +kernel
theorem d_cmp3_58 : decode jdk_52_method_16_code 58 = .ok (.areturn, 1) := by decide +kernel
abbrev rm_cmp3 : Room := { frames := 3, cells := 2, slots := 48, locals := 40 }
abbrev M_cmp3 : Mx := (jdk_52_method_16_code, y_cmp3.cls, (some (.array .byte)), y_cmp3.name, 6, rm_cmp3)
theorem ef_cmp3 (m : MethodId) (x0 : Addr) (x1 : Int32) (x2 : Int32) : entryFrame m #[.ref x0, .int x1, .int x2] 6 = mkF m 0 #[.val (.ref x0), .val (.int x1), .val (.int x2), .unset, .unset, .unset] [] := by first | (simp [entryFrame, mkF, argsToLocals, Value.category]; done) | rfl
set_option maxRecDepth 65536 in
set_option maxHeartbeats 4000000 in
theorem con_cmp3 {G : Gx} (hG : OGood G) {h0 : Heap} {ca : Addr} {cs : List Int32} (hN : cs.length ≤ 16) (Y : Ary G.Z h0 ca .char (cs.map Value.int)) : OCon G y_cmp3 jdk_52_method_16_code 6 (some (.array .byte)) [] rm_cmp3 #[.ref ca, .int 0, .int (Int32.ofNat cs.length)] [] h0 (Q_cmp3 G h0 cs) := by
  refine OCon.intro (plainFor_of_name pn_0) (own_ew hG) #[.val (.ref ca), .val (.int 0), .val (.int (Int32.ofNat cs.length)), .unset, .unset, .unset] (fun m => ef_cmp3 m ca 0 (Int32.ofNat cs.length)) ?_
  intro K c
  replace c : OAt G K M_cmp3 [] 0 0 h0 0 #[.val (.ref ca), .val (.int 0), .val (.int (Int32.ofNat cs.length)), .unset, .unset, .unset] [] := c
  have hlen : cs.length < 2147483648 := by omega
  replace c := c.iloadN 1 d_cmp3_0 rfl
  obtain ⟨d, h_d, s_d, x_d, g_d, Y_d, c⟩ := c.newarr 3 d_cmp3_1 .byte rfl (hG.1 _ (List.mem_of_getElem? (i := 15) rfl)) (cs.length) rfl 16 hN (by decide) (by decide) (by decide)
  replace c := c.astoreN 4 d_cmp3_3 rfl #[.val (.ref ca), .val (.int 0), .val (.int (Int32.ofNat cs.length)), .val (.ref d), .unset, .unset] rfl
  replace c := c.aloadN 5 d_cmp3_4 rfl rfl
  replace c := c.iloadN 6 d_cmp3_5 rfl
  replace c := c.aloadN 7 d_cmp3_6 rfl rfl
  replace c := c.iconst 8 d_cmp3_7 0 (by decide)
  replace c := c.iloadN 9 d_cmp3_8 rfl
  obtain ⟨v, h1, sf, ⟨k, hk, rfl, K1, D1, la, hk2⟩, c⟩ := c.callS (y := y_cmp5) (argsL := [.ref ca, .int 0, .ref d, .int 0, .int (Int32.ofNat cs.length)]) (rest := []) 12 d_cmp3_9 (con_cmp5 hG g_d (Y.ext x_d) Y_d (by simp)) rfl (hG.1 _ (List.mem_of_getElem? (i := 190) rfl)) (hG.1 _ (List.mem_of_getElem? (i := 191) rfl)) (hG.1 _ (List.mem_of_getElem? (i := 188) rfl)) (hG.1 _ (List.mem_of_getElem? (i := 192) rfl)) (lenOf pd_3 rfl) (by simp) (W := 0) rfl (by decide) (by decide) (by decide) (by decide)
  replace c := c [] (by simp)
  replace c : OAt G K M_cmp3 [d] 1 16 h1 12 #[.val (.ref ca), .val (.int 0), .val (.int (Int32.ofNat cs.length)), .val (.ref d), .unset, .unset] [.int (Int32.ofNat k)] := c
  replace c := c.istore 14 d_cmp3_12 #[.val (.ref ca), .val (.int 0), .val (.int (Int32.ofNat cs.length)), .val (.ref d), .val (.int (Int32.ofNat k)), .unset] rfl
  replace c := c.iload 16 d_cmp3_14 rfl
  replace c := c.iloadN 17 d_cmp3_16 rfl
  have K01 : Keep h0 h1 [] := ((Keep.refl h0 []).ext x_d).trans K1 (fun x hx => by cases List.mem_singleton.mp hx; exact Or.inr (Nat.le_of_eq s_d.symm))
  by_cases q : k = cs.length
  · subst q
    replace c := c.icT 57 d_cmp3_17 (own_ic_eq_t rfl)
    replace c := c.aloadN 58 d_cmp3_57 rfl rfl
    exact c.reta (t := (.array .byte)) d_cmp3_58 rfl rfl rfl rfl (fun sf hs => ⟨d, rfl, Nat.le_of_eq s_d.symm, K01, Or.inl ⟨by simpa using la, by rw [List.take_of_length_le (by rw [encL_len]; exact Nat.le_refl _), List.drop_of_length_le (by simp)] at D1; simpa using D1⟩⟩) (by decide) (by decide)
  · skip
    have hkl : k < cs.length := by omega
    obtain ⟨ck, hck⟩ : ∃ ck, cs[k]? = some ck := ⟨cs[k], List.getElem?_eq_getElem hkl⟩
    have big := hk2 ck hck
    have chs := own_chs Y
    replace c := c.icF 20 d_cmp3_17 (own_ic_eq_f (fun e => q (own_inj e (by omega) hlen)))
    replace c := c.aloadN 21 d_cmp3_20 rfl rfl
    replace c := c.iloadN 22 d_cmp3_21 rfl
    replace c := c.iloadN 23 d_cmp3_22 rfl
    obtain ⟨v, h2, sf, ⟨u, rfl, s_u, g_u, K2, D2, -⟩, c⟩ := c.callS (y := y_tob) (argsL := [.ref ca, .int 0, .int (Int32.ofNat cs.length)]) (rest := []) 26 d_cmp3_23 (con_tob hG hN (Y.keep K01 nin0)) rfl (hG.1 _ (List.mem_of_getElem? (i := 196) rfl)) (hG.1 _ (List.mem_of_getElem? (i := 197) rfl)) (hG.1 _ (List.mem_of_getElem? (i := 188) rfl)) (hG.1 _ (List.mem_of_getElem? (i := 198) rfl)) (lenOf pd_4 rfl) (by simp) (W := 0) rfl (by decide) (by decide) (by decide) (by decide)
    replace c := c [] (by simp)
    replace c : OAt G K M_cmp3 [d] 2 48 h2 26 #[.val (.ref ca), .val (.int 0), .val (.int (Int32.ofNat cs.length)), .val (.ref d), .val (.int (Int32.ofNat k)), .unset] [.ref u] := c
    replace c := c.astore 28 d_cmp3_26 rfl #[.val (.ref ca), .val (.int 0), .val (.int (Int32.ofNat cs.length)), .val (.ref d), .val (.int (Int32.ofNat k)), .val (.ref u)] rfl
    replace c := c.aload 30 d_cmp3_28 rfl rfl
    replace c := c.iload 32 d_cmp3_30 rfl
    obtain ⟨v, h3, sf, ⟨rfl, hh⟩, c⟩ := c.callS (y := y_getc) (argsL := [.ref u, .int (Int32.ofNat k)]) (rest := []) 35 d_cmp3_32 (con_getc hG (x := ck) D2 (own_encU hck).1 (own_encU hck).2 (chs ck (List.mem_of_getElem? hck)) (by omega)) rfl (hG.1 _ (List.mem_of_getElem? (i := 212) rfl)) (hG.1 _ (List.mem_of_getElem? (i := 213) rfl)) (hG.1 _ (List.mem_of_getElem? (i := 188) rfl)) (hG.1 _ (List.mem_of_getElem? (i := 214) rfl)) (lenOf pd_5 rfl) (by simp) (W := 0) rfl (by decide) (by decide) (by decide) (by decide)
    rw [hh] at c
    replace c := c [] (by simp)
    replace c : OAt G K M_cmp3 [d] 2 48 h2 35 #[.val (.ref ca), .val (.int 0), .val (.int (Int32.ofNat cs.length)), .val (.ref d), .val (.int (Int32.ofNat k)), .val (.ref u)] [.int ck] := c
    replace c := c.sipush 38 d_cmp3_35 255 (by decide)
    replace c := c.icT 54 d_cmp3_38 (own_ic_gt_t (by rw [Int32.lt_iff_toInt_lt]; exact big))
    replace c := c.aload 56 d_cmp3_54 rfl rfl
    exact c.reta (t := (.array .byte)) d_cmp3_56 rfl rfl rfl rfl (fun sf hs => ⟨u, rfl, Nat.le_trans K01.1 s_u, K01.trans K2 (fun x hx => by cases hx), Or.inr ⟨chs, ⟨ck, List.mem_of_getElem? hck, big⟩, D2⟩⟩) (by decide) (by decide)
abbrev y_si4 : MethodName := ⟨"java/lang/String", "<init>", "([CIILjava/lang/Void;)V"⟩
theorem pd_6 : parseMethodDescriptor "([BI)B" = some ⟨[(.array .byte), .int], some .byte⟩ := by decide +kernel
theorem pn_1 : plainName "java/lang/String" = true := by first | (simp [plainName, overriddenIn]; done) | decide +kernel
theorem d_si4_0 : decode jdk_42_method_149_code 0 = .ok (.aload_n 0, 1) := by decide +kernel
theorem d_si4_1 : decode jdk_42_method_149_code 1 = .ok (.invokespecial 1, 3) := by decide +kernel
theorem d_si4_4 : decode jdk_42_method_149_code 4 = .ok (.iload_n 3, 1) := by decide +kernel
theorem d_si4_5 : decode jdk_42_method_149_code 5 = .ok (.ifCond .ne 22, 3) := by decide +kernel
theorem d_si4_8 : decode jdk_42_method_149_code 8 = .ok (.aload_n 0, 1) := by decide +kernel
theorem d_si4_9 : decode jdk_42_method_149_code 9 = .ok (.ldc 7, 2) := by decide +kernel
theorem d_si4_11 : decode jdk_42_method_149_code 11 = .ok (.getfield 9, 3) := by decide +kernel
theorem d_si4_14 : decode jdk_42_method_149_code 14 = .ok (.putfield 9, 3) := by decide +kernel
theorem d_si4_17 : decode jdk_42_method_149_code 17 = .ok (.aload_n 0, 1) := by decide +kernel
theorem d_si4_18 : decode jdk_42_method_149_code 18 = .ok (.ldc 7, 2) := by decide +kernel
theorem d_si4_20 : decode jdk_42_method_149_code 20 = .ok (.getfield 15, 3) := by decide +kernel
theorem d_si4_23 : decode jdk_42_method_149_code 23 = .ok (.putfield 15, 3) := by decide +kernel
theorem d_si4_26 : decode jdk_42_method_149_code 26 = .ok (.return_, 1) := by decide +kernel
theorem d_si4_27 : decode jdk_42_method_149_code 27 = .ok (.getstatic 38, 3) := by decide +kernel
theorem d_si4_30 : decode jdk_42_method_149_code 30 = .ok (.ifCond .eq 28, 3) := by decide +kernel
theorem d_si4_33 : decode jdk_42_method_149_code 33 = .ok (.aload_n 1, 1) := by decide +kernel
theorem d_si4_34 : decode jdk_42_method_149_code 34 = .ok (.iload_n 2, 1) := by decide +kernel
theorem d_si4_35 : decode jdk_42_method_149_code 35 = .ok (.iload_n 3, 1) := by decide +kernel
theorem d_si4_36 : decode jdk_42_method_149_code 36 = .ok (.invokestatic 177, 3) := by decide +kernel
theorem d_si4_39 : decode jdk_42_method_149_code 39 = .ok (.astore 5, 2) := by decide +kernel
theorem d_si4_41 : decode jdk_42_method_149_code 41 = .ok (.aload_n 0, 1) := by decide +kernel
theorem d_si4_42 : decode jdk_42_method_149_code 42 = .ok (.aload 5, 2) := by decide +kernel
theorem d_si4_44 : decode jdk_42_method_149_code 44 = .ok (.iload_n 3, 1) := by decide +kernel
theorem d_si4_45 : decode jdk_42_method_149_code 45 = .ok (.invokestatic 47, 3) := by decide +kernel
theorem d_si4_48 : decode jdk_42_method_149_code 48 = .ok (.putfield 15, 3) := by decide +kernel
theorem d_si4_51 : decode jdk_42_method_149_code 51 = .ok (.aload_n 0, 1) := by decide +kernel
theorem d_si4_52 : decode jdk_42_method_149_code 52 = .ok (.aload 5, 2) := by decide +kernel
theorem d_si4_54 : decode jdk_42_method_149_code 54 = .ok (.putfield 9, 3) := by decide +kernel
theorem d_si4_57 : decode jdk_42_method_149_code 57 = .ok (.return_, 1) := by decide +kernel
abbrev rm_si4 : Room := { frames := 4, cells := 4, slots := 48, locals := 57 }
abbrev M_si4 : Mx := (jdk_42_method_149_code, y_si4.cls, none, y_si4.name, 6, rm_si4)
theorem ef_si4 (m : MethodId) (x0 : Addr) (x1 : Addr) (x2 : Int32) (x3 : Int32) : entryFrame m #[.ref x0, .ref x1, .int x2, .int x3, .null] 6 = mkF m 0 #[.val (.ref x0), .val (.ref x1), .val (.int x2), .val (.int x3), .val .null, .unset] [] := by first | (simp [entryFrame, mkF, argsToLocals, Value.category]; done) | rfl
set_option maxRecDepth 65536 in
set_option maxHeartbeats 4000000 in
theorem con_si4 {G : Gx} (hG : OGood G) {h0 : Heap} {a ca : Addr} {cs : List Int32} (hN : cs.length ≤ 16) (ha : G.n0 ≤ a) (E : Exa G.Z h0 a "java/lang/String") (V : Fld G.Z h0 a "java/lang/String" "value" "[B" .null) (C0 : Fld G.Z h0 a "java/lang/String" "coder" "B" (.int 0)) (Y : Ary G.Z h0 ca .char (cs.map Value.int)) : OCon G y_si4 jdk_42_method_149_code 6 none [] rm_si4 #[.ref a, .ref ca, .int 0, .int (Int32.ofNat cs.length), .null] [a] h0 (fun v h' _ => v = none ∧ Keep h0 h' [a] ∧ Str G.Z h' a cs) := by
  refine OCon.intro (plainFor_of_name pn_1) (own_ew hG) #[.val (.ref a), .val (.ref ca), .val (.int 0), .val (.int (Int32.ofNat cs.length)), .val (.null), .unset] (fun m => ef_si4 m a ca 0 (Int32.ofNat cs.length)) ?_
  intro K c
  replace c : OAt G K M_si4 [a] 0 0 h0 0 #[.val (.ref a), .val (.ref ca), .val (.int 0), .val (.int (Int32.ofNat cs.length)), .val (.null), .unset] [] := c
  have hlen : cs.length < 2147483648 := by omega
  have wi := (hG.1 _ (List.mem_of_getElem? (i := 2) rfl))
  have LV : Laid G.Z G.a0 "java/lang/String" "java/lang/String" "value" "[B" := Or.inr (hG.1 _ (List.mem_of_getElem? (i := 16) rfl))
  have LC : Laid G.Z G.a0 "java/lang/String" "java/lang/String" "coder" "B" := Or.inr (hG.1 _ (List.mem_of_getElem? (i := 17) rfl))
  have sne : Jvm.RoadKit.slotOf G.Z "java/lang/String" "value" "[B" ≠ Jvm.RoadKit.slotOf G.Z "java/lang/String" "coder" "B" := slot_ne LV LC (by decide) (t := .array .byte) (t' := .byte) (by decide) (by decide)
  replace c := c.aloadN 1 d_si4_0 rfl rfl
  replace c := c.initO 4 d_si4_1 (hG.1 _ (List.mem_of_getElem? (i := 11) rfl)) (hG.1 _ (List.mem_of_getElem? (i := 12) rfl)) (hG.1 _ (List.mem_of_getElem? (i := 13) rfl)) (W := 0) rfl (by decide) (by decide)
  replace c := c.iloadN 5 d_si4_4 rfl
  by_cases q : cs = []
  · subst q
    replace c := c.ifF 8 d_si4_5 (own_if_ne_f rfl)
    replace c := c.aloadN 9 d_si4_8 rfl rfl
    obtain ⟨e, b_e, h_e, x_e, E_e, C_e, V_e, Y_e, N_e, c⟩ := c.ldcS 11 d_si4_9 (hG.1 _ (List.mem_of_getElem? (i := 14) rfl)) (own_sa hG) (own_el_2 hG) [] (by decide) (by decide) 0 (by decide) (by decide) (by decide) (by decide)
    replace c := c.getF 14 d_si4_11 (hG.1 _ (List.mem_of_getElem? (i := 20) rfl)) V_e
    have na : a ≠ e := (N_e a (by simp)).1
    have V1 := V.ext x_e
    have C1 := C0.ext x_e
    have E1 := E.ext x_e
    obtain ⟨hp1, Wp1, c⟩ := c.putF (C := "java/lang/String") (O := "java/lang/String") (n := "value") (d := "[B") (ty := (.array .byte)) 17 d_si4_14 (hG.1 _ (List.mem_of_getElem? (i := 20) rfl)) V1 E1 (Or.inr ⟨(hG.1 _ (List.mem_of_getElem? (i := 16) rfl)), rfl, rfl⟩) (hG.1 _ (List.mem_of_getElem? (i := 2) rfl)) (by decide) rfl (by first | rfl | decide) ha (Or.inl (by simp))
    have E2 := E1.wr Wp1
    have C2 := C1.other Wp1 (Or.inr sne.symm)
    have V2 := V1.same Wp1
    have Y2 := Y_e.other Wp1 (N_e a (by simp)).2.symm
    replace c := c.aloadN 18 d_si4_17 rfl rfl
    obtain ⟨f, b_f, h_f, x_f, E_f, C_f, V_f, Y_f, N_f, c⟩ := c.ldcS 20 d_si4_18 (hG.1 _ (List.mem_of_getElem? (i := 14) rfl)) (own_sa hG) (own_el_2 hG) [] (by decide) (by decide) 0 (by decide) (by decide) (by decide) (by decide)
    replace c := c.getF 23 d_si4_20 (hG.1 _ (List.mem_of_getElem? (i := 21) rfl)) C_f
    obtain ⟨hp2, Wp2, c⟩ := c.putF (C := "java/lang/String") (O := "java/lang/String") (n := "coder") (d := "B") (ty := .byte) 26 d_si4_23 (hG.1 _ (List.mem_of_getElem? (i := 21) rfl)) (C2.ext x_f) (E2.ext x_f) (Or.inr ⟨(hG.1 _ (List.mem_of_getElem? (i := 17) rfl)), rfl, rfl⟩) (hG.1 _ (List.mem_of_getElem? (i := 2) rfl)) (by decide) rfl (by first | rfl | decide) ha (Or.inl (by simp))
    have nb : b_e ≠ a := (N_e a (by simp)).2.symm
    have E3 := (E2.ext x_f).wr Wp2
    have C3 := (C2.ext x_f).same Wp2
    have V3 := (V2.ext x_f).other Wp2 (Or.inr sne)
    have Y3 := (Y2.ext x_f).other Wp2 nb
    exact c.ret d_si4_26 rfl (fun sf hs => ⟨rfl, ((((Keep.refl h0 [a]).ext x_e).wr Wp1 (Or.inl (by simp))).ext x_f).wr Wp2 (Or.inl (by simp)), Or.inl ⟨fun c hc => by simp at hc, E3, C3, b_e, V3, Y3⟩⟩) (by decide) (by decide)
  · skip
    have hpos : 0 < cs.length := List.length_pos_iff.mpr q
    replace c := c.ifT 27 d_si4_5 (own_if_ne_t (fun e => by have := own_inj (n := 0) e hlen (by decide); omega))
    obtain ⟨z, hz, hz0⟩ := hG.2.2.1
    replace c := c.getS 30 d_si4_27 (hG.1 _ (List.mem_of_getElem? (i := 85) rfl)) hz
    replace c := c.ifF 33 d_si4_30 (own_if_eq_f hz0)
    replace c := c.aloadN 34 d_si4_33 rfl rfl
    replace c := c.iloadN 35 d_si4_34 rfl
    replace c := c.iloadN 36 d_si4_35 rfl
    obtain ⟨v, h1, sf, ⟨b, rfl, s_b, K1, hb⟩, c⟩ := c.callS (y := y_cmp3) (argsL := [.ref ca, .int 0, .int (Int32.ofNat cs.length)]) (rest := []) 39 d_si4_36 (con_cmp3 hG hN Y) rfl (hG.1 _ (List.mem_of_getElem? (i := 186) rfl)) (hG.1 _ (List.mem_of_getElem? (i := 187) rfl)) (hG.1 _ (List.mem_of_getElem? (i := 188) rfl)) (hG.1 _ (List.mem_of_getElem? (i := 189) rfl)) (lenOf pd_4 rfl) (by simp) (W := 0) rfl (by decide) (by decide) (by decide) (by decide)
    replace c := c [] (by simp)
    replace c : OAt G K M_si4 [a] 2 48 h1 39 #[.val (.ref a), .val (.ref ca), .val (.int 0), .val (.int (Int32.ofNat cs.length)), .val (.null), .unset] [.ref b] := c
    replace c := c.astore 41 d_si4_39 rfl #[.val (.ref a), .val (.ref ca), .val (.int 0), .val (.int (Int32.ofNat cs.length)), .val (.null), .val (.ref b)] rfl
    replace c := c.aloadN 42 d_si4_41 rfl rfl
    replace c := c.aload 44 d_si4_42 rfl rfl
    replace c := c.iloadN 45 d_si4_44 rfl
    have ca1 : a < h0.size := E.lt
    obtain ⟨co, vs, hco, Y1, hn, hst⟩ : ∃ (co : Int32) (vs : List Value), (Jvm.Free.XT.ushr (Int32.ofNat cs.length - Int32.ofNat vs.length) 31).toInt8.toInt32 = co ∧ Ary G.Z h1 b .byte vs ∧ (co = 0 ∨ co = 1) ∧ ∀ h2 : Heap, StrB G.Z h2 a co vs → Str G.Z h2 a cs := by
      rcases hb with ⟨la, D⟩ | ⟨chs, big, D⟩
      · exact ⟨0, _, by rw [encL_len, Int32.sub_self]; decide, D, Or.inl rfl, fun h2 q => Or.inl ⟨la, q⟩⟩
      · exact ⟨1, _, by rw [encU_len]; exact own_cod1 hpos (by omega), D, Or.inr rfl, fun h2 q => Or.inr ⟨chs, big, q⟩⟩
    obtain ⟨v, h2, sf, ⟨rfl, hh⟩, c⟩ := c.callS (y := y_cod) (argsL := [.ref b, .int (Int32.ofNat cs.length)]) (rest := [.ref a]) 48 d_si4_45 (con_cod hG Y1 hco (by rcases hn with rfl | rfl <;> rfl)) rfl (hG.1 _ (List.mem_of_getElem? (i := 193) rfl)) (hG.1 _ (List.mem_of_getElem? (i := 194) rfl)) (hG.1 _ (List.mem_of_getElem? (i := 188) rfl)) (hG.1 _ (List.mem_of_getElem? (i := 195) rfl)) (lenOf pd_6 rfl) (by simp) (W := 1) rfl (by decide) (by decide) (by decide) (by decide)
    rw [hh] at c
    replace c := c [] (by simp)
    replace c : OAt G K M_si4 [a] 2 48 h1 48 #[.val (.ref a), .val (.ref ca), .val (.int 0), .val (.int (Int32.ofNat cs.length)), .val (.null), .val (.ref b)] [.int co, .ref a] := c
    have nb : b ≠ a := Nat.ne_of_gt (Nat.lt_of_lt_of_le ca1 s_b)
    have E1 := E.keep K1
    have C1 := C0.keep K1 nin0
    have V1 := V.keep K1 nin0
    have fco : fits .byte (.int co) = true ∧ narrow .byte (.int co) = .int co := by rcases hn with rfl | rfl <;> exact ⟨rfl, rfl⟩
    obtain ⟨hp3, Wp3, c⟩ := c.putF (C := "java/lang/String") (O := "java/lang/String") (n := "coder") (d := "B") (ty := .byte) 51 d_si4_48 (hG.1 _ (List.mem_of_getElem? (i := 21) rfl)) C1 E1 (Or.inr ⟨(hG.1 _ (List.mem_of_getElem? (i := 17) rfl)), rfl, rfl⟩) (hG.1 _ (List.mem_of_getElem? (i := 2) rfl)) (by decide) fco.2 fco.1 ha (Or.inl (by simp))
    have E2 := E1.wr Wp3
    have C2 := C1.same Wp3
    have V2 := V1.other Wp3 (Or.inr sne)
    have Y2 := Y1.other Wp3 nb
    replace c := c.aloadN 52 d_si4_51 rfl rfl
    replace c := c.aload 54 d_si4_52 rfl rfl
    obtain ⟨hp4, Wp4, c⟩ := c.putF (C := "java/lang/String") (O := "java/lang/String") (n := "value") (d := "[B") (ty := (.array .byte)) 57 d_si4_54 (hG.1 _ (List.mem_of_getElem? (i := 20) rfl)) V2 E2 (Or.inr ⟨(hG.1 _ (List.mem_of_getElem? (i := 16) rfl)), rfl, rfl⟩) (hG.1 _ (List.mem_of_getElem? (i := 2) rfl)) (by decide) rfl (by first | rfl | decide) ha (Or.inl (by simp))
    have E3 := E2.wr Wp4
    have C3 := C2.other Wp4 (Or.inr sne.symm)
    have V3 := V2.same Wp4
    have Y3 := Y2.other Wp4 nb
    exact c.ret d_si4_57 rfl (fun sf hs => ⟨rfl, (((Keep.refl h0 [a]).trans K1 (fun x hx => by cases hx)).wr Wp3 (Or.inl (by simp))).wr Wp4 (Or.inl (by simp)), hst _ ⟨E3, C3, b, V3, Y3⟩⟩) (by decide) (by decide)
abbrev y_si1 : MethodName := ⟨"java/lang/String", "<init>", "([C)V"⟩
theorem pd_7 : parseMethodDescriptor "([CIILjava/lang/Void;)V" = some ⟨[(.array .char), .int, .int, (.object "java/lang/Void")], none⟩ := by decide +kernel
theorem d_si1_0 : decode jdk_42_method_3_code 0 = .ok (.aload_n 0, 1) := by decide +kernel
theorem d_si1_1 : decode jdk_42_method_3_code 1 = .ok (.aload_n 1, 1) := by decide +kernel
theorem d_si1_2 : decode jdk_42_method_3_code 2 = .ok (.iconst 0, 1) := by decide +kernel
theorem d_si1_3 : decode jdk_42_method_3_code 3 = .ok (.aload_n 1, 1) := by decide +kernel
theorem d_si1_4 : decode jdk_42_method_3_code 4 = .ok (.arraylength, 1) := by decide +kernel
theorem d_si1_5 : decode jdk_42_method_3_code 5 = .ok (.aconst_null, 1) := by decide +kernel
theorem d_si1_6 : decode jdk_42_method_3_code 6 = .ok (.invokespecial 27, 3) := by decide +kernel
theorem d_si1_9 : decode jdk_42_method_3_code 9 = .ok (.return_, 1) := by decide +kernel
abbrev rm_si1 : Room := { frames := 5, cells := 4, slots := 48, locals := 74 }
abbrev M_si1 : Mx := (jdk_42_method_3_code, y_si1.cls, none, y_si1.name, 2, rm_si1)
theorem ef_si1 (m : MethodId) (x0 : Addr) (x1 : Addr) : entryFrame m #[.ref x0, .ref x1] 2 = mkF m 0 #[.val (.ref x0), .val (.ref x1)] [] := by first | (simp [entryFrame, mkF, argsToLocals, Value.category]; done) | rfl
set_option maxRecDepth 65536 in
set_option maxHeartbeats 4000000 in
theorem con_si1 {G : Gx} (hG : OGood G) {h0 : Heap} {a ca : Addr} {cs : List Int32} (hN : cs.length ≤ 16) (ha : G.n0 ≤ a) (E : Exa G.Z h0 a "java/lang/String") (V : Fld G.Z h0 a "java/lang/String" "value" "[B" .null) (C0 : Fld G.Z h0 a "java/lang/String" "coder" "B" (.int 0)) (Y : Ary G.Z h0 ca .char (cs.map Value.int)) : OCon G y_si1 jdk_42_method_3_code 2 none [] rm_si1 #[.ref a, .ref ca] [a] h0 (fun v h' _ => v = none ∧ Keep h0 h' [a] ∧ Str G.Z h' a cs) := by
  refine OCon.intro (plainFor_of_name pn_1) (own_ew hG) #[.val (.ref a), .val (.ref ca)] (fun m => ef_si1 m a ca) ?_
  intro K c
  replace c : OAt G K M_si1 [a] 0 0 h0 0 #[.val (.ref a), .val (.ref ca)] [] := c
  replace c := c.aloadN 1 d_si1_0 rfl rfl
  replace c := c.aloadN 2 d_si1_1 rfl rfl
  replace c := c.iconst 3 d_si1_2 0 (by decide)
  replace c := c.aloadN 4 d_si1_3 rfl rfl
  replace c := c.arrlen 5 d_si1_4 Y (Int32.ofNat cs.length) (by simp)
  replace c := c.aconstNull 6 d_si1_5
  obtain ⟨v, h1, sf, ⟨rfl, K1, S1⟩, c⟩ := c.callI (y := y_si4) (a := a) (argsL := [.ref ca, .int 0, .int (Int32.ofNat cs.length), .null]) (rest := []) 9 d_si1_6 (con_si4 hG hN ha E V C0 Y) rfl (hG.1 _ (List.mem_of_getElem? (i := 7) rfl)) (hG.1 _ (List.mem_of_getElem? (i := 8) rfl)) (hG.1 _ (List.mem_of_getElem? (i := 3) rfl)) (hG.1 _ (List.mem_of_getElem? (i := 10) rfl)) (lenOf pd_7 rfl) (by simp) (W := 0) rfl (by decide) (by decide) (by decide) (by decide)
  replace c := c [] (by simp)
  replace c : OAt G K M_si1 [a] 4 48 h1 9 #[.val (.ref a), .val (.ref ca)] [] := c
  exact c.ret d_si1_9 rfl (fun sf hs => ⟨rfl, K1, S1⟩) (by decide) (by decide)
abbrev y_coder : MethodName := ⟨"java/lang/String", "coder", "()B"⟩
theorem d_coder_0 : decode jdk_42_method_152_code 0 = .ok (.getstatic 38, 3) := by decide +kernel
theorem d_coder_3 : decode jdk_42_method_152_code 3 = .ok (.ifCond .eq 10, 3) := by decide +kernel
theorem d_coder_6 : decode jdk_42_method_152_code 6 = .ok (.aload_n 0, 1) := by decide +kernel
theorem d_coder_7 : decode jdk_42_method_152_code 7 = .ok (.getfield 15, 3) := by decide +kernel
theorem d_coder_10 : decode jdk_42_method_152_code 10 = .ok (.goto 4, 3) := by decide +kernel
theorem d_coder_14 : decode jdk_42_method_152_code 14 = .ok (.ireturn, 1) := by decide +kernel
abbrev rm_coder : Room := { frames := 0, cells := 0, slots := 0, locals := 0 }
abbrev M_coder : Mx := (jdk_42_method_152_code, y_coder.cls, (some .byte), y_coder.name, 1, rm_coder)
theorem ef_coder (m : MethodId) (x0 : Addr) : entryFrame m #[.ref x0] 1 = mkF m 0 #[.val (.ref x0)] [] := by first | (simp [entryFrame, mkF, argsToLocals, Value.category]; done) | rfl
set_option maxRecDepth 65536 in
set_option maxHeartbeats 4000000 in
theorem con_coder {G : Gx} (hG : OGood G) {h0 : Heap} {a : Addr} {co : Int32} {bs : List Value} (hco : co = 0 ∨ co = 1) (B : StrB G.Z h0 a co bs) : OCon G y_coder jdk_42_method_152_code 1 (some .byte) [] rm_coder #[.ref a] [] h0 (fun v h' _ => v = some (.int co) ∧ h' = h0) := by
  refine OCon.intro (plainFor_of_name pn_1) (own_ew hG) #[.val (.ref a)] (fun m => ef_coder m a) ?_
  intro K c
  replace c : OAt G K M_coder [] 0 0 h0 0 #[.val (.ref a)] [] := c
  obtain ⟨E, C, b, V, Y⟩ := B
  obtain ⟨z, hz, hz0⟩ := hG.2.2.1
  replace c := c.getS 3 d_coder_0 (hG.1 _ (List.mem_of_getElem? (i := 85) rfl)) hz
  replace c := c.ifF 6 d_coder_3 (own_if_eq_f hz0)
  replace c := c.aloadN 7 d_coder_6 rfl rfl
  replace c := c.getF 10 d_coder_7 (hG.1 _ (List.mem_of_getElem? (i := 21) rfl)) C
  replace c := c.goto 14 d_coder_10
  exact c.reti (t := .byte) d_coder_14 rfl (by rcases hco with rfl | rfl <;> rfl) (by simp) (fun sf hs => ⟨rfl, rfl⟩) (by decide) (by decide)
abbrev y_slen : MethodName := ⟨"java/lang/String", "length", "()I"⟩
theorem pd_8 : parseMethodDescriptor "()B" = some ⟨[], some .byte⟩ := by decide +kernel
theorem d_slen_0 : decode jdk_42_method_54_code 0 = .ok (.aload_n 0, 1) := by decide +kernel
theorem d_slen_1 : decode jdk_42_method_54_code 1 = .ok (.getfield 9, 3) := by decide +kernel
theorem d_slen_4 : decode jdk_42_method_54_code 4 = .ok (.arraylength, 1) := by decide +kernel
theorem d_slen_5 : decode jdk_42_method_54_code 5 = .ok (.aload_n 0, 1) := by decide +kernel
theorem d_slen_6 : decode jdk_42_method_54_code 6 = .ok (.invokevirtual 335, 3) := by decide +kernel
theorem d_slen_9 : decode jdk_42_method_54_code 9 = .ok (.ishr, 1) := by decide +kernel
theorem d_slen_10 : decode jdk_42_method_54_code 10 = .ok (.ireturn, 1) := by decide +kernel
abbrev rm_slen : Room := { frames := 1, cells := 0, slots := 0, locals := 13 }
abbrev M_slen : Mx := (jdk_42_method_54_code, y_slen.cls, (some .int), y_slen.name, 1, rm_slen)
theorem ef_slen (m : MethodId) (x0 : Addr) : entryFrame m #[.ref x0] 1 = mkF m 0 #[.val (.ref x0)] [] := by first | (simp [entryFrame, mkF, argsToLocals, Value.category]; done) | rfl
set_option maxRecDepth 65536 in
set_option maxHeartbeats 4000000 in
theorem con_slen {G : Gx} (hG : OGood G) {h0 : Heap} {a : Addr} {co r : Int32} {bs : List Value} (hco : co = 0 ∨ co = 1) (hr : Int32.ofNat bs.length >>> (co &&& 31) = r) (B : StrB G.Z h0 a co bs) : OCon G y_slen jdk_42_method_54_code 1 (some .int) [] rm_slen #[.ref a] [] h0 (fun v h' _ => v = some (.int r) ∧ h' = h0) := by
  refine OCon.intro (plainFor_of_name pn_1) (own_ew hG) #[.val (.ref a)] (fun m => ef_slen m a) ?_
  intro K c
  replace c : OAt G K M_slen [] 0 0 h0 0 #[.val (.ref a)] [] := c
  obtain ⟨E, C, b, V, Y⟩ := id B
  replace c := c.aloadN 1 d_slen_0 rfl rfl
  replace c := c.getF 4 d_slen_1 (hG.1 _ (List.mem_of_getElem? (i := 20) rfl)) V
  replace c := c.arrlen 5 d_slen_4 Y (Int32.ofNat bs.length) rfl
  replace c := c.aloadN 6 d_slen_5 rfl rfl
  obtain ⟨v, h1, sf, ⟨rfl, hh⟩, c⟩ := c.callV (y := (⟨"java/lang/String", "coder", "()B"⟩ : MethodName)) (z := y_coder) (C := "java/lang/String") (a := a) (argsL := []) (rest := [.int (Int32.ofNat bs.length)]) 9 d_slen_6 (con_coder hG hco B) rfl E (hG.1 _ (List.mem_of_getElem? (i := 80) rfl)) (hG.1 _ (List.mem_of_getElem? (i := 81) rfl)) (own_nf (hG.1 _ (List.mem_of_getElem? (i := 83) rfl))) (hG.1 _ (List.mem_of_getElem? (i := 83) rfl)) (hG.1 _ (List.mem_of_getElem? (i := 82) rfl)) (hG.1 _ (List.mem_of_getElem? (i := 3) rfl)) (hG.1 _ (List.mem_of_getElem? (i := 84) rfl)) (lenOf pd_8 rfl) (by simp) (W := 1) rfl (by decide) (by decide) (by decide) (by decide)
  rw [hh] at c
  replace c := c [] (by simp)
  replace c : OAt G K M_slen [] 0 0 h0 9 #[.val (.ref a)] [.int co, .int (Int32.ofNat bs.length)] := c
  replace c := c.ishr 10 d_slen_9
  rw [hr] at c
  exact c.reti (t := .int) d_slen_10 rfl rfl (by simp) (fun sf hs => ⟨rfl, rfl⟩) (by decide) (by decide)
abbrev y_min2 : MethodName := ⟨"java/lang/Math", "min", "(II)I"⟩
theorem d_min2_0 : decode jdk_29_method_69_code 0 = .ok (.iload_n 0, 1) := by decide +kernel
theorem d_min2_1 : decode jdk_29_method_69_code 1 = .ok (.iload_n 1, 1) := by decide +kernel
theorem d_min2_2 : decode jdk_29_method_69_code 2 = .ok (.if_icmp .gt 7, 3) := by decide +kernel
theorem d_min2_5 : decode jdk_29_method_69_code 5 = .ok (.iload_n 0, 1) := by decide +kernel
theorem d_min2_6 : decode jdk_29_method_69_code 6 = .ok (.goto 4, 3) := by decide +kernel
theorem d_min2_9 : decode jdk_29_method_69_code 9 = .ok (.iload_n 1, 1) := by decide +kernel
theorem d_min2_10 : decode jdk_29_method_69_code 10 = .ok (.ireturn, 1) := by decide +kernel
abbrev rm_min2 : Room := { frames := 0, cells := 0, slots := 0, locals := 0 }
abbrev M_min2 : Mx := (jdk_29_method_69_code, y_min2.cls, (some .int), y_min2.name, 2, rm_min2)
theorem ef_min2 (m : MethodId) (x0 : Int32) (x1 : Int32) : entryFrame m #[.int x0, .int x1] 2 = mkF m 0 #[.val (.int x0), .val (.int x1)] [] := by first | (simp [entryFrame, mkF, argsToLocals, Value.category]; done) | rfl
set_option maxRecDepth 65536 in
set_option maxHeartbeats 4000000 in
theorem con_min2 {G : Gx} (hG : OGood G) {h0 : Heap} {x y : Int32} : OCon G y_min2 jdk_29_method_69_code 2 (some .int) [] rm_min2 #[.int x, .int y] [] h0 (fun v h' _ => v = some (.int (if y < x then y else x)) ∧ h' = h0) := by
  refine OCon.intro (by decide +kernel) (own_ew hG) #[.val (.int x), .val (.int y)] (fun m => ef_min2 m x y) ?_
  intro K c
  replace c : OAt G K M_min2 [] 0 0 h0 0 #[.val (.int x), .val (.int y)] [] := c
  replace c := c.iloadN 1 d_min2_0 rfl
  replace c := c.iloadN 2 d_min2_1 rfl
  by_cases q : y < x
  · skip
    replace c := c.icT 9 d_min2_2 (own_ic_gt_t q)
    replace c := c.iloadN 10 d_min2_9 rfl
    exact c.reti (t := .int) d_min2_10 rfl rfl (by simp) (fun sf hs => ⟨by rw [if_pos q], rfl⟩) (by decide) (by decide)
  · skip
    replace c := c.icF 5 d_min2_2 (own_ic_gt_f q)
    replace c := c.iloadN 6 d_min2_5 rfl
    replace c := c.goto 10 d_min2_6
    exact c.reti (t := .int) d_min2_10 rfl rfl (by simp) (fun sf hs => ⟨by rw [if_neg q], rfl⟩) (by decide) (by decide)
theorem own_l0 {G : Gx} (hG : OGood G) : Laid G.Z G.a0 "java/lang/StringBuilder" "java/lang/AbstractStringBuilder" "value" "[B" := Or.inl (hG.1 _ (List.mem_of_getElem? (i := 61) rfl))
theorem own_l1 {G : Gx} (hG : OGood G) : Laid G.Z G.a0 "java/lang/StringBuilder" "java/lang/AbstractStringBuilder" "coder" "B" := Or.inl (hG.1 _ (List.mem_of_getElem? (i := 63) rfl))
theorem own_l2 {G : Gx} (hG : OGood G) : Laid G.Z G.a0 "java/lang/StringBuilder" "java/lang/AbstractStringBuilder" "count" "I" := Or.inl (hG.1 _ (List.mem_of_getElem? (i := 87) rfl))
theorem own_l3 {G : Gx} (hG : OGood G) : Laid G.Z G.a0 "java/lang/StringBuilder" "java/lang/AbstractStringBuilder" "maybeLatin1" "Z" := Or.inl (hG.1 _ (List.mem_of_getElem? (i := 241) rfl))
theorem own_n01 {G : Gx} (hG : OGood G) : Jvm.RoadKit.slotOf G.Z "java/lang/AbstractStringBuilder" "value" "[B" ≠ Jvm.RoadKit.slotOf G.Z "java/lang/AbstractStringBuilder" "coder" "B" := slot_ne (own_l0 hG) (own_l1 hG) (by decide) (t := .array .byte) (t' := .byte) (by decide) (by decide)
theorem own_n02 {G : Gx} (hG : OGood G) : Jvm.RoadKit.slotOf G.Z "java/lang/AbstractStringBuilder" "value" "[B" ≠ Jvm.RoadKit.slotOf G.Z "java/lang/AbstractStringBuilder" "count" "I" := slot_ne (own_l0 hG) (own_l2 hG) (by decide) (t := .array .byte) (t' := .int) (by decide) (by decide)
theorem own_n03 {G : Gx} (hG : OGood G) : Jvm.RoadKit.slotOf G.Z "java/lang/AbstractStringBuilder" "value" "[B" ≠ Jvm.RoadKit.slotOf G.Z "java/lang/AbstractStringBuilder" "maybeLatin1" "Z" := slot_ne (own_l0 hG) (own_l3 hG) (by decide) (t := .array .byte) (t' := .boolean) (by decide) (by decide)
theorem own_n10 {G : Gx} (hG : OGood G) : Jvm.RoadKit.slotOf G.Z "java/lang/AbstractStringBuilder" "coder" "B" ≠ Jvm.RoadKit.slotOf G.Z "java/lang/AbstractStringBuilder" "value" "[B" := slot_ne (own_l1 hG) (own_l0 hG) (by decide) (t := .byte) (t' := .array .byte) (by decide) (by decide)
theorem own_n12 {G : Gx} (hG : OGood G) : Jvm.RoadKit.slotOf G.Z "java/lang/AbstractStringBuilder" "coder" "B" ≠ Jvm.RoadKit.slotOf G.Z "java/lang/AbstractStringBuilder" "count" "I" := slot_ne (own_l1 hG) (own_l2 hG) (by decide) (t := .byte) (t' := .int) (by decide) (by decide)
theorem own_n13 {G : Gx} (hG : OGood G) : Jvm.RoadKit.slotOf G.Z "java/lang/AbstractStringBuilder" "coder" "B" ≠ Jvm.RoadKit.slotOf G.Z "java/lang/AbstractStringBuilder" "maybeLatin1" "Z" := slot_ne (own_l1 hG) (own_l3 hG) (by decide) (t := .byte) (t' := .boolean) (by decide) (by decide)
theorem own_n20 {G : Gx} (hG : OGood G) : Jvm.RoadKit.slotOf G.Z "java/lang/AbstractStringBuilder" "count" "I" ≠ Jvm.RoadKit.slotOf G.Z "java/lang/AbstractStringBuilder" "value" "[B" := slot_ne (own_l2 hG) (own_l0 hG) (by decide) (t := .int) (t' := .array .byte) (by decide) (by decide)
theorem own_n21 {G : Gx} (hG : OGood G) : Jvm.RoadKit.slotOf G.Z "java/lang/AbstractStringBuilder" "count" "I" ≠ Jvm.RoadKit.slotOf G.Z "java/lang/AbstractStringBuilder" "coder" "B" := slot_ne (own_l2 hG) (own_l1 hG) (by decide) (t := .int) (t' := .byte) (by decide) (by decide)
theorem own_n23 {G : Gx} (hG : OGood G) : Jvm.RoadKit.slotOf G.Z "java/lang/AbstractStringBuilder" "count" "I" ≠ Jvm.RoadKit.slotOf G.Z "java/lang/AbstractStringBuilder" "maybeLatin1" "Z" := slot_ne (own_l2 hG) (own_l3 hG) (by decide) (t := .int) (t' := .boolean) (by decide) (by decide)
theorem own_n30 {G : Gx} (hG : OGood G) : Jvm.RoadKit.slotOf G.Z "java/lang/AbstractStringBuilder" "maybeLatin1" "Z" ≠ Jvm.RoadKit.slotOf G.Z "java/lang/AbstractStringBuilder" "value" "[B" := slot_ne (own_l3 hG) (own_l0 hG) (by decide) (t := .boolean) (t' := .array .byte) (by decide) (by decide)
theorem own_n31 {G : Gx} (hG : OGood G) : Jvm.RoadKit.slotOf G.Z "java/lang/AbstractStringBuilder" "maybeLatin1" "Z" ≠ Jvm.RoadKit.slotOf G.Z "java/lang/AbstractStringBuilder" "coder" "B" := slot_ne (own_l3 hG) (own_l1 hG) (by decide) (t := .boolean) (t' := .byte) (by decide) (by decide)
theorem own_n32 {G : Gx} (hG : OGood G) : Jvm.RoadKit.slotOf G.Z "java/lang/AbstractStringBuilder" "maybeLatin1" "Z" ≠ Jvm.RoadKit.slotOf G.Z "java/lang/AbstractStringBuilder" "count" "I" := slot_ne (own_l3 hG) (own_l2 hG) (by decide) (t := .boolean) (t' := .int) (by decide) (by decide)
/-- the builder a over the bytes b: coder co, n chars, the bytes vs -/
def Bq (Z : State) (h : Heap) (a b : Addr) (co : Int32) (n : Nat) (vs : List Value) : Prop := Exa Z h a "java/lang/StringBuilder" ∧ Fld Z h a "java/lang/AbstractStringBuilder" "value" "[B" (.ref b) ∧ Fld Z h a "java/lang/AbstractStringBuilder" "coder" "B" (.int co) ∧ Fld Z h a "java/lang/AbstractStringBuilder" "count" "I" (.int (Int32.ofNat n)) ∧ Fld Z h a "java/lang/AbstractStringBuilder" "maybeLatin1" "Z" (.int 0) ∧ Ary Z h b .byte vs
theorem Bq.keep {Z : State} {h h' : Heap} {a b : Addr} {co : Int32} {n : Nat} {vs : List Value} (B : Bq Z h a b co n vs) {ws : List Addr} (K : Keep h h' ws) (qa : a ∉ ws) (qb : b ∉ ws) : Bq Z h' a b co n vs := ⟨B.1.keep K, B.2.1.keep K qa, B.2.2.1.keep K qa, B.2.2.2.1.keep K qa, B.2.2.2.2.1.keep K qa, B.2.2.2.2.2.keep K qb⟩
theorem Bq.ext {Z : State} {h h' : Heap} {a b : Addr} {co : Int32} {n : Nat} {vs : List Value} (B : Bq Z h a b co n vs) (E : Ext h h') : Bq Z h' a b co n vs := B.keep ((Keep.refl h []).ext E) (by simp) (by simp)
theorem Bq.bytes {Z : State} {h h' : Heap} {a b : Addr} {co : Int32} {n : Nat} {vs vs' : List Value} (B : Bq Z h a b co n vs) (K : Keep h h' [b]) (q : b ≠ a) (Y : Ary Z h' b .byte vs') : Bq Z h' a b co n vs' := by
  have qa : a ∉ [b] := by simpa using q.symm
  exact ⟨B.1.keep K, B.2.1.keep K qa, B.2.2.1.keep K qa, B.2.2.2.1.keep K qa, B.2.2.2.2.1.keep K qa, Y⟩
theorem Bq.ne {G : Gx} (hG : OGood G) {h : Heap} {a b : Addr} {co : Int32} {n : Nat} {vs : List Value} (B : Bq G.Z h a b co n vs) : b ≠ a := fun q => by obtain ⟨cl, Ar, -⟩ := B.2.2.2.2.2; exact ne_arr B.1 (hG.1 _ (List.mem_of_getElem? (i := 47) rfl)) Ar q.symm
/-- what the bytes say: the chars cs, in the coder co -/
def BE (co : Int32) (cs : List Int32) (vs : List Value) : Prop := (co = 0 ∧ Lat cs ∧ vs.length = 16 ∧ vs.take cs.length = encL cs) ∨ (co = 1 ∧ Chs cs ∧ (∃ c ∈ cs, 255 < c.toInt) ∧ vs.length = 32 ∧ vs.take (2 * cs.length) = encU cs)
/-- the String t over the bytes tb; both lie below n -/
def OS2 (Z : State) (h : Heap) (n : Nat) (t tb : Addr) (co : Int32) (bs : List Value) : Prop := Exa Z h t "java/lang/String" ∧ Fld Z h t "java/lang/String" "coder" "B" (.int co) ∧ Fld Z h t "java/lang/String" "value" "[B" (.ref tb) ∧ Ary Z h tb .byte bs ∧ t < n ∧ tb < n
theorem OS2.keep {Z : State} {h h' : Heap} {n : Nat} {t tb : Addr} {co : Int32} {bs : List Value} (F : OS2 Z h n t tb co bs) {ws : List Addr} (K : Keep h h' ws) (q : ∀ x ∈ ws, t ≠ x ∧ tb ≠ x) : OS2 Z h' n t tb co bs := by
  have q1 : t ∉ ws := fun m => (q _ m).1 rfl
  have q2 : tb ∉ ws := fun m => (q _ m).2 rfl
  exact ⟨F.1.keep K, F.2.1.keep K q1, F.2.2.1.keep K q1, F.2.2.2.1.keep K q2, F.2.2.2.2⟩
theorem OS2.strB {Z : State} {h : Heap} {n : Nat} {t tb : Addr} {co : Int32} {bs : List Value} (F : OS2 Z h n t tb co bs) : StrB Z h t co bs := ⟨F.1, F.2.1, tb, F.2.2.1, F.2.2.2.1⟩
def OSr (Z : State) (h : Heap) (n : Nat) (t tb : Addr) (cs : List Int32) : Prop := (Lat cs ∧ OS2 Z h n t tb 0 (encL cs)) ∨ (Chs cs ∧ (∃ c ∈ cs, 255 < c.toInt) ∧ OS2 Z h n t tb 1 (encU cs))
theorem OSr.keep {Z : State} {h h' : Heap} {n : Nat} {t tb : Addr} {cs : List Int32} (F : OSr Z h n t tb cs) {ws : List Addr} (K : Keep h h' ws) (q : ∀ x ∈ ws, t ≠ x ∧ tb ≠ x) : OSr Z h' n t tb cs := F.imp (fun p => ⟨p.1, p.2.keep K q⟩) fun p => ⟨p.1, p.2.1, p.2.2.keep K q⟩
theorem OSr.ext {Z : State} {h h' : Heap} {n : Nat} {t tb : Addr} {cs : List Int32} (F : OSr Z h n t tb cs) (E : Ext h h') : OSr Z h' n t tb cs := F.keep ((Keep.refl h []).ext E) (by simp)
theorem OSr.of {Z : State} {h : Heap} {t : Addr} {cs : List Int32} (S : Str Z h t cs) : ∃ tb, OSr Z h h.size t tb cs := by
  rcases S with ⟨l, E, C, b, V, Y⟩ | ⟨l, g, E, C, b, V, Y⟩
  · exact ⟨b, Or.inl ⟨l, E, C, V, Y, E.lt, Y.lt⟩⟩
  · exact ⟨b, Or.inr ⟨l, g, E, C, V, Y, E.lt, Y.lt⟩⟩
theorem OSr.str {Z : State} {h : Heap} {n : Nat} {t tb : Addr} {cs : List Int32} (F : OSr Z h n t tb cs) : Str Z h t cs := F.imp (fun p => ⟨p.1, p.2.strB⟩) fun p => ⟨p.1, p.2.1, p.2.2.strB⟩
theorem OSr.exa {Z : State} {h : Heap} {n : Nat} {t tb : Addr} {cs : List Int32} (F : OSr Z h n t tb cs) : Exa Z h t "java/lang/String" := F.str.exa
theorem OSr.chs {Z : State} {h : Heap} {n : Nat} {t tb : Addr} {cs : List Int32} (F : OSr Z h n t tb cs) : Chs cs := by
  rcases F with ⟨l, -⟩ | ⟨l, -⟩
  · exact fun c hc => ⟨(l c hc).1, by have := (l c hc).2; omega⟩
  · exact l
theorem OSr.lt {Z : State} {h : Heap} {n : Nat} {t tb : Addr} {cs : List Int32} (F : OSr Z h n t tb cs) : t < n ∧ tb < n := by
  rcases F with ⟨-, q⟩ | ⟨-, -, q⟩ <;> exact q.2.2.2.2
theorem OSr.na {G : Gx} (hG : OGood G) {h : Heap} {n : Nat} {t tb a : Addr} {cs : List Int32} (F : OSr G.Z h n t tb cs) (E : Exa G.Z h a "java/lang/StringBuilder") : t ≠ a ∧ tb ≠ a := by
  refine ⟨F.exa.ne E (by decide), ?_⟩
  rcases F with ⟨-, q⟩ | ⟨-, -, q⟩ <;> exact fun e => by obtain ⟨cl, Ar, -⟩ := q.2.2.2.1; exact ne_arr E (hG.1 _ (List.mem_of_getElem? (i := 47) rfl)) Ar e.symm
theorem own_shl0 (x : Int32) : x <<< ((0 : Int32) &&& 31) = x := by
  apply Int32.toInt_inj.mp
  simp
theorem own_shr1 (k : Nat) (hk : k < 1073741823) : Int32.ofNat (2 * k) >>> ((1 : Int32) &&& 31) = Int32.ofNat k := by
  apply Int32.toInt_inj.mp
  rw [c_ishr _ 1 1 (by decide), own_toInt (by omega), own_toInt (by omega)]
  omega
theorem own_subng {n m : Nat} (h : n ≤ m) (hm : m < 2147483648) : ¬ (0 : Int32) < Int32.ofNat n - Int32.ofNat m := by
  have h1 := c_isub (Int32.ofNat n) (Int32.ofNat m)
  rw [own_toInt hm, own_toInt (by omega)] at h1
  have r2 := rng32 (Int32.ofNat n - Int32.ofNat m)
  rw [Int32.lt_iff_toInt_lt]
  have e0 : (0 : Int32).toInt = 0 := by decide
  omega
theorem own_nlat {cs : List Int32} (h : ∃ c ∈ cs, 255 < c.toInt) : ¬ Lat cs := fun l => by
  obtain ⟨c, hc, q⟩ := h
  have := (l c hc).2; omega
theorem own_latch {cs : List Int32} (h : Lat cs) : Chs cs := fun c hc => ⟨(h c hc).1, by have := (h c hc).2; omega⟩
theorem own_latapp {xs ys : List Int32} (h : Lat xs) (h2 : Lat ys) : Lat (xs ++ ys) := fun c hc => (List.mem_append.mp hc).elim (h c) (h2 c)
theorem own_chapp {xs ys : List Int32} (h : Chs xs) (h2 : Chs ys) : Chs (xs ++ ys) := fun c hc => (List.mem_append.mp hc).elim (h c) (h2 c)
theorem own_beL {cs ts : List Int32} {vs : List Value} (lc : Lat cs) (lt : Lat ts) (hv : vs.length = 16) (tk : vs.take cs.length = encL cs) (h : cs.length + ts.length ≤ 16) : BE 0 (cs ++ ts) (vs.take cs.length ++ encL ts ++ vs.drop (cs.length + (encL ts).length)) := by
  refine Or.inl ⟨rfl, own_latapp lc lt, ?_, ?_⟩
  · simp [encL_len]; omega
  · rw [tk, show encL (cs ++ ts) = encL cs ++ encL ts by simp [encL], List.take_append_of_le_length (by simp [encL_len]), List.take_of_length_le (by simp [encL_len])]
theorem own_beU {cs ts : List Int32} (lc : Lat cs) (ct : Chs ts) (g : ∃ c ∈ ts, 255 < c.toInt) (hc : cs.length = 11) (h : ts.length ≤ 3) : BE 1 (cs ++ ts) ((encU cs ++ List.replicate 10 (Value.int 0)).take 22 ++ encU ts ++ (encU cs ++ List.replicate 10 (Value.int 0)).drop (22 + (encU ts).length)) := by
  have e1 : (encU cs).length = 22 := by rw [encU_len]; omega
  have e2 : (encU ts).length = 2 * ts.length := encU_len ts
  have e3 : (encU cs ++ List.replicate 10 (Value.int 0)).take 22 = encU cs := by rw [List.take_append_of_le_length (by omega), List.take_of_length_le (by omega)]
  refine Or.inr ⟨rfl, own_chapp (own_latch lc) ct, ?_, ?_, ?_⟩
  · obtain ⟨c, h1, h2⟩ := g
    exact ⟨c, List.mem_append_right _ h1, h2⟩
  · rw [e3]; simp only [List.length_append, List.length_drop, List.length_replicate]; omega
  · rw [e3, show encU (cs ++ ts) = encU cs ++ encU ts by simp [encU], List.take_append_of_le_length (by simp only [List.length_append]; omega), List.take_of_length_le (by simp only [List.length_append]; omega)]
def lit1 : List Int32 := [116, 104, 101, 32, 99, 108, 105, 101, 110, 116, 32]
theorem lit1_len : lit1.length = 11 := rfl
theorem lit1_lat : Lat lit1 := by unfold Lat; decide
theorem lit1_enc : encL lit1 = [.int 116, .int 104, .int 101, .int 32, .int 99, .int 108, .int 105, .int 101, .int 110, .int 116, .int 32] := by decide
theorem own_two {a b : Addr} {n : Nat} (h1 : n ≤ a) (h2 : n ≤ b) : ∀ x ∈ [a, b], n ≤ x := fun x hx => by
  simp only [List.mem_cons, List.not_mem_nil, or_false] at hx
  rcases hx with rfl | rfl
  · exact h1
  · exact h2
abbrev y_abi : MethodName := ⟨"java/lang/AbstractStringBuilder", "<init>", "(I)V"⟩
theorem pn_2 : plainName "java/lang/AbstractStringBuilder" = true := by first | (simp [plainName, overriddenIn]; done) | decide +kernel
theorem d_abi_0 : decode jdk_68_method_2_code 0 = .ok (.aload_n 0, 1) := by decide +kernel
theorem d_abi_1 : decode jdk_68_method_2_code 1 = .ok (.invokespecial 3, 3) := by decide +kernel
theorem d_abi_4 : decode jdk_68_method_2_code 4 = .ok (.getstatic 18, 3) := by decide +kernel
theorem d_abi_7 : decode jdk_68_method_2_code 7 = .ok (.ifCond .eq 18, 3) := by decide +kernel
theorem d_abi_10 : decode jdk_68_method_2_code 10 = .ok (.aload_n 0, 1) := by decide +kernel
theorem d_abi_11 : decode jdk_68_method_2_code 11 = .ok (.iload_n 1, 1) := by decide +kernel
theorem d_abi_12 : decode jdk_68_method_2_code 12 = .ok (.newarray .byte, 2) := by decide +kernel
theorem d_abi_14 : decode jdk_68_method_2_code 14 = .ok (.putfield 15, 3) := by decide +kernel
theorem d_abi_17 : decode jdk_68_method_2_code 17 = .ok (.aload_n 0, 1) := by decide +kernel
theorem d_abi_18 : decode jdk_68_method_2_code 18 = .ok (.iconst 0, 1) := by decide +kernel
theorem d_abi_19 : decode jdk_68_method_2_code 19 = .ok (.putfield 22, 3) := by decide +kernel
theorem d_abi_22 : decode jdk_68_method_2_code 22 = .ok (.goto 16, 3) := by decide +kernel
theorem d_abi_38 : decode jdk_68_method_2_code 38 = .ok (.return_, 1) := by decide +kernel
abbrev rm_abi : Room := { frames := 1, cells := 1, slots := 16, locals := 12 }
abbrev M_abi : Mx := (jdk_68_method_2_code, y_abi.cls, none, y_abi.name, 2, rm_abi)
theorem ef_abi (m : MethodId) (x0 : Addr) (x1 : Int32) : entryFrame m #[.ref x0, .int x1] 2 = mkF m 0 #[.val (.ref x0), .val (.int x1)] [] := by first | (simp [entryFrame, mkF, argsToLocals, Value.category]; done) | rfl
set_option maxRecDepth 65536 in
set_option maxHeartbeats 4000000 in
theorem con_abi {G : Gx} (hG : OGood G) {h0 : Heap} {a : Addr} (ha : G.n0 ≤ a) (E : Exa G.Z h0 a "java/lang/StringBuilder") (V : Fld G.Z h0 a "java/lang/AbstractStringBuilder" "value" "[B" .null) (C0 : Fld G.Z h0 a "java/lang/AbstractStringBuilder" "coder" "B" (.int 0)) (N : Fld G.Z h0 a "java/lang/AbstractStringBuilder" "count" "I" (.int 0)) (L : Fld G.Z h0 a "java/lang/AbstractStringBuilder" "maybeLatin1" "Z" (.int 0)) : OCon G y_abi jdk_68_method_2_code 2 none [] rm_abi #[.ref a, .int 16] [a] h0 (fun v h' sf => v = none ∧ Keep h0 h' [a] ∧ ∃ b : Addr, h0.size ≤ b ∧ G.n0 ≤ b ∧ sf b ∧ Bq G.Z h' a b 0 0 (List.replicate 16 (.int 0))) := by
  refine OCon.intro (plainFor_of_name pn_2) (own_ew hG) #[.val (.ref a), .val (.int 16)] (fun m => ef_abi m a 16) ?_
  intro K c
  replace c : OAt G K M_abi [a] 0 0 h0 0 #[.val (.ref a), .val (.int 16)] [] := c
  obtain ⟨z, hz, hz0⟩ := hG.2.2.1
  replace c := c.aloadN 1 d_abi_0 rfl rfl
  replace c := c.initO 4 d_abi_1 (hG.1 _ (List.mem_of_getElem? (i := 58) rfl)) (hG.1 _ (List.mem_of_getElem? (i := 12) rfl)) (hG.1 _ (List.mem_of_getElem? (i := 13) rfl)) (W := 0) rfl (by decide) (by decide)
  replace c := c.getS 7 d_abi_4 (hG.1 _ (List.mem_of_getElem? (i := 59) rfl)) hz
  replace c := c.ifF 10 d_abi_7 (own_if_eq_f hz0)
  replace c := c.aloadN 11 d_abi_10 rfl rfl
  replace c := c.iloadN 12 d_abi_11 rfl
  obtain ⟨d, h_d, s_d, x_d, g_d, Y_d, c⟩ := c.newarr 14 d_abi_12 .byte rfl (hG.1 _ (List.mem_of_getElem? (i := 15) rfl)) (16) (by decide) 16 (by decide) (by decide) (by decide) (by decide)
  have V1 := V.ext x_d
  have C01 := C0.ext x_d
  have N1 := N.ext x_d
  have L1 := L.ext x_d
  have E1 := E.ext x_d
  have nd : d ≠ a := by rw [s_d]; exact Nat.ne_of_gt E.lt
  obtain ⟨hp1, Wp1, c⟩ := c.putF (C := "java/lang/StringBuilder") (O := "java/lang/AbstractStringBuilder") (n := "value") (d := "[B") (ty := (.array .byte)) 17 d_abi_14 (hG.1 _ (List.mem_of_getElem? (i := 60) rfl)) V1 E1 (Or.inl (hG.1 _ (List.mem_of_getElem? (i := 61) rfl))) (hG.1 _ (List.mem_of_getElem? (i := 47) rfl)) (by decide) rfl (by first | rfl | decide) ha (Or.inl (by simp))
  replace c := c.aloadN 18 d_abi_17 rfl rfl
  replace c := c.iconst 19 d_abi_18 0 (by decide)
  obtain ⟨hp2, Wp2, c⟩ := c.putF (C := "java/lang/StringBuilder") (O := "java/lang/AbstractStringBuilder") (n := "coder") (d := "B") (ty := .byte) 22 d_abi_19 (hG.1 _ (List.mem_of_getElem? (i := 62) rfl)) (C01.other Wp1 (Or.inr (own_n10 hG))) (E1.wr Wp1) (Or.inl (hG.1 _ (List.mem_of_getElem? (i := 63) rfl))) (hG.1 _ (List.mem_of_getElem? (i := 47) rfl)) (by decide) rfl (by first | rfl | decide) ha (Or.inl (by simp))
  replace c := c.goto 38 d_abi_22
  exact c.ret d_abi_38 rfl (fun sf hs => ⟨rfl, (((Keep.refl h0 [a]).ext x_d).wr Wp1 (Or.inl (by simp))).wr Wp2 (Or.inl (by simp)), d, Nat.le_of_eq s_d.symm, g_d, hs d (by simp), (E1.wr Wp1).wr Wp2, (V1.same Wp1).other Wp2 (Or.inr (own_n01 hG)), (C01.other Wp1 (Or.inr (own_n10 hG))).same Wp2, (N1.other Wp1 (Or.inr (own_n20 hG))).other Wp2 (Or.inr (own_n21 hG)), (L1.other Wp1 (Or.inr (own_n30 hG))).other Wp2 (Or.inr (own_n31 hG)), (Y_d.other Wp1 nd).other Wp2 nd⟩) (by decide) (by decide)
abbrev y_sbi : MethodName := ⟨"java/lang/StringBuilder", "<init>", "()V"⟩
theorem pd_9 : parseMethodDescriptor "(I)V" = some ⟨[.int], none⟩ := by decide +kernel
theorem pn_3 : plainName "java/lang/StringBuilder" = true := by first | (simp [plainName, overriddenIn]; done) | decide +kernel
theorem d_sbi_0 : decode jdk_67_method_1_code 0 = .ok (.aload_n 0, 1) := by decide +kernel
theorem d_sbi_1 : decode jdk_67_method_1_code 1 = .ok (.bipush 16, 2) := by decide +kernel
theorem d_sbi_3 : decode jdk_67_method_1_code 3 = .ok (.invokespecial 1, 3) := by decide +kernel
theorem d_sbi_6 : decode jdk_67_method_1_code 6 = .ok (.return_, 1) := by decide +kernel
abbrev rm_sbi : Room := { frames := 2, cells := 1, slots := 16, locals := 25 }
abbrev M_sbi : Mx := (jdk_67_method_1_code, y_sbi.cls, none, y_sbi.name, 1, rm_sbi)
theorem ef_sbi (m : MethodId) (x0 : Addr) : entryFrame m #[.ref x0] 1 = mkF m 0 #[.val (.ref x0)] [] := by first | (simp [entryFrame, mkF, argsToLocals, Value.category]; done) | rfl
set_option maxRecDepth 65536 in
set_option maxHeartbeats 4000000 in
theorem con_sbi {G : Gx} (hG : OGood G) {h0 : Heap} {a : Addr} (ha : G.n0 ≤ a) (E : Exa G.Z h0 a "java/lang/StringBuilder") (V : Fld G.Z h0 a "java/lang/AbstractStringBuilder" "value" "[B" .null) (C0 : Fld G.Z h0 a "java/lang/AbstractStringBuilder" "coder" "B" (.int 0)) (N : Fld G.Z h0 a "java/lang/AbstractStringBuilder" "count" "I" (.int 0)) (L : Fld G.Z h0 a "java/lang/AbstractStringBuilder" "maybeLatin1" "Z" (.int 0)) : OCon G y_sbi jdk_67_method_1_code 1 none [] rm_sbi #[.ref a] [a] h0 (fun v h' sf => v = none ∧ Keep h0 h' [a] ∧ ∃ b : Addr, h0.size ≤ b ∧ G.n0 ≤ b ∧ sf b ∧ Bq G.Z h' a b 0 0 (List.replicate 16 (.int 0))) := by
  refine OCon.intro (plainFor_of_name pn_3) (own_ew hG) #[.val (.ref a)] (fun m => ef_sbi m a) ?_
  intro K c
  replace c : OAt G K M_sbi [a] 0 0 h0 0 #[.val (.ref a)] [] := c
  replace c := c.aloadN 1 d_sbi_0 rfl rfl
  replace c := c.bipush 3 d_sbi_1 16 (by decide)
  obtain ⟨v, h1, sf, ⟨rfl, K1, b, s_b, g_b, q_b, B1⟩, c⟩ := c.callI (y := y_abi) (a := a) (argsL := [.int 16]) (rest := []) 6 d_sbi_3 (con_abi hG ha E V C0 N L) rfl (hG.1 _ (List.mem_of_getElem? (i := 52) rfl)) (hG.1 _ (List.mem_of_getElem? (i := 53) rfl)) (hG.1 _ (List.mem_of_getElem? (i := 56) rfl)) (hG.1 _ (List.mem_of_getElem? (i := 57) rfl)) (lenOf pd_9 rfl) (by simp) (W := 0) rfl (by decide) (by decide) (by decide) (by decide)
  replace c := c [b] (by simpa using q_b)
  replace c : OAt G K M_sbi [b, a] 1 16 h1 6 #[.val (.ref a)] [] := c
  exact c.ret d_sbi_6 rfl (fun sf hs => ⟨rfl, K1, b, s_b, g_b, hs b (by simp), B1⟩) (by decide) (by decide)
abbrev y_ens : MethodName := ⟨"java/lang/AbstractStringBuilder", "ensureCapacityInternal", "(I)V"⟩
theorem d_ens_0 : decode jdk_68_method_9_code 0 = .ok (.aload_n 0, 1) := by decide +kernel
theorem d_ens_1 : decode jdk_68_method_9_code 1 = .ok (.getfield 15, 3) := by decide +kernel
theorem d_ens_4 : decode jdk_68_method_9_code 4 = .ok (.arraylength, 1) := by decide +kernel
theorem d_ens_5 : decode jdk_68_method_9_code 5 = .ok (.aload_n 0, 1) := by decide +kernel
theorem d_ens_6 : decode jdk_68_method_9_code 6 = .ok (.getfield 22, 3) := by decide +kernel
theorem d_ens_9 : decode jdk_68_method_9_code 9 = .ok (.ishr, 1) := by decide +kernel
theorem d_ens_10 : decode jdk_68_method_9_code 10 = .ok (.istore_n 2, 1) := by decide +kernel
theorem d_ens_11 : decode jdk_68_method_9_code 11 = .ok (.iload_n 1, 1) := by decide +kernel
theorem d_ens_12 : decode jdk_68_method_9_code 12 = .ok (.iload_n 2, 1) := by decide +kernel
theorem d_ens_13 : decode jdk_68_method_9_code 13 = .ok (.isub, 1) := by decide +kernel
theorem d_ens_14 : decode jdk_68_method_9_code 14 = .ok (.ifCond .le 24, 3) := by decide +kernel
theorem d_ens_38 : decode jdk_68_method_9_code 38 = .ok (.return_, 1) := by decide +kernel
abbrev rm_ens : Room := { frames := 0, cells := 0, slots := 0, locals := 0 }
abbrev M_ens : Mx := (jdk_68_method_9_code, y_ens.cls, none, y_ens.name, 3, rm_ens)
theorem ef_ens (m : MethodId) (x0 : Addr) (x1 : Int32) : entryFrame m #[.ref x0, .int x1] 3 = mkF m 0 #[.val (.ref x0), .val (.int x1), .unset] [] := by first | (simp [entryFrame, mkF, argsToLocals, Value.category]; done) | rfl
set_option maxRecDepth 65536 in
set_option maxHeartbeats 4000000 in
theorem con_ens {G : Gx} (hG : OGood G) {h0 : Heap} {a b : Addr} {k : Nat} {n : Nat} {vs : List Value} (B : Bq G.Z h0 a b 0 n vs) (hv : vs.length = 16) (hk : k ≤ 16) : OCon G y_ens jdk_68_method_9_code 3 none [] rm_ens #[.ref a, .int (Int32.ofNat k)] [] h0 (fun v h' _ => v = none ∧ h' = h0) := by
  refine OCon.intro (plainFor_of_name pn_2) (own_ew hG) #[.val (.ref a), .val (.int (Int32.ofNat k)), .unset] (fun m => ef_ens m a (Int32.ofNat k)) ?_
  intro K c
  replace c : OAt G K M_ens [] 0 0 h0 0 #[.val (.ref a), .val (.int (Int32.ofNat k)), .unset] [] := c
  obtain ⟨E, V, C, N, L, Y⟩ := id B
  replace c := c.aloadN 1 d_ens_0 rfl rfl
  replace c := c.getF 4 d_ens_1 (hG.1 _ (List.mem_of_getElem? (i := 60) rfl)) V
  replace c := c.arrlen 5 d_ens_4 Y (Int32.ofNat vs.length) rfl
  replace c := c.aloadN 6 d_ens_5 rfl rfl
  replace c := c.getF 9 d_ens_6 (hG.1 _ (List.mem_of_getElem? (i := 62) rfl)) C
  replace c := c.ishr 10 d_ens_9
  rw [own_shr0] at c
  replace c := c.istoreN 11 d_ens_10 #[.val (.ref a), .val (.int (Int32.ofNat k)), .val (.int (Int32.ofNat vs.length))] rfl
  replace c := c.iloadN 12 d_ens_11 rfl
  replace c := c.iloadN 13 d_ens_12 rfl
  replace c := c.isub 14 d_ens_13
  replace c := c.ifT 38 d_ens_14 (own_if_le_t (own_subng (by omega) (by omega)))
  exact c.ret d_ens_38 rfl (fun sf hs => ⟨rfl, rfl⟩) (by decide) (by decide)
abbrev y_il : MethodName := ⟨"java/lang/AbstractStringBuilder", "isLatin1", "()Z"⟩
theorem d_il_0 : decode jdk_68_method_68_code 0 = .ok (.getstatic 18, 3) := by decide +kernel
theorem d_il_3 : decode jdk_68_method_68_code 3 = .ok (.ifCond .eq 14, 3) := by decide +kernel
theorem d_il_6 : decode jdk_68_method_68_code 6 = .ok (.aload_n 0, 1) := by decide +kernel
theorem d_il_7 : decode jdk_68_method_68_code 7 = .ok (.getfield 22, 3) := by decide +kernel
theorem d_il_10 : decode jdk_68_method_68_code 10 = .ok (.ifCond .ne 7, 3) := by decide +kernel
theorem d_il_13 : decode jdk_68_method_68_code 13 = .ok (.iconst 1, 1) := by decide +kernel
theorem d_il_14 : decode jdk_68_method_68_code 14 = .ok (.goto 4, 3) := by decide +kernel
theorem d_il_17 : decode jdk_68_method_68_code 17 = .ok (.iconst 0, 1) := by decide +kernel
theorem d_il_18 : decode jdk_68_method_68_code 18 = .ok (.ireturn, 1) := by decide +kernel
abbrev rm_il : Room := { frames := 0, cells := 0, slots := 0, locals := 0 }
abbrev M_il : Mx := (jdk_68_method_68_code, y_il.cls, (some .boolean), y_il.name, 1, rm_il)
theorem ef_il (m : MethodId) (x0 : Addr) : entryFrame m #[.ref x0] 1 = mkF m 0 #[.val (.ref x0)] [] := by first | (simp [entryFrame, mkF, argsToLocals, Value.category]; done) | rfl
set_option maxRecDepth 65536 in
set_option maxHeartbeats 4000000 in
theorem con_il {G : Gx} (hG : OGood G) {h0 : Heap} {a b : Addr} {co : Int32} {n : Nat} {vs : List Value} (B : Bq G.Z h0 a b co n vs) (hco : co = 0 ∨ co = 1) : OCon G y_il jdk_68_method_68_code 1 (some .boolean) [] rm_il #[.ref a] [] h0 (fun v h' _ => v = some (.int (1 - co)) ∧ h' = h0) := by
  refine OCon.intro (plainFor_of_name pn_2) (own_ew hG) #[.val (.ref a)] (fun m => ef_il m a) ?_
  intro K c
  replace c : OAt G K M_il [] 0 0 h0 0 #[.val (.ref a)] [] := c
  obtain ⟨z, hz, hz0⟩ := hG.2.2.1
  replace c := c.getS 3 d_il_0 (hG.1 _ (List.mem_of_getElem? (i := 59) rfl)) hz
  replace c := c.ifF 6 d_il_3 (own_if_eq_f hz0)
  replace c := c.aloadN 7 d_il_6 rfl rfl
  replace c := c.getF 10 d_il_7 (hG.1 _ (List.mem_of_getElem? (i := 62) rfl)) B.2.2.1
  rcases hco with rfl | rfl
  · skip
    replace c := c.ifF 13 d_il_10 (own_if_ne_f (by decide))
    replace c := c.iconst 14 d_il_13 1 (by decide)
    replace c := c.goto 18 d_il_14
    exact c.reti (t := .boolean) d_il_18 rfl rfl (by simp) (fun sf hs => ⟨rfl, rfl⟩) (by decide) (by decide)
  · skip
    replace c := c.ifT 17 d_il_10 (own_if_ne_t (by decide))
    replace c := c.iconst 18 d_il_17 0 (by decide)
    exact c.reti (t := .boolean) d_il_18 rfl rfl (by simp) (fun sf hs => ⟨rfl, rfl⟩) (by decide) (by decide)
abbrev y_gv : MethodName := ⟨"java/lang/AbstractStringBuilder", "getValue", "()[B"⟩
theorem d_gv_0 : decode jdk_68_method_64_code 0 = .ok (.aload_n 0, 1) := by decide +kernel
theorem d_gv_1 : decode jdk_68_method_64_code 1 = .ok (.getfield 15, 3) := by decide +kernel
theorem d_gv_4 : decode jdk_68_method_64_code 4 = .ok (.areturn, 1) := by decide +kernel
abbrev rm_gv : Room := { frames := 0, cells := 0, slots := 0, locals := 0 }
abbrev M_gv : Mx := (jdk_68_method_64_code, y_gv.cls, (some (.array .byte)), y_gv.name, 1, rm_gv)
theorem ef_gv (m : MethodId) (x0 : Addr) : entryFrame m #[.ref x0] 1 = mkF m 0 #[.val (.ref x0)] [] := by first | (simp [entryFrame, mkF, argsToLocals, Value.category]; done) | rfl
set_option maxRecDepth 65536 in
set_option maxHeartbeats 4000000 in
theorem con_gv {G : Gx} (hG : OGood G) {h0 : Heap} {a b : Addr} {co : Int32} {n : Nat} {vs : List Value} (B : Bq G.Z h0 a b co n vs) : OCon G y_gv jdk_68_method_64_code 1 (some (.array .byte)) [] rm_gv #[.ref a] [] h0 (fun v h' _ => v = some (.ref b) ∧ h' = h0) := by
  refine OCon.intro (plainFor_of_name pn_2) (own_ew hG) #[.val (.ref a)] (fun m => ef_gv m a) ?_
  intro K c
  replace c : OAt G K M_gv [] 0 0 h0 0 #[.val (.ref a)] [] := c
  replace c := c.aloadN 1 d_gv_0 rfl rfl
  replace c := c.getF 4 d_gv_1 (hG.1 _ (List.mem_of_getElem? (i := 60) rfl)) B.2.1
  exact c.reta (t := (.array .byte)) d_gv_4 rfl rfl rfl rfl (fun sf hs => ⟨rfl, rfl⟩) (by decide) (by decide)
abbrev y_al : MethodName := ⟨"java/lang/AbstractStringBuilder", "length", "()I"⟩
theorem d_al_0 : decode jdk_68_method_6_code 0 = .ok (.aload_n 0, 1) := by decide +kernel
theorem d_al_1 : decode jdk_68_method_6_code 1 = .ok (.getfield 79, 3) := by decide +kernel
theorem d_al_4 : decode jdk_68_method_6_code 4 = .ok (.ireturn, 1) := by decide +kernel
abbrev rm_al : Room := { frames := 0, cells := 0, slots := 0, locals := 0 }
abbrev M_al : Mx := (jdk_68_method_6_code, y_al.cls, (some .int), y_al.name, 1, rm_al)
theorem ef_al (m : MethodId) (x0 : Addr) : entryFrame m #[.ref x0] 1 = mkF m 0 #[.val (.ref x0)] [] := by first | (simp [entryFrame, mkF, argsToLocals, Value.category]; done) | rfl
set_option maxRecDepth 65536 in
set_option maxHeartbeats 4000000 in
theorem con_al {G : Gx} (hG : OGood G) {h0 : Heap} {a b : Addr} {co : Int32} {n : Nat} {vs : List Value} (B : Bq G.Z h0 a b co n vs) : OCon G y_al jdk_68_method_6_code 1 (some .int) [] rm_al #[.ref a] [] h0 (fun v h' _ => v = some (.int (Int32.ofNat n)) ∧ h' = h0) := by
  refine OCon.intro (plainFor_of_name pn_2) (own_ew hG) #[.val (.ref a)] (fun m => ef_al m a) ?_
  intro K c
  replace c : OAt G K M_al [] 0 0 h0 0 #[.val (.ref a)] [] := c
  replace c := c.aloadN 1 d_al_0 rfl rfl
  replace c := c.getF 4 d_al_1 (hG.1 _ (List.mem_of_getElem? (i := 86) rfl)) B.2.2.2.1
  exact c.reti (t := .int) d_al_4 rfl rfl (by simp) (fun sf hs => ⟨rfl, rfl⟩) (by decide) (by decide)
abbrev y_sl : MethodName := ⟨"java/lang/StringBuilder", "length", "()I"⟩
theorem pd_10 : parseMethodDescriptor "()I" = some ⟨[], some .int⟩ := by decide +kernel
theorem d_sl_0 : decode jdk_67_method_93_code 0 = .ok (.aload_n 0, 1) := by decide +kernel
theorem d_sl_1 : decode jdk_67_method_93_code 1 = .ok (.invokespecial 343, 3) := by decide +kernel
theorem d_sl_4 : decode jdk_67_method_93_code 4 = .ok (.ireturn, 1) := by decide +kernel
abbrev rm_sl : Room := { frames := 1, cells := 0, slots := 0, locals := 12 }
abbrev M_sl : Mx := (jdk_67_method_93_code, y_sl.cls, (some .int), y_sl.name, 1, rm_sl)
theorem ef_sl (m : MethodId) (x0 : Addr) : entryFrame m #[.ref x0] 1 = mkF m 0 #[.val (.ref x0)] [] := by first | (simp [entryFrame, mkF, argsToLocals, Value.category]; done) | rfl
set_option maxRecDepth 65536 in
set_option maxHeartbeats 4000000 in
theorem con_sl {G : Gx} (hG : OGood G) {h0 : Heap} {a b : Addr} {co : Int32} {n : Nat} {vs : List Value} (B : Bq G.Z h0 a b co n vs) : OCon G y_sl jdk_67_method_93_code 1 (some .int) [] rm_sl #[.ref a] [] h0 (fun v h' _ => v = some (.int (Int32.ofNat n)) ∧ h' = h0) := by
  refine OCon.intro (plainFor_of_name pn_3) (own_ew hG) #[.val (.ref a)] (fun m => ef_sl m a) ?_
  intro K c
  replace c : OAt G K M_sl [] 0 0 h0 0 #[.val (.ref a)] [] := c
  replace c := c.aloadN 1 d_sl_0 rfl rfl
  obtain ⟨v, h1, sf, ⟨rfl, hh⟩, c⟩ := c.callU (y := y_al) (C := "java/lang/AbstractStringBuilder") (a := a) (argsL := []) (rest := []) 4 d_sl_1 (con_al hG B) rfl (own_ins B.1 (hG.1 _ (List.mem_of_getElem? (i := 55) rfl))) (hG.1 _ (List.mem_of_getElem? (i := 136) rfl)) (hG.1 _ (List.mem_of_getElem? (i := 72) rfl)) (own_nfo (hG.1 _ (List.mem_of_getElem? (i := 91) rfl)) rfl) (hG.1 _ (List.mem_of_getElem? (i := 132) rfl)) (hG.1 _ (List.mem_of_getElem? (i := 56) rfl)) (hG.1 _ (List.mem_of_getElem? (i := 137) rfl)) (lenOf pd_10 rfl) (by simp) (W := 0) rfl (by decide) (by decide) (by decide) (by decide)
  rw [hh] at c
  replace c := c [] (by simp)
  replace c : OAt G K M_sl [] 0 0 h0 4 #[.val (.ref a)] [.int (Int32.ofNat n)] := c
  exact c.reti (t := .int) d_sl_4 rfl rfl (by simp) (fun sf hs => ⟨rfl, rfl⟩) (by decide) (by decide)
abbrev y_ul : MethodName := ⟨"java/lang/StringUTF16", "length", "([B)I"⟩
theorem d_ul_0 : decode jdk_52_method_6_code 0 = .ok (.aload_n 0, 1) := by decide +kernel
theorem d_ul_1 : decode jdk_52_method_6_code 1 = .ok (.arraylength, 1) := by decide +kernel
theorem d_ul_2 : decode jdk_52_method_6_code 2 = .ok (.iconst 1, 1) := by decide +kernel
theorem d_ul_3 : decode jdk_52_method_6_code 3 = .ok (.ishr, 1) := by decide +kernel
theorem d_ul_4 : decode jdk_52_method_6_code 4 = .ok (.ireturn, 1) := by decide +kernel
abbrev rm_ul : Room := { frames := 0, cells := 0, slots := 0, locals := 0 }
abbrev M_ul : Mx := (jdk_52_method_6_code, y_ul.cls, (some .int), y_ul.name, 1, rm_ul)
theorem ef_ul (m : MethodId) (x0 : Addr) : entryFrame m #[.ref x0] 1 = mkF m 0 #[.val (.ref x0)] [] := by first | (simp [entryFrame, mkF, argsToLocals, Value.category]; done) | rfl
set_option maxRecDepth 65536 in
set_option maxHeartbeats 4000000 in
theorem con_ul {G : Gx} (hG : OGood G) {h0 : Heap} {b : Addr} {k : Nat} {vs : List Value} (Y : Ary G.Z h0 b .byte vs) (hk : vs.length = 2 * k) (hk2 : k ≤ 4000) : OCon G y_ul jdk_52_method_6_code 1 (some .int) [] rm_ul #[.ref b] [] h0 (fun v h' _ => v = some (.int (Int32.ofNat k)) ∧ h' = h0) := by
  refine OCon.intro (plainFor_of_name pn_0) (own_ew hG) #[.val (.ref b)] (fun m => ef_ul m b) ?_
  intro K c
  replace c : OAt G K M_ul [] 0 0 h0 0 #[.val (.ref b)] [] := c
  replace c := c.aloadN 1 d_ul_0 rfl rfl
  replace c := c.arrlen 2 d_ul_1 Y (Int32.ofNat (2 * k)) (by rw [hk])
  replace c := c.iconst 3 d_ul_2 1 (by decide)
  replace c := c.ishr 4 d_ul_3
  rw [own_shr1 k (by omega)] at c
  exact c.reti (t := .int) d_ul_4 rfl rfl (by simp) (fun sf hs => ⟨rfl, rfl⟩) (by decide) (by decide)
abbrev y_cfR : MethodName := ⟨"jdk/internal/util/Preconditions", "checkFromIndexSize", "(IIILjava/util/function/BiFunction;)I"⟩
theorem pn_4 : plainName "jdk/internal/util/Preconditions" = true := by first | (simp [plainName, overriddenIn]; done) | decide +kernel
theorem d_cfR_0 : decode jdk_41_method_13_code 0 = .ok (.iload_n 2, 1) := by decide +kernel
theorem d_cfR_1 : decode jdk_41_method_13_code 1 = .ok (.iload_n 0, 1) := by decide +kernel
theorem d_cfR_2 : decode jdk_41_method_13_code 2 = .ok (.ior, 1) := by decide +kernel
theorem d_cfR_3 : decode jdk_41_method_13_code 3 = .ok (.iload_n 1, 1) := by decide +kernel
theorem d_cfR_4 : decode jdk_41_method_13_code 4 = .ok (.ior, 1) := by decide +kernel
theorem d_cfR_5 : decode jdk_41_method_13_code 5 = .ok (.ifCond .lt 10, 3) := by decide +kernel
theorem d_cfR_8 : decode jdk_41_method_13_code 8 = .ok (.iload_n 1, 1) := by decide +kernel
theorem d_cfR_9 : decode jdk_41_method_13_code 9 = .ok (.iload_n 2, 1) := by decide +kernel
theorem d_cfR_10 : decode jdk_41_method_13_code 10 = .ok (.iload_n 0, 1) := by decide +kernel
theorem d_cfR_11 : decode jdk_41_method_13_code 11 = .ok (.isub, 1) := by decide +kernel
theorem d_cfR_12 : decode jdk_41_method_13_code 12 = .ok (.if_icmp .le 11, 3) := by decide +kernel
theorem d_cfR_23 : decode jdk_41_method_13_code 23 = .ok (.iload_n 0, 1) := by decide +kernel
theorem d_cfR_24 : decode jdk_41_method_13_code 24 = .ok (.ireturn, 1) := by decide +kernel
abbrev rm_cfR : Room := { frames := 0, cells := 0, slots := 0, locals := 0 }
abbrev M_cfR : Mx := (jdk_41_method_13_code, y_cfR.cls, (some .int), y_cfR.name, 4, rm_cfR)
theorem ef_cfR (m : MethodId) (x0 : Int32) (x1 : Int32) (x2 : Int32) (x3 : Addr) : entryFrame m #[.int x0, .int x1, .int x2, .ref x3] 4 = mkF m 0 #[.val (.int x0), .val (.int x1), .val (.int x2), .val (.ref x3)] [] := by first | (simp [entryFrame, mkF, argsToLocals, Value.category]; done) | rfl
set_option maxRecDepth 65536 in
set_option maxHeartbeats 4000000 in
theorem con_cfR {G : Gx} (hG : OGood G) {h0 : Heap} {f : Addr} : OCon G y_cfR jdk_41_method_13_code 4 (some .int) [] rm_cfR #[.int 0, .int 11, .int 16, .ref f] [] h0 (fun v h' _ => v = some (.int 0) ∧ h' = h0) := by
  refine OCon.intro (plainFor_of_name pn_4) (own_ew hG) #[.val (.int 0), .val (.int 11), .val (.int 16), .val (.ref f)] (fun m => ef_cfR m 0 11 16 f) ?_
  intro K c
  replace c : OAt G K M_cfR [] 0 0 h0 0 #[.val (.int 0), .val (.int 11), .val (.int 16), .val (.ref f)] [] := c
  replace c := c.iloadN 1 d_cfR_0 rfl
  replace c := c.iloadN 2 d_cfR_1 rfl
  replace c := c.ior 3 d_cfR_2
  replace c := c.iloadN 4 d_cfR_3 rfl
  replace c := c.ior 5 d_cfR_4
  replace c := c.ifF 8 d_cfR_5 (own_if_lt_f (by decide))
  replace c := c.iloadN 9 d_cfR_8 rfl
  replace c := c.iloadN 10 d_cfR_9 rfl
  replace c := c.iloadN 11 d_cfR_10 rfl
  replace c := c.isub 12 d_cfR_11
  replace c := c.icT 23 d_cfR_12 (own_ic_le_t (by decide))
  replace c := c.iloadN 24 d_cfR_23 rfl
  exact c.reti (t := .int) d_cfR_24 rfl rfl (by simp) (fun sf hs => ⟨rfl, rfl⟩) (by decide) (by decide)
abbrev y_cfN : MethodName := ⟨"jdk/internal/util/Preconditions", "checkFromIndexSize", "(IIILjava/util/function/BiFunction;)I"⟩
theorem d_cfN_0 : decode jdk_41_method_13_code 0 = .ok (.iload_n 2, 1) := by decide +kernel
theorem d_cfN_1 : decode jdk_41_method_13_code 1 = .ok (.iload_n 0, 1) := by decide +kernel
theorem d_cfN_2 : decode jdk_41_method_13_code 2 = .ok (.ior, 1) := by decide +kernel
theorem d_cfN_3 : decode jdk_41_method_13_code 3 = .ok (.iload_n 1, 1) := by decide +kernel
theorem d_cfN_4 : decode jdk_41_method_13_code 4 = .ok (.ior, 1) := by decide +kernel
theorem d_cfN_5 : decode jdk_41_method_13_code 5 = .ok (.ifCond .lt 10, 3) := by decide +kernel
theorem d_cfN_8 : decode jdk_41_method_13_code 8 = .ok (.iload_n 1, 1) := by decide +kernel
theorem d_cfN_9 : decode jdk_41_method_13_code 9 = .ok (.iload_n 2, 1) := by decide +kernel
theorem d_cfN_10 : decode jdk_41_method_13_code 10 = .ok (.iload_n 0, 1) := by decide +kernel
theorem d_cfN_11 : decode jdk_41_method_13_code 11 = .ok (.isub, 1) := by decide +kernel
theorem d_cfN_12 : decode jdk_41_method_13_code 12 = .ok (.if_icmp .le 11, 3) := by decide +kernel
theorem d_cfN_23 : decode jdk_41_method_13_code 23 = .ok (.iload_n 0, 1) := by decide +kernel
theorem d_cfN_24 : decode jdk_41_method_13_code 24 = .ok (.ireturn, 1) := by decide +kernel
abbrev rm_cfN : Room := { frames := 0, cells := 0, slots := 0, locals := 0 }
abbrev M_cfN : Mx := (jdk_41_method_13_code, y_cfN.cls, (some .int), y_cfN.name, 4, rm_cfN)
theorem ef_cfN (m : MethodId) (x0 : Int32) (x1 : Int32) (x2 : Int32) : entryFrame m #[.int x0, .int x1, .int x2, .null] 4 = mkF m 0 #[.val (.int x0), .val (.int x1), .val (.int x2), .val .null] [] := by first | (simp [entryFrame, mkF, argsToLocals, Value.category]; done) | rfl
set_option maxRecDepth 65536 in
set_option maxHeartbeats 4000000 in
theorem con_cfN {G : Gx} (hG : OGood G) {h0 : Heap} : OCon G y_cfN jdk_41_method_13_code 4 (some .int) [] rm_cfN #[.int 0, .int 11, .int 16, .null] [] h0 (fun v h' _ => v = some (.int 0) ∧ h' = h0) := by
  refine OCon.intro (plainFor_of_name pn_4) (own_ew hG) #[.val (.int 0), .val (.int 11), .val (.int 16), .val (.null)] (fun m => ef_cfN m 0 11 16) ?_
  intro K c
  replace c : OAt G K M_cfN [] 0 0 h0 0 #[.val (.int 0), .val (.int 11), .val (.int 16), .val (.null)] [] := c
  replace c := c.iloadN 1 d_cfN_0 rfl
  replace c := c.iloadN 2 d_cfN_1 rfl
  replace c := c.ior 3 d_cfN_2
  replace c := c.iloadN 4 d_cfN_3 rfl
  replace c := c.ior 5 d_cfN_4
  replace c := c.ifF 8 d_cfN_5 (own_if_lt_f (by decide))
  replace c := c.iloadN 9 d_cfN_8 rfl
  replace c := c.iloadN 10 d_cfN_9 rfl
  replace c := c.iloadN 11 d_cfN_10 rfl
  replace c := c.isub 12 d_cfN_11
  replace c := c.icT 23 d_cfN_12 (own_ic_le_t (by decide))
  replace c := c.iloadN 24 d_cfN_23 rfl
  exact c.reti (t := .int) d_cfN_24 rfl rfl (by simp) (fun sf hs => ⟨rfl, rfl⟩) (by decide) (by decide)
abbrev y_cbo : MethodName := ⟨"java/lang/String", "checkBoundsOffCount", "(III)I"⟩
theorem pd_11 : parseMethodDescriptor "(IIILjava/util/function/BiFunction;)I" = some ⟨[.int, .int, .int, (.object "java/util/function/BiFunction")], some .int⟩ := by decide +kernel
theorem d_cbo_0 : decode jdk_42_method_157_code 0 = .ok (.iload_n 0, 1) := by decide +kernel
theorem d_cbo_1 : decode jdk_42_method_157_code 1 = .ok (.iload_n 1, 1) := by decide +kernel
theorem d_cbo_2 : decode jdk_42_method_157_code 2 = .ok (.iload_n 2, 1) := by decide +kernel
theorem d_cbo_3 : decode jdk_42_method_157_code 3 = .ok (.getstatic 1053, 3) := by decide +kernel
theorem d_cbo_6 : decode jdk_42_method_157_code 6 = .ok (.invokestatic 1065, 3) := by decide +kernel
theorem d_cbo_9 : decode jdk_42_method_157_code 9 = .ok (.ireturn, 1) := by decide +kernel
abbrev rm_cbo : Room := { frames := 1, cells := 0, slots := 0, locals := 15 }
abbrev M_cbo : Mx := (jdk_42_method_157_code, y_cbo.cls, (some .int), y_cbo.name, 3, rm_cbo)
theorem ef_cbo (m : MethodId) (x0 : Int32) (x1 : Int32) (x2 : Int32) : entryFrame m #[.int x0, .int x1, .int x2] 3 = mkF m 0 #[.val (.int x0), .val (.int x1), .val (.int x2)] [] := by first | (simp [entryFrame, mkF, argsToLocals, Value.category]; done) | rfl
set_option maxRecDepth 65536 in
set_option maxHeartbeats 4000000 in
theorem con_cbo {G : Gx} (hG : OGood G) {h0 : Heap} : OCon G y_cbo jdk_42_method_157_code 3 (some .int) [] rm_cbo #[.int 0, .int 11, .int 16] [] h0 (fun v h' _ => v = some (.int 0) ∧ h' = h0) := by
  refine OCon.intro (plainFor_of_name pn_1) (own_ew hG) #[.val (.int 0), .val (.int 11), .val (.int 16)] (fun m => ef_cbo m 0 11 16) ?_
  intro K c
  replace c : OAt G K M_cbo [] 0 0 h0 0 #[.val (.int 0), .val (.int 11), .val (.int 16)] [] := c
  replace c := c.iloadN 1 d_cbo_0 rfl
  replace c := c.iloadN 2 d_cbo_1 rfl
  replace c := c.iloadN 3 d_cbo_2 rfl
  obtain ⟨z, hz, hzr⟩ := hG.2.2.2.2.2.2.1
  replace c := c.getS 6 d_cbo_3 (hG.1 _ (List.mem_of_getElem? (i := 181) rfl)) hz
  rcases ref_cases hzr with rfl | ⟨f, rfl⟩
  · skip
    obtain ⟨v, h1, sf, ⟨rfl, hh⟩, c⟩ := c.callS (y := y_cfN) (argsL := [.int 0, .int 11, .int 16, .null]) (rest := []) 9 d_cbo_6 (con_cfN hG) rfl (hG.1 _ (List.mem_of_getElem? (i := 237) rfl)) (hG.1 _ (List.mem_of_getElem? (i := 238) rfl)) (hG.1 _ (List.mem_of_getElem? (i := 182) rfl)) (hG.1 _ (List.mem_of_getElem? (i := 239) rfl)) (lenOf pd_11 rfl) (by simp) (W := 0) rfl (by decide) (by decide) (by decide) (by decide)
    rw [hh] at c
    replace c := c [] (by simp)
    replace c : OAt G K M_cbo [] 0 0 h0 9 #[.val (.int 0), .val (.int 11), .val (.int 16)] [.int 0] := c
    exact c.reti (t := .int) d_cbo_9 rfl rfl (by simp) (fun sf hs => ⟨rfl, rfl⟩) (by decide) (by decide)
  · skip
    obtain ⟨v, h1, sf, ⟨rfl, hh⟩, c⟩ := c.callS (y := y_cfR) (argsL := [.int 0, .int 11, .int 16, .ref f]) (rest := []) 9 d_cbo_6 (con_cfR hG (f := f)) rfl (hG.1 _ (List.mem_of_getElem? (i := 237) rfl)) (hG.1 _ (List.mem_of_getElem? (i := 238) rfl)) (hG.1 _ (List.mem_of_getElem? (i := 182) rfl)) (hG.1 _ (List.mem_of_getElem? (i := 239) rfl)) (lenOf pd_11 rfl) (by simp) (W := 0) rfl (by decide) (by decide) (by decide) (by decide)
    rw [hh] at c
    replace c := c [] (by simp)
    replace c : OAt G K M_cbo [] 0 0 h0 9 #[.val (.int 0), .val (.int 11), .val (.int 16)] [.int 0] := c
    exact c.reti (t := .int) d_cbo_9 rfl rfl (by simp) (fun sf hs => ⟨rfl, rfl⟩) (by decide) (by decide)
abbrev y_ucb : MethodName := ⟨"java/lang/StringUTF16", "checkBoundsOffCount", "(II[B)V"⟩
theorem pd_12 : parseMethodDescriptor "([B)I" = some ⟨[(.array .byte)], some .int⟩ := by decide +kernel
theorem pd_13 : parseMethodDescriptor "(III)I" = some ⟨[.int, .int, .int], some .int⟩ := by decide +kernel
theorem d_ucb_0 : decode jdk_52_method_94_code 0 = .ok (.iload_n 0, 1) := by decide +kernel
theorem d_ucb_1 : decode jdk_52_method_94_code 1 = .ok (.iload_n 1, 1) := by decide +kernel
theorem d_ucb_2 : decode jdk_52_method_94_code 2 = .ok (.aload_n 2, 1) := by decide +kernel
theorem d_ucb_3 : decode jdk_52_method_94_code 3 = .ok (.invokestatic 48, 3) := by decide +kernel
theorem d_ucb_6 : decode jdk_52_method_94_code 6 = .ok (.invokestatic 419, 3) := by decide +kernel
theorem d_ucb_9 : decode jdk_52_method_94_code 9 = .ok (.pop, 1) := by decide +kernel
theorem d_ucb_10 : decode jdk_52_method_94_code 10 = .ok (.return_, 1) := by decide +kernel
abbrev rm_ucb : Room := { frames := 2, cells := 0, slots := 0, locals := 29 }
abbrev M_ucb : Mx := (jdk_52_method_94_code, y_ucb.cls, none, y_ucb.name, 3, rm_ucb)
theorem ef_ucb (m : MethodId) (x0 : Int32) (x1 : Int32) (x2 : Addr) : entryFrame m #[.int x0, .int x1, .ref x2] 3 = mkF m 0 #[.val (.int x0), .val (.int x1), .val (.ref x2)] [] := by first | (simp [entryFrame, mkF, argsToLocals, Value.category]; done) | rfl
set_option maxRecDepth 65536 in
set_option maxHeartbeats 4000000 in
theorem con_ucb {G : Gx} (hG : OGood G) {h0 : Heap} {u : Addr} {vs : List Value} (Y : Ary G.Z h0 u .byte vs) (hv : vs.length = 32) : OCon G y_ucb jdk_52_method_94_code 3 none [] rm_ucb #[.int 0, .int 11, .ref u] [] h0 (fun v h' _ => v = none ∧ h' = h0) := by
  refine OCon.intro (plainFor_of_name pn_0) (own_ew hG) #[.val (.int 0), .val (.int 11), .val (.ref u)] (fun m => ef_ucb m 0 11 u) ?_
  intro K c
  replace c : OAt G K M_ucb [] 0 0 h0 0 #[.val (.int 0), .val (.int 11), .val (.ref u)] [] := c
  replace c := c.iloadN 1 d_ucb_0 rfl
  replace c := c.iloadN 2 d_ucb_1 rfl
  replace c := c.aloadN 3 d_ucb_2 rfl rfl
  obtain ⟨v, h1, sf, ⟨rfl, hh⟩, c⟩ := c.callS (y := y_ul) (argsL := [.ref u]) (rest := [.int 11, .int 0]) 6 d_ucb_3 (con_ul hG (k := 16) Y hv (by decide)) rfl (hG.1 _ (List.mem_of_getElem? (i := 231) rfl)) (hG.1 _ (List.mem_of_getElem? (i := 232) rfl)) (hG.1 _ (List.mem_of_getElem? (i := 188) rfl)) (hG.1 _ (List.mem_of_getElem? (i := 233) rfl)) (lenOf pd_12 rfl) (by simp) (W := 2) rfl (by decide) (by decide) (by decide) (by decide)
  rw [hh] at c
  replace c := c [] (by simp)
  replace c : OAt G K M_ucb [] 0 0 h0 6 #[.val (.int 0), .val (.int 11), .val (.ref u)] [.int (Int32.ofNat 16), .int 11, .int 0] := c
  replace c : OAt G K M_ucb [] 0 0 h0 6 #[.val (.int 0), .val (.int 11), .val (.ref u)] [.int 16, .int 11, .int 0] := c
  obtain ⟨v, h1, sf, ⟨rfl, hh⟩, c⟩ := c.callS (y := y_cbo) (argsL := [.int 0, .int 11, .int 16]) (rest := []) 9 d_ucb_6 (con_cbo hG) rfl (hG.1 _ (List.mem_of_getElem? (i := 234) rfl)) (hG.1 _ (List.mem_of_getElem? (i := 235) rfl)) (hG.1 _ (List.mem_of_getElem? (i := 3) rfl)) (hG.1 _ (List.mem_of_getElem? (i := 236) rfl)) (lenOf pd_13 rfl) (by simp) (W := 0) rfl (by decide) (by decide) (by decide) (by decide)
  rw [hh] at c
  replace c := c [] (by simp)
  replace c : OAt G K M_ucb [] 0 0 h0 9 #[.val (.int 0), .val (.int 11), .val (.ref u)] [.int 0] := c
  replace c := c.pop 10 d_ucb_9 rfl
  exact c.ret d_ucb_10 rfl (fun sf hs => ⟨rfl, rfl⟩) (by decide) (by decide)
abbrev Q_uif (G : Gx) (h0 : Heap) (u : Addr) (cs : List Int32) : Option Value → Heap → (Addr → Prop) → Prop := fun v h' _ => v = none ∧ Keep h0 h' [u] ∧ Ary G.Z h' u .byte (encU cs ++ List.replicate 10 (.int 0))
abbrev y_uif : MethodName := ⟨"java/lang/StringUTF16", "inflate", "([BI[BII)V"⟩
theorem pd_14 : parseMethodDescriptor "(II[B)V" = some ⟨[.int, .int, (.array .byte)], none⟩ := by decide +kernel
theorem d_uif_0 : decode jdk_52_method_86_code 0 = .ok (.iload_n 3, 1) := by decide +kernel
theorem d_uif_1 : decode jdk_52_method_86_code 1 = .ok (.iload 4, 2) := by decide +kernel
theorem d_uif_3 : decode jdk_52_method_86_code 3 = .ok (.aload_n 2, 1) := by decide +kernel
theorem d_uif_4 : decode jdk_52_method_86_code 4 = .ok (.invokestatic 173, 3) := by decide +kernel
theorem d_uif_7 : decode jdk_52_method_86_code 7 = .ok (.iconst 0, 1) := by decide +kernel
theorem d_uif_8 : decode jdk_52_method_86_code 8 = .ok (.istore 5, 2) := by decide +kernel
theorem d_uif_10 : decode jdk_52_method_86_code 10 = .ok (.iload 5, 2) := by decide +kernel
theorem d_uif_12 : decode jdk_52_method_86_code 12 = .ok (.iload 4, 2) := by decide +kernel
theorem d_uif_14 : decode jdk_52_method_86_code 14 = .ok (.if_icmp .ge 27, 3) := by decide +kernel
theorem d_uif_17 : decode jdk_52_method_86_code 17 = .ok (.aload_n 2, 1) := by decide +kernel
theorem d_uif_18 : decode jdk_52_method_86_code 18 = .ok (.iload_n 3, 1) := by decide +kernel
theorem d_uif_19 : decode jdk_52_method_86_code 19 = .ok (.iinc 3 1, 3) := by decide +kernel
theorem d_uif_22 : decode jdk_52_method_86_code 22 = .ok (.aload_n 0, 1) := by decide +kernel
theorem d_uif_23 : decode jdk_52_method_86_code 23 = .ok (.iload_n 1, 1) := by decide +kernel
theorem d_uif_24 : decode jdk_52_method_86_code 24 = .ok (.iinc 1 1, 3) := by decide +kernel
theorem d_uif_27 : decode jdk_52_method_86_code 27 = .ok (.baload, 1) := by decide +kernel
theorem d_uif_28 : decode jdk_52_method_86_code 28 = .ok (.sipush 255, 3) := by decide +kernel
theorem d_uif_31 : decode jdk_52_method_86_code 31 = .ok (.iand, 1) := by decide +kernel
theorem d_uif_32 : decode jdk_52_method_86_code 32 = .ok (.invokestatic 111, 3) := by decide +kernel
theorem d_uif_35 : decode jdk_52_method_86_code 35 = .ok (.iinc 5 1, 3) := by decide +kernel
theorem d_uif_38 : decode jdk_52_method_86_code 38 = .ok (.goto (-28), 3) := by decide +kernel
theorem d_uif_41 : decode jdk_52_method_86_code 41 = .ok (.return_, 1) := by decide +kernel
abbrev rm_uif : Room := { frames := 3, cells := 0, slots := 0, locals := 43 }
abbrev M_uif : Mx := (jdk_52_method_86_code, y_uif.cls, none, y_uif.name, 6, rm_uif)
theorem ef_uif (m : MethodId) (x0 : Addr) (x1 : Int32) (x2 : Addr) (x3 : Int32) (x4 : Int32) : entryFrame m #[.ref x0, .int x1, .ref x2, .int x3, .int x4] 6 = mkF m 0 #[.val (.ref x0), .val (.int x1), .val (.ref x2), .val (.int x3), .val (.int x4), .unset] [] := by first | (simp [entryFrame, mkF, argsToLocals, Value.category]; done) | rfl
set_option maxRecDepth 65536 in
set_option maxHeartbeats 4000000 in
theorem con_uif {G : Gx} (hG : OGood G) {h0 : Heap} {b u : Addr} {cs : List Int32} {vs : List Value} (hu : G.n0 ≤ u) (hne : b ≠ u) (lc : Lat cs) (hc : cs.length = 11) (tk : vs.take cs.length = encL cs) (Y : Ary G.Z h0 b .byte vs) (D : Ary G.Z h0 u .byte (List.replicate 32 (.int 0))) : OCon G y_uif jdk_52_method_86_code 6 none [] rm_uif #[.ref b, .int 0, .ref u, .int 0, .int 11] [u] h0 (Q_uif G h0 u cs) := by
  refine OCon.intro (plainFor_of_name pn_0) (own_ew hG) #[.val (.ref b), .val (.int 0), .val (.ref u), .val (.int 0), .val (.int 11), .unset] (fun m => ef_uif m b 0 u 0 11) ?_
  intro K c
  replace c : OAt G K M_uif [u] 0 0 h0 0 #[.val (.ref b), .val (.int 0), .val (.ref u), .val (.int 0), .val (.int 11), .unset] [] := c
  replace c := c.iloadN 1 d_uif_0 rfl
  replace c := c.iload 3 d_uif_1 rfl
  replace c := c.aloadN 4 d_uif_3 rfl rfl
  obtain ⟨v, h1, sf, ⟨rfl, hh⟩, c⟩ := c.callS (y := y_ucb) (argsL := [.int 0, .int 11, .ref u]) (rest := []) 7 d_uif_4 (con_ucb hG D (by simp)) rfl (hG.1 _ (List.mem_of_getElem? (i := 228) rfl)) (hG.1 _ (List.mem_of_getElem? (i := 229) rfl)) (hG.1 _ (List.mem_of_getElem? (i := 188) rfl)) (hG.1 _ (List.mem_of_getElem? (i := 230) rfl)) (lenOf pd_14 rfl) (by simp) (W := 0) rfl (by decide) (by decide) (by decide) (by decide)
  rw [hh] at c
  replace c := c [] (by simp)
  replace c : OAt G K M_uif [u] 0 0 h0 7 #[.val (.ref b), .val (.int 0), .val (.ref u), .val (.int 0), .val (.int 11), .unset] [] := c
  replace c := c.iconst 8 d_uif_7 0 (by decide)
  replace c := c.istore 10 d_uif_8 #[.val (.ref b), .val (.int 0), .val (.ref u), .val (.int 0), .val (.int 11), .val (.int 0)] rfl
  have hel0 : True := trivial
  have loop : ∀ (r i : Nat), i + r = 11 → ∀ (h1 : Heap), Keep h0 h1 [u] → Ary G.Z h1 u .byte (encU (cs.take i) ++ List.replicate (2 * (r + 5)) (.int 0)) → OAt G K M_uif [u] 0 0 h1 10 #[.val (.ref b), .val (.int (Int32.ofNat i)), .val (.ref u), .val (.int (Int32.ofNat i)), .val (.int 11), .val (.int (Int32.ofNat i))] [] → ODone G K rm_uif (Q_uif G h0 u cs) := by
    intro r
    induction r with
    | zero =>
      intro i hi h1 K1 D1 c
      obtain rfl : i = 11 := by omega
      replace c := c.iload 12 d_uif_10 rfl
      replace c := c.iload 14 d_uif_12 rfl
      replace c := c.icT 41 d_uif_14 (own_ic_ge_t (by decide))
      rw [List.take_of_length_le (by omega)] at D1
      exact c.ret d_uif_41 rfl (fun sf hs => ⟨rfl, K1, D1⟩) (by decide) (by decide)
    | succ r ih =>
      intro i hi h1 K1 D1 c
      obtain ⟨ci, hci⟩ : ∃ ci, cs[i]? = some ci := ⟨cs[i], List.getElem?_eq_getElem (by omega)⟩
      have rci := lc ci (List.mem_of_getElem? hci)
      have hvi : vs[i]? = some (.int (lo8 ci)) := by have e := congrArg (fun l => l[i]?) tk; simp only [List.getElem?_take, encL, List.getElem?_map, hci, if_pos (show i < cs.length by omega)] at e; simpa using e
      have Y1 := Y.keep K1 (by simpa using hne)
      replace c := c.iload 12 d_uif_10 rfl
      replace c := c.iload 14 d_uif_12 rfl
      replace c := c.icF 17 d_uif_14 (own_ic_ge_f (own_lt (i := i) (n := 11) (by omega) (by decide)))
      replace c := c.aloadN 18 d_uif_17 rfl rfl
      replace c := c.iloadN 19 d_uif_18 rfl
      replace c := c.iinc 22 d_uif_19 rfl (Int32.ofNat (i + 1)) (own_succ i) #[.val (.ref b), .val (.int (Int32.ofNat i)), .val (.ref u), .val (.int (Int32.ofNat (i + 1))), .val (.int 11), .val (.int (Int32.ofNat i))] rfl
      replace c := c.aloadN 23 d_uif_22 rfl rfl
      replace c := c.iloadN 24 d_uif_23 rfl
      replace c := c.iinc 27 d_uif_24 rfl (Int32.ofNat (i + 1)) (own_succ i) #[.val (.ref b), .val (.int (Int32.ofNat (i + 1))), .val (.ref u), .val (.int (Int32.ofNat (i + 1))), .val (.int 11), .val (.int (Int32.ofNat i))] rfl
      replace c := c.baload 28 d_uif_27 Y1 (i) rfl (.int (lo8 ci)) hvi
      replace c := c.sipush 31 d_uif_28 255 (by decide)
      replace c := c.iand 32 d_uif_31
      rw [own_mask rci] at c
      have hel : (encU (cs.take i)).length = 2 * i := by rw [encU_len]; simp; omega
      obtain ⟨v, h2, sf, ⟨rfl, K2, D2⟩, c⟩ := c.callS (y := y_putc) (argsL := [.ref u, .int (Int32.ofNat i), .int ci]) (rest := []) 35 d_uif_32 (con_putc hG hu D1 (by rw [List.length_append, hel, List.length_replicate]; omega) (by omega)) rfl (hG.1 _ (List.mem_of_getElem? (i := 206) rfl)) (hG.1 _ (List.mem_of_getElem? (i := 207) rfl)) (hG.1 _ (List.mem_of_getElem? (i := 188) rfl)) (hG.1 _ (List.mem_of_getElem? (i := 208) rfl)) (lenOf pd_2 rfl) (by simp) (W := 0) rfl (by decide) (by decide) (by decide) (by decide)
      replace c := c [] (by simp)
      replace c : OAt G K M_uif [u] 0 0 h2 35 #[.val (.ref b), .val (.int (Int32.ofNat (i + 1))), .val (.ref u), .val (.int (Int32.ofNat (i + 1))), .val (.int 11), .val (.int (Int32.ofNat i))] [] := c
      replace c := c.iinc 38 d_uif_35 rfl (Int32.ofNat (i + 1)) (own_succ i) #[.val (.ref b), .val (.int (Int32.ofNat (i + 1))), .val (.ref u), .val (.int (Int32.ofNat (i + 1))), .val (.int 11), .val (.int (Int32.ofNat (i + 1)))] rfl
      replace c := c.goto 10 d_uif_38
      have hfill : ((encU (cs.take i) ++ List.replicate (2 * (r + 5 + 1)) (Value.int 0)).set (2 * i) (.int (lo8 ci))).set (2 * i + 1) (.int (lo8 (ci >>> ((8 : Int32) &&& 31)))) = encU (cs.take (i + 1)) ++ List.replicate (2 * (r + 5)) (.int 0) := own_fillU hci hel
      rw [show r + 1 + 5 = r + 5 + 1 by omega, hfill] at D2
      exact ih (i + 1) (by omega) h2 (K1.trans K2 (fun x hx => Or.inl hx)) D2 c
  replace c : OAt G K M_uif [u] 0 0 h0 10 #[.val (.ref b), .val (.int (Int32.ofNat 0)), .val (.ref u), .val (.int (Int32.ofNat 0)), .val (.int 11), .val (.int (Int32.ofNat 0))] [] := c
  exact loop 11 0 (by omega) h0 (Keep.refl _ _) (by simpa [encU] using D) c
abbrev y_lif : MethodName := ⟨"java/lang/StringLatin1", "inflate", "([BI[BII)V"⟩
theorem pd_15 : parseMethodDescriptor "([BI[BII)V" = some ⟨[(.array .byte), .int, (.array .byte), .int, .int], none⟩ := by decide +kernel
theorem pn_5 : plainName "java/lang/StringLatin1" = true := by first | (simp [plainName, overriddenIn]; done) | decide +kernel
theorem d_lif_0 : decode jdk_43_method_50_code 0 = .ok (.aload_n 0, 1) := by decide +kernel
theorem d_lif_1 : decode jdk_43_method_50_code 1 = .ok (.iload_n 1, 1) := by decide +kernel
theorem d_lif_2 : decode jdk_43_method_50_code 2 = .ok (.aload_n 2, 1) := by decide +kernel
theorem d_lif_3 : decode jdk_43_method_50_code 3 = .ok (.iload_n 3, 1) := by decide +kernel
theorem d_lif_4 : decode jdk_43_method_50_code 4 = .ok (.iload 4, 2) := by decide +kernel
theorem d_lif_6 : decode jdk_43_method_50_code 6 = .ok (.invokestatic 240, 3) := by decide +kernel
theorem d_lif_9 : decode jdk_43_method_50_code 9 = .ok (.return_, 1) := by decide +kernel
abbrev rm_lif : Room := { frames := 4, cells := 0, slots := 0, locals := 60 }
abbrev M_lif : Mx := (jdk_43_method_50_code, y_lif.cls, none, y_lif.name, 5, rm_lif)
theorem ef_lif (m : MethodId) (x0 : Addr) (x1 : Int32) (x2 : Addr) (x3 : Int32) (x4 : Int32) : entryFrame m #[.ref x0, .int x1, .ref x2, .int x3, .int x4] 5 = mkF m 0 #[.val (.ref x0), .val (.int x1), .val (.ref x2), .val (.int x3), .val (.int x4)] [] := by first | (simp [entryFrame, mkF, argsToLocals, Value.category]; done) | rfl
set_option maxRecDepth 65536 in
set_option maxHeartbeats 4000000 in
theorem con_lif {G : Gx} (hG : OGood G) {h0 : Heap} {b u : Addr} {cs : List Int32} {vs : List Value} (hu : G.n0 ≤ u) (hne : b ≠ u) (lc : Lat cs) (hc : cs.length = 11) (tk : vs.take cs.length = encL cs) (Y : Ary G.Z h0 b .byte vs) (D : Ary G.Z h0 u .byte (List.replicate 32 (.int 0))) : OCon G y_lif jdk_43_method_50_code 5 none [] rm_lif #[.ref b, .int 0, .ref u, .int 0, .int 11] [u] h0 (Q_uif G h0 u cs) := by
  refine OCon.intro (plainFor_of_name pn_5) (own_ew hG) #[.val (.ref b), .val (.int 0), .val (.ref u), .val (.int 0), .val (.int 11)] (fun m => ef_lif m b 0 u 0 11) ?_
  intro K c
  replace c : OAt G K M_lif [u] 0 0 h0 0 #[.val (.ref b), .val (.int 0), .val (.ref u), .val (.int 0), .val (.int 11)] [] := c
  replace c := c.aloadN 1 d_lif_0 rfl rfl
  replace c := c.iloadN 2 d_lif_1 rfl
  replace c := c.aloadN 3 d_lif_2 rfl rfl
  replace c := c.iloadN 4 d_lif_3 rfl
  replace c := c.iload 6 d_lif_4 rfl
  obtain ⟨v, h1, sf, ⟨rfl, K1, D1⟩, c⟩ := c.callS (y := y_uif) (argsL := [.ref b, .int 0, .ref u, .int 0, .int 11]) (rest := []) 9 d_lif_6 (con_uif hG hu hne lc hc tk Y D) rfl (hG.1 _ (List.mem_of_getElem? (i := 225) rfl)) (hG.1 _ (List.mem_of_getElem? (i := 226) rfl)) (hG.1 _ (List.mem_of_getElem? (i := 188) rfl)) (hG.1 _ (List.mem_of_getElem? (i := 227) rfl)) (lenOf pd_15 rfl) (by simp) (W := 0) rfl (by decide) (by decide) (by decide) (by decide)
  replace c := c [] (by simp)
  replace c : OAt G K M_lif [u] 0 0 h1 9 #[.val (.ref b), .val (.int 0), .val (.ref u), .val (.int 0), .val (.int 11)] [] := c
  exact c.ret d_lif_9 rfl (fun sf hs => ⟨rfl, K1, D1⟩) (by decide) (by decide)
abbrev y_inf : MethodName := ⟨"java/lang/AbstractStringBuilder", "inflate", "()V"⟩
theorem pd_16 : parseMethodDescriptor "()Z" = some ⟨[], some .boolean⟩ := by decide +kernel
theorem d_inf_0 : decode jdk_68_method_11_code 0 = .ok (.aload_n 0, 1) := by decide +kernel
theorem d_inf_1 : decode jdk_68_method_11_code 1 = .ok (.invokevirtual 83, 3) := by decide +kernel
theorem d_inf_4 : decode jdk_68_method_11_code 4 = .ok (.ifCond .ne 4, 3) := by decide +kernel
theorem d_inf_8 : decode jdk_68_method_11_code 8 = .ok (.aload_n 0, 1) := by decide +kernel
theorem d_inf_9 : decode jdk_68_method_11_code 9 = .ok (.getfield 15, 3) := by decide +kernel
theorem d_inf_12 : decode jdk_68_method_11_code 12 = .ok (.arraylength, 1) := by decide +kernel
theorem d_inf_13 : decode jdk_68_method_11_code 13 = .ok (.invokestatic 26, 3) := by decide +kernel
theorem d_inf_16 : decode jdk_68_method_11_code 16 = .ok (.astore_n 1, 1) := by decide +kernel
theorem d_inf_17 : decode jdk_68_method_11_code 17 = .ok (.aload_n 0, 1) := by decide +kernel
theorem d_inf_18 : decode jdk_68_method_11_code 18 = .ok (.getfield 15, 3) := by decide +kernel
theorem d_inf_21 : decode jdk_68_method_11_code 21 = .ok (.iconst 0, 1) := by decide +kernel
theorem d_inf_22 : decode jdk_68_method_11_code 22 = .ok (.aload_n 1, 1) := by decide +kernel
theorem d_inf_23 : decode jdk_68_method_11_code 23 = .ok (.iconst 0, 1) := by decide +kernel
theorem d_inf_24 : decode jdk_68_method_11_code 24 = .ok (.aload_n 0, 1) := by decide +kernel
theorem d_inf_25 : decode jdk_68_method_11_code 25 = .ok (.getfield 79, 3) := by decide +kernel
theorem d_inf_28 : decode jdk_68_method_11_code 28 = .ok (.invokestatic 125, 3) := by decide +kernel
theorem d_inf_31 : decode jdk_68_method_11_code 31 = .ok (.aload_n 0, 1) := by decide +kernel
theorem d_inf_32 : decode jdk_68_method_11_code 32 = .ok (.aload_n 1, 1) := by decide +kernel
theorem d_inf_33 : decode jdk_68_method_11_code 33 = .ok (.putfield 15, 3) := by decide +kernel
theorem d_inf_36 : decode jdk_68_method_11_code 36 = .ok (.aload_n 0, 1) := by decide +kernel
theorem d_inf_37 : decode jdk_68_method_11_code 37 = .ok (.iconst 1, 1) := by decide +kernel
theorem d_inf_38 : decode jdk_68_method_11_code 38 = .ok (.putfield 22, 3) := by decide +kernel
theorem d_inf_41 : decode jdk_68_method_11_code 41 = .ok (.return_, 1) := by decide +kernel
abbrev rm_inf : Room := { frames := 5, cells := 1, slots := 32, locals := 76 }
abbrev M_inf : Mx := (jdk_68_method_11_code, y_inf.cls, none, y_inf.name, 2, rm_inf)
theorem ef_inf (m : MethodId) (x0 : Addr) : entryFrame m #[.ref x0] 2 = mkF m 0 #[.val (.ref x0), .unset] [] := by first | (simp [entryFrame, mkF, argsToLocals, Value.category]; done) | rfl
set_option maxRecDepth 65536 in
set_option maxHeartbeats 4000000 in
theorem con_inf {G : Gx} (hG : OGood G) {h0 : Heap} {a b : Addr} {cs : List Int32} {vs : List Value} (ha : G.n0 ≤ a) (B : Bq G.Z h0 a b 0 11 vs) (lc : Lat cs) (hc : cs.length = 11) (hv : vs.length = 16) (tk : vs.take cs.length = encL cs) : OCon G y_inf jdk_68_method_11_code 2 none [] rm_inf #[.ref a] [a] h0 (fun v h' sf => v = none ∧ Keep h0 h' [a] ∧ ∃ b' : Addr, h0.size ≤ b' ∧ G.n0 ≤ b' ∧ sf b' ∧ Bq G.Z h' a b' 1 11 (encU cs ++ List.replicate 10 (.int 0))) := by
  refine OCon.intro (plainFor_of_name pn_2) (own_ew hG) #[.val (.ref a), .unset] (fun m => ef_inf m a) ?_
  intro K c
  replace c : OAt G K M_inf [a] 0 0 h0 0 #[.val (.ref a), .unset] [] := c
  obtain ⟨E, V, C, N, L, Y⟩ := id B
  replace c := c.aloadN 1 d_inf_0 rfl rfl
  obtain ⟨v, h1, sf, ⟨rfl, hh⟩, c⟩ := c.callV (y := (⟨"java/lang/AbstractStringBuilder", "isLatin1", "()Z"⟩ : MethodName)) (z := y_il) (C := "java/lang/StringBuilder") (a := a) (argsL := []) (rest := []) 4 d_inf_1 (con_il hG B (Or.inl rfl)) rfl E (hG.1 _ (List.mem_of_getElem? (i := 220) rfl)) (hG.1 _ (List.mem_of_getElem? (i := 139) rfl)) (own_nf (hG.1 _ (List.mem_of_getElem? (i := 141) rfl))) (hG.1 _ (List.mem_of_getElem? (i := 141) rfl)) (hG.1 _ (List.mem_of_getElem? (i := 140) rfl)) (hG.1 _ (List.mem_of_getElem? (i := 56) rfl)) (hG.1 _ (List.mem_of_getElem? (i := 142) rfl)) (lenOf pd_16 rfl) (by simp) (W := 0) rfl (by decide) (by decide) (by decide) (by decide)
  rw [hh] at c
  replace c := c [] (by simp)
  replace c : OAt G K M_inf [a] 0 0 h0 4 #[.val (.ref a), .unset] [.int (1 - 0)] := c
  replace c := c.ifT 8 d_inf_4 (own_if_ne_t (by decide))
  replace c := c.aloadN 9 d_inf_8 rfl rfl
  replace c := c.getF 12 d_inf_9 (hG.1 _ (List.mem_of_getElem? (i := 60) rfl)) V
  replace c := c.arrlen 13 d_inf_12 Y (Int32.ofNat 16) (by rw [hv])
  obtain ⟨v, h_u, sf, ⟨u, rfl, s_u, g_u, x_u, Y_u, hsf⟩, c⟩ := c.callS (y := y_nbf) (argsL := [.int (Int32.ofNat 16)]) (rest := []) 16 d_inf_13 (con_nbf hG (n := 16) (by decide)) rfl (hG.1 _ (List.mem_of_getElem? (i := 221) rfl)) (hG.1 _ (List.mem_of_getElem? (i := 200) rfl)) (hG.1 _ (List.mem_of_getElem? (i := 188) rfl)) (hG.1 _ (List.mem_of_getElem? (i := 201) rfl)) (lenOf pd_1 rfl) (by simp) (W := 0) rfl (by decide) (by decide) (by decide) (by decide)
  replace c := c [u] (by simpa using hsf)
  replace c : OAt G K M_inf [u, a] 1 32 h_u 16 #[.val (.ref a), .unset] [.ref u] := c
  have nu : u ≠ a := by rw [s_u]; exact Nat.ne_of_gt E.lt
  have nb : b ≠ u := by rw [s_u]; exact Nat.ne_of_lt Y.lt
  have E1 := E.ext x_u
  have V1 := V.ext x_u
  have C1 := C.ext x_u
  have N1 := N.ext x_u
  have L1 := L.ext x_u
  have Y1 := Y.ext x_u
  replace c := c.astoreN 17 d_inf_16 rfl #[.val (.ref a), .val (.ref u)] rfl
  replace c := c.aloadN 18 d_inf_17 rfl rfl
  replace c := c.getF 21 d_inf_18 (hG.1 _ (List.mem_of_getElem? (i := 60) rfl)) V1
  replace c := c.iconst 22 d_inf_21 0 (by decide)
  replace c := c.aloadN 23 d_inf_22 rfl rfl
  replace c := c.iconst 24 d_inf_23 0 (by decide)
  replace c := c.aloadN 25 d_inf_24 rfl rfl
  replace c := c.getF 28 d_inf_25 (hG.1 _ (List.mem_of_getElem? (i := 86) rfl)) N1
  replace c : OAt G K M_inf [u, a] 1 32 h_u 28 #[.val (.ref a), .val (.ref u)] [.int 11, .int 0, .ref u, .int 0, .ref b] := c
  obtain ⟨v, h2, sf, ⟨rfl, K2, D2⟩, c⟩ := c.callS (y := y_lif) (argsL := [.ref b, .int 0, .ref u, .int 0, .int 11]) (rest := []) 31 d_inf_28 (con_lif hG g_u nb lc hc tk Y1 Y_u) rfl (hG.1 _ (List.mem_of_getElem? (i := 222) rfl)) (hG.1 _ (List.mem_of_getElem? (i := 223) rfl)) (hG.1 _ (List.mem_of_getElem? (i := 176) rfl)) (hG.1 _ (List.mem_of_getElem? (i := 224) rfl)) (lenOf pd_15 rfl) (by simp) (W := 0) rfl (by decide) (by decide) (by decide) (by decide)
  replace c := c [] (by simp)
  replace c : OAt G K M_inf [u, a] 1 32 h2 31 #[.val (.ref a), .val (.ref u)] [] := c
  have E2 := E1.keep K2
  have V2 := V1.keep K2 (by simpa using nu.symm)
  have C2 := C1.keep K2 (by simpa using nu.symm)
  have N2 := N1.keep K2 (by simpa using nu.symm)
  have L2 := L1.keep K2 (by simpa using nu.symm)
  replace c := c.aloadN 32 d_inf_31 rfl rfl
  replace c := c.aloadN 33 d_inf_32 rfl rfl
  obtain ⟨hp1, Wp1, c⟩ := c.putF (C := "java/lang/StringBuilder") (O := "java/lang/AbstractStringBuilder") (n := "value") (d := "[B") (ty := (.array .byte)) 36 d_inf_33 (hG.1 _ (List.mem_of_getElem? (i := 60) rfl)) V2 E2 (Or.inl (hG.1 _ (List.mem_of_getElem? (i := 61) rfl))) (hG.1 _ (List.mem_of_getElem? (i := 47) rfl)) (by decide) rfl (by first | rfl | decide) ha (Or.inl (by simp))
  replace c := c.aloadN 37 d_inf_36 rfl rfl
  replace c := c.iconst 38 d_inf_37 1 (by decide)
  obtain ⟨hp2, Wp2, c⟩ := c.putF (C := "java/lang/StringBuilder") (O := "java/lang/AbstractStringBuilder") (n := "coder") (d := "B") (ty := .byte) 41 d_inf_38 (hG.1 _ (List.mem_of_getElem? (i := 62) rfl)) (C2.other Wp1 (Or.inr (own_n10 hG))) (E2.wr Wp1) (Or.inl (hG.1 _ (List.mem_of_getElem? (i := 63) rfl))) (hG.1 _ (List.mem_of_getElem? (i := 47) rfl)) (by decide) rfl (by first | rfl | decide) ha (Or.inl (by simp))
  exact c.ret d_inf_41 rfl (fun sf hs => ⟨rfl, ((((Keep.refl h0 [a]).ext x_u).trans K2 (fun x hx => by cases List.mem_singleton.mp hx; exact Or.inr (Nat.le_of_eq s_u.symm))).wr Wp1 (Or.inl (by simp))).wr Wp2 (Or.inl (by simp)), u, Nat.le_of_eq s_u.symm, g_u, hs u (by simp), (E2.wr Wp1).wr Wp2, (V2.same Wp1).other Wp2 (Or.inr (own_n01 hG)), (C2.other Wp1 (Or.inr (own_n10 hG))).same Wp2, (N2.other Wp1 (Or.inr (own_n20 hG))).other Wp2 (Or.inr (own_n21 hG)), (L2.other Wp1 (Or.inr (own_n30 hG))).other Wp2 (Or.inr (own_n31 hG)), (D2.other Wp1 nu).other Wp2 nu⟩) (by decide) (by decide)
abbrev y_ifn : MethodName := ⟨"java/lang/AbstractStringBuilder", "inflateIfNeededFor", "(Ljava/lang/String;)V"⟩
theorem pd_17 : parseMethodDescriptor "()V" = some ⟨[], none⟩ := by decide +kernel
theorem d_ifn_0 : decode jdk_68_method_71_code 0 = .ok (.getstatic 18, 3) := by decide +kernel
theorem d_ifn_3 : decode jdk_68_method_71_code 3 = .ok (.ifCond .eq 18, 3) := by decide +kernel
theorem d_ifn_6 : decode jdk_68_method_71_code 6 = .ok (.aload_n 0, 1) := by decide +kernel
theorem d_ifn_7 : decode jdk_68_method_71_code 7 = .ok (.getfield 22, 3) := by decide +kernel
theorem d_ifn_10 : decode jdk_68_method_71_code 10 = .ok (.aload_n 1, 1) := by decide +kernel
theorem d_ifn_11 : decode jdk_68_method_71_code 11 = .ok (.invokevirtual 40, 3) := by decide +kernel
theorem d_ifn_14 : decode jdk_68_method_71_code 14 = .ok (.if_icmp .eq 7, 3) := by decide +kernel
theorem d_ifn_17 : decode jdk_68_method_71_code 17 = .ok (.aload_n 0, 1) := by decide +kernel
theorem d_ifn_18 : decode jdk_68_method_71_code 18 = .ok (.invokevirtual 195, 3) := by decide +kernel
theorem d_ifn_21 : decode jdk_68_method_71_code 21 = .ok (.return_, 1) := by decide +kernel
abbrev rm_ifn : Room := { frames := 6, cells := 1, slots := 32, locals := 89 }
abbrev M_ifn : Mx := (jdk_68_method_71_code, y_ifn.cls, none, y_ifn.name, 2, rm_ifn)
theorem ef_ifn (m : MethodId) (x0 : Addr) (x1 : Addr) : entryFrame m #[.ref x0, .ref x1] 2 = mkF m 0 #[.val (.ref x0), .val (.ref x1)] [] := by first | (simp [entryFrame, mkF, argsToLocals, Value.category]; done) | rfl
set_option maxRecDepth 65536 in
set_option maxHeartbeats 4000000 in
theorem con_ifn {G : Gx} (hG : OGood G) {h0 : Heap} {a b t tb : Addr} {nn : Nat} {cs ts : List Int32} {vs : List Value} (ha : G.n0 ≤ a) (hb : G.n0 ≤ b) (B : Bq G.Z h0 a b 0 cs.length vs) (lc : Lat cs) (hv : vs.length = 16) (tk : vs.take cs.length = encL cs) (T : OSr G.Z h0 nn t tb ts) (hU : ¬ Lat ts → cs.length = 11) (h3 : ts.length ≤ 11) (h4 : ¬ Lat ts → ts.length ≤ 3) (hn : cs.length + ts.length ≤ 14) (nb : tb ≠ b) : OCon G y_ifn jdk_68_method_71_code 2 none [] rm_ifn #[.ref a, .ref t] [a, b] h0 (fun v h' sf => v = none ∧ Keep h0 h' [a] ∧ ∃ (co : Int32) (b' : Addr) (vs' : List Value), G.n0 ≤ b' ∧ sf b' ∧ (b' = b ∨ h0.size ≤ b') ∧ Bq G.Z h' a b' co cs.length vs' ∧ ((co = 0 ∧ Lat ts ∧ b' = b ∧ h' = h0 ∧ vs' = vs) ∨ (co = 1 ∧ Chs ts ∧ (∃ c ∈ ts, 255 < c.toInt) ∧ vs' = encU cs ++ List.replicate 10 (.int 0)))) := by
  refine OCon.intro (plainFor_of_name pn_2) (own_ew hG) #[.val (.ref a), .val (.ref t)] (fun m => ef_ifn m a t) ?_
  intro K c
  replace c : OAt G K M_ifn [a, b] 0 0 h0 0 #[.val (.ref a), .val (.ref t)] [] := c
  obtain ⟨z, hz, hz0⟩ := hG.2.2.1
  replace c := c.getS 3 d_ifn_0 (hG.1 _ (List.mem_of_getElem? (i := 59) rfl)) hz
  replace c := c.ifF 6 d_ifn_3 (own_if_eq_f hz0)
  replace c := c.aloadN 7 d_ifn_6 rfl rfl
  replace c := c.getF 10 d_ifn_7 (hG.1 _ (List.mem_of_getElem? (i := 62) rfl)) B.2.2.1
  replace c := c.aloadN 11 d_ifn_10 rfl rfl
  rcases T with ⟨lt, T⟩ | ⟨ct, big, T⟩
  · skip
    obtain ⟨v, h1, sf, ⟨rfl, hh⟩, c⟩ := c.callV (y := (⟨"java/lang/String", "coder", "()B"⟩ : MethodName)) (z := y_coder) (C := "java/lang/String") (a := t) (argsL := []) (rest := [.int 0]) 14 d_ifn_11 (con_coder hG (Or.inl rfl) T.strB) rfl T.1 (hG.1 _ (List.mem_of_getElem? (i := 103) rfl)) (hG.1 _ (List.mem_of_getElem? (i := 81) rfl)) (own_nf (hG.1 _ (List.mem_of_getElem? (i := 83) rfl))) (hG.1 _ (List.mem_of_getElem? (i := 83) rfl)) (hG.1 _ (List.mem_of_getElem? (i := 82) rfl)) (hG.1 _ (List.mem_of_getElem? (i := 3) rfl)) (hG.1 _ (List.mem_of_getElem? (i := 84) rfl)) (lenOf pd_8 rfl) (by simp) (W := 1) rfl (by decide) (by decide) (by decide) (by decide)
    rw [hh] at c
    replace c := c [] (by simp)
    replace c : OAt G K M_ifn [a, b] 0 0 h0 14 #[.val (.ref a), .val (.ref t)] [.int 0, .int 0] := c
    replace c := c.icT 21 d_ifn_14 (own_ic_eq_t rfl)
    exact c.ret d_ifn_21 rfl (fun sf hs => ⟨rfl, Keep.refl _ _, 0, b, vs, hb, hs b (by simp), Or.inl rfl, B, Or.inl ⟨rfl, lt, rfl, rfl, rfl⟩⟩) (by decide) (by decide)
  · skip
    have hc := hU (own_nlat big)
    rw [hc] at B
    obtain ⟨v, h1, sf, ⟨rfl, hh⟩, c⟩ := c.callV (y := (⟨"java/lang/String", "coder", "()B"⟩ : MethodName)) (z := y_coder) (C := "java/lang/String") (a := t) (argsL := []) (rest := [.int 0]) 14 d_ifn_11 (con_coder hG (Or.inr rfl) T.strB) rfl T.1 (hG.1 _ (List.mem_of_getElem? (i := 103) rfl)) (hG.1 _ (List.mem_of_getElem? (i := 81) rfl)) (own_nf (hG.1 _ (List.mem_of_getElem? (i := 83) rfl))) (hG.1 _ (List.mem_of_getElem? (i := 83) rfl)) (hG.1 _ (List.mem_of_getElem? (i := 82) rfl)) (hG.1 _ (List.mem_of_getElem? (i := 3) rfl)) (hG.1 _ (List.mem_of_getElem? (i := 84) rfl)) (lenOf pd_8 rfl) (by simp) (W := 1) rfl (by decide) (by decide) (by decide) (by decide)
    rw [hh] at c
    replace c := c [] (by simp)
    replace c : OAt G K M_ifn [a, b] 0 0 h0 14 #[.val (.ref a), .val (.ref t)] [.int 1, .int 0] := c
    replace c := c.icF 17 d_ifn_14 (own_ic_eq_f (by decide))
    replace c := c.aloadN 18 d_ifn_17 rfl rfl
    obtain ⟨v, h1, sf, ⟨rfl, K1, b1, o1, g1, q1, B1⟩, c⟩ := c.callP (y := y_inf) (C := "java/lang/StringBuilder") (a := a) (argsL := []) (rest := []) 21 d_ifn_18 (con_inf hG ha B lc hc hv tk) rfl B.1 (hG.1 _ (List.mem_of_getElem? (i := 215) rfl)) (hG.1 _ (List.mem_of_getElem? (i := 217) rfl)) (own_nf (hG.1 _ (List.mem_of_getElem? (i := 218) rfl))) (hG.1 _ (List.mem_of_getElem? (i := 216) rfl)) (hG.1 _ (List.mem_of_getElem? (i := 56) rfl)) (hG.1 _ (List.mem_of_getElem? (i := 219) rfl)) (lenOf pd_17 rfl) (by simp) (W := 0) rfl (by decide) (by decide) (by decide) (by decide)
    replace c := c [b1] (by simpa using q1)
    replace c : OAt G K M_ifn [b1, a, b] 1 32 h1 21 #[.val (.ref a), .val (.ref t)] [] := c
    exact c.ret d_ifn_21 rfl (fun sf hs => ⟨rfl, K1, 1, b1, _, g1, hs b1 (by simp), Or.inr o1, by rw [hc]; exact B1, Or.inr ⟨rfl, ct, big, rfl⟩⟩) (by decide) (by decide)
abbrev y_gtb : MethodName := ⟨"java/lang/String", "getBytes", "([BIB)V"⟩
theorem d_gtb_0 : decode jdk_42_method_147_code 0 = .ok (.aload_n 0, 1) := by decide +kernel
theorem d_gtb_1 : decode jdk_42_method_147_code 1 = .ok (.invokevirtual 335, 3) := by decide +kernel
theorem d_gtb_4 : decode jdk_42_method_147_code 4 = .ok (.iload_n 3, 1) := by decide +kernel
theorem d_gtb_5 : decode jdk_42_method_147_code 5 = .ok (.if_icmp .ne 23, 3) := by decide +kernel
theorem d_gtb_8 : decode jdk_42_method_147_code 8 = .ok (.aload_n 0, 1) := by decide +kernel
theorem d_gtb_9 : decode jdk_42_method_147_code 9 = .ok (.getfield 9, 3) := by decide +kernel
theorem d_gtb_12 : decode jdk_42_method_147_code 12 = .ok (.iconst 0, 1) := by decide +kernel
theorem d_gtb_13 : decode jdk_42_method_147_code 13 = .ok (.aload_n 1, 1) := by decide +kernel
theorem d_gtb_14 : decode jdk_42_method_147_code 14 = .ok (.iload_n 2, 1) := by decide +kernel
theorem d_gtb_15 : decode jdk_42_method_147_code 15 = .ok (.iload_n 3, 1) := by decide +kernel
theorem d_gtb_16 : decode jdk_42_method_147_code 16 = .ok (.ishl, 1) := by decide +kernel
theorem d_gtb_17 : decode jdk_42_method_147_code 17 = .ok (.aload_n 0, 1) := by decide +kernel
theorem d_gtb_18 : decode jdk_42_method_147_code 18 = .ok (.getfield 9, 3) := by decide +kernel
theorem d_gtb_21 : decode jdk_42_method_147_code 21 = .ok (.arraylength, 1) := by decide +kernel
theorem d_gtb_22 : decode jdk_42_method_147_code 22 = .ok (.invokestatic 212, 3) := by decide +kernel
theorem d_gtb_25 : decode jdk_42_method_147_code 25 = .ok (.goto 18, 3) := by decide +kernel
theorem d_gtb_43 : decode jdk_42_method_147_code 43 = .ok (.return_, 1) := by decide +kernel
abbrev rm_gtb : Room := { frames := 1, cells := 0, slots := 0, locals := 51 }
abbrev M_gtb : Mx := (jdk_42_method_147_code, y_gtb.cls, none, y_gtb.name, 4, rm_gtb)
theorem ef_gtb (m : MethodId) (x0 : Addr) (x1 : Addr) (x2 : Int32) (x3 : Int32) : entryFrame m #[.ref x0, .ref x1, .int x2, .int x3] 4 = mkF m 0 #[.val (.ref x0), .val (.ref x1), .val (.int x2), .val (.int x3)] [] := by first | (simp [entryFrame, mkF, argsToLocals, Value.category]; done) | rfl
set_option maxRecDepth 65536 in
set_option maxHeartbeats 4000000 in
theorem con_gtb {G : Gx} (hG : OGood G) {h0 : Heap} {t tb b : Addr} {nn i k : Nat} {co : Int32} {us ds : List Value} (hb : G.n0 ≤ b) (hco : co = 0 ∨ co = 1) (T : OS2 G.Z h0 nn t tb co us) (D : Ary G.Z h0 b .byte ds) (hk : Int32.ofNat i <<< (co &&& 31) = Int32.ofNat k) (hi : k + us.length ≤ ds.length) : OCon G y_gtb jdk_42_method_147_code 4 none [] rm_gtb #[.ref t, .ref b, .int (Int32.ofNat i), .int co] [b] h0 (fun v h' _ => v = none ∧ Keep h0 h' [b] ∧ Ary G.Z h' b .byte (ds.take k ++ us ++ ds.drop (k + us.length))) := by
  refine OCon.intro (plainFor_of_name pn_1) (own_ew hG) #[.val (.ref t), .val (.ref b), .val (.int (Int32.ofNat i)), .val (.int co)] (fun m => ef_gtb m t b (Int32.ofNat i) co) ?_
  intro K c
  replace c : OAt G K M_gtb [b] 0 0 h0 0 #[.val (.ref t), .val (.ref b), .val (.int (Int32.ofNat i)), .val (.int co)] [] := c
  obtain ⟨E, C, V, Y, -⟩ := id T
  have hl := D.len
  replace c := c.aloadN 1 d_gtb_0 rfl rfl
  obtain ⟨v, h1, sf, ⟨rfl, hh⟩, c⟩ := c.callV (y := (⟨"java/lang/String", "coder", "()B"⟩ : MethodName)) (z := y_coder) (C := "java/lang/String") (a := t) (argsL := []) (rest := []) 4 d_gtb_1 (con_coder hG hco T.strB) rfl E (hG.1 _ (List.mem_of_getElem? (i := 80) rfl)) (hG.1 _ (List.mem_of_getElem? (i := 81) rfl)) (own_nf (hG.1 _ (List.mem_of_getElem? (i := 83) rfl))) (hG.1 _ (List.mem_of_getElem? (i := 83) rfl)) (hG.1 _ (List.mem_of_getElem? (i := 82) rfl)) (hG.1 _ (List.mem_of_getElem? (i := 3) rfl)) (hG.1 _ (List.mem_of_getElem? (i := 84) rfl)) (lenOf pd_8 rfl) (by simp) (W := 0) rfl (by decide) (by decide) (by decide) (by decide)
  rw [hh] at c
  replace c := c [] (by simp)
  replace c : OAt G K M_gtb [b] 0 0 h0 4 #[.val (.ref t), .val (.ref b), .val (.int (Int32.ofNat i)), .val (.int co)] [.int co] := c
  replace c := c.iloadN 5 d_gtb_4 rfl
  replace c := c.icF 8 d_gtb_5 (own_ic_ne_f rfl)
  replace c := c.aloadN 9 d_gtb_8 rfl rfl
  replace c := c.getF 12 d_gtb_9 (hG.1 _ (List.mem_of_getElem? (i := 20) rfl)) V
  replace c := c.iconst 13 d_gtb_12 0 (by decide)
  replace c := c.aloadN 14 d_gtb_13 rfl rfl
  replace c := c.iloadN 15 d_gtb_14 rfl
  replace c := c.iloadN 16 d_gtb_15 rfl
  replace c := c.ishl 17 d_gtb_16
  rw [hk] at c
  replace c := c.aloadN 18 d_gtb_17 rfl rfl
  replace c := c.getF 21 d_gtb_18 (hG.1 _ (List.mem_of_getElem? (i := 20) rfl)) V
  replace c := c.arrlen 22 d_gtb_21 Y (Int32.ofNat us.length) rfl
  obtain ⟨h_ac, K_ac, Y_ac, c⟩ := c.acopy 25 d_gtb_22 (hG.1 _ (List.mem_of_getElem? (i := 109) rfl)) (hG.1 _ (List.mem_of_getElem? (i := 112) rfl)) (hG.1 _ (List.mem_of_getElem? (i := 110) rfl)) (hG.1 _ (List.mem_of_getElem? (i := 111) rfl)) Y D (0) (k) (us.length) (by decide) rfl rfl (by omega) hi hb (by simp) (W := 0) rfl (by decide) (by decide)
  replace c := c.goto 43 d_gtb_25
  have Yr : Ary G.Z h_ac b .byte (ds.take k ++ us ++ ds.drop (k + us.length)) := by have := Y_ac; simpa using this
  exact c.ret d_gtb_43 rfl (fun sf hs => ⟨rfl, K_ac, Yr⟩) (by decide) (by decide)
abbrev y_pst : MethodName := ⟨"java/lang/AbstractStringBuilder", "putStringAt", "(ILjava/lang/String;)V"⟩
theorem pd_18 : parseMethodDescriptor "(Ljava/lang/String;)V" = some ⟨[(.object "java/lang/String")], none⟩ := by decide +kernel
theorem pd_19 : parseMethodDescriptor "([BIB)V" = some ⟨[(.array .byte), .int, .byte], none⟩ := by decide +kernel
theorem d_pst_0 : decode jdk_68_method_73_code 0 = .ok (.aload_n 0, 1) := by decide +kernel
theorem d_pst_1 : decode jdk_68_method_73_code 1 = .ok (.aload_n 2, 1) := by decide +kernel
theorem d_pst_2 : decode jdk_68_method_73_code 2 = .ok (.invokevirtual 397, 3) := by decide +kernel
theorem d_pst_5 : decode jdk_68_method_73_code 5 = .ok (.aload_n 2, 1) := by decide +kernel
theorem d_pst_6 : decode jdk_68_method_73_code 6 = .ok (.aload_n 0, 1) := by decide +kernel
theorem d_pst_7 : decode jdk_68_method_73_code 7 = .ok (.getfield 15, 3) := by decide +kernel
theorem d_pst_10 : decode jdk_68_method_73_code 10 = .ok (.iload_n 1, 1) := by decide +kernel
theorem d_pst_11 : decode jdk_68_method_73_code 11 = .ok (.aload_n 0, 1) := by decide +kernel
theorem d_pst_12 : decode jdk_68_method_73_code 12 = .ok (.getfield 22, 3) := by decide +kernel
theorem d_pst_15 : decode jdk_68_method_73_code 15 = .ok (.invokevirtual 399, 3) := by decide +kernel
theorem d_pst_18 : decode jdk_68_method_73_code 18 = .ok (.return_, 1) := by decide +kernel
abbrev rm_pst : Room := { frames := 7, cells := 1, slots := 32, locals := 102 }
abbrev M_pst : Mx := (jdk_68_method_73_code, y_pst.cls, none, y_pst.name, 3, rm_pst)
theorem ef_pst (m : MethodId) (x0 : Addr) (x1 : Int32) (x2 : Addr) : entryFrame m #[.ref x0, .int x1, .ref x2] 3 = mkF m 0 #[.val (.ref x0), .val (.int x1), .val (.ref x2)] [] := by first | (simp [entryFrame, mkF, argsToLocals, Value.category]; done) | rfl
set_option maxRecDepth 65536 in
set_option maxHeartbeats 4000000 in
theorem con_pst {G : Gx} (hG : OGood G) {h0 : Heap} {a b t tb : Addr} {nn : Nat} {cs ts : List Int32} {vs : List Value} (ha : G.n0 ≤ a) (hb : G.n0 ≤ b) (B : Bq G.Z h0 a b 0 cs.length vs) (lc : Lat cs) (hv : vs.length = 16) (tk : vs.take cs.length = encL cs) (T : OSr G.Z h0 nn t tb ts) (hU : ¬ Lat ts → cs.length = 11) (h3 : ts.length ≤ 11) (h4 : ¬ Lat ts → ts.length ≤ 3) (hn : cs.length + ts.length ≤ 14) (nb : tb ≠ b) : OCon G y_pst jdk_68_method_73_code 3 none [] rm_pst #[.ref a, .int (Int32.ofNat cs.length), .ref t] [a, b] h0 (fun v h' sf => v = none ∧ Keep h0 h' [a, b] ∧ ∃ (co : Int32) (b' : Addr) (vs' : List Value), G.n0 ≤ b' ∧ sf b' ∧ (b' = b ∨ h0.size ≤ b') ∧ Bq G.Z h' a b' co cs.length vs' ∧ BE co (cs ++ ts) vs') := by
  refine OCon.intro (plainFor_of_name pn_2) (own_ew hG) #[.val (.ref a), .val (.int (Int32.ofNat cs.length)), .val (.ref t)] (fun m => ef_pst m a (Int32.ofNat cs.length) t) ?_
  intro K c
  replace c : OAt G K M_pst [a, b] 0 0 h0 0 #[.val (.ref a), .val (.int (Int32.ofNat cs.length)), .val (.ref t)] [] := c
  have na := T.na hG B.1
  replace c := c.aloadN 1 d_pst_0 rfl rfl
  replace c := c.aloadN 2 d_pst_1 rfl rfl
  obtain ⟨v, h1, sf, ⟨rfl, K1, co, b1, vs1, g1, q1, o1, B1, D1⟩, c⟩ := c.callP (y := y_ifn) (C := "java/lang/StringBuilder") (a := a) (argsL := [.ref t]) (rest := []) 5 d_pst_2 (con_ifn hG ha hb B lc hv tk T hU h3 h4 hn nb) rfl B.1 (hG.1 _ (List.mem_of_getElem? (i := 98) rfl)) (hG.1 _ (List.mem_of_getElem? (i := 100) rfl)) (own_nf (hG.1 _ (List.mem_of_getElem? (i := 101) rfl))) (hG.1 _ (List.mem_of_getElem? (i := 99) rfl)) (hG.1 _ (List.mem_of_getElem? (i := 56) rfl)) (hG.1 _ (List.mem_of_getElem? (i := 102) rfl)) (lenOf pd_18 rfl) (by simp) (W := 0) rfl (by decide) (by decide) (by decide) (by decide)
  replace c := c [b1] (by simpa using q1)
  replace c : OAt G K M_pst [b1, a, b] 1 32 h1 5 #[.val (.ref a), .val (.int (Int32.ofNat cs.length)), .val (.ref t)] [] := c
  have T1 := T.keep K1 (fun x hx => by cases List.mem_singleton.mp hx; exact na)
  have n1 := B1.ne hG
  replace c := c.aloadN 6 d_pst_5 rfl rfl
  replace c := c.aloadN 7 d_pst_6 rfl rfl
  replace c := c.getF 10 d_pst_7 (hG.1 _ (List.mem_of_getElem? (i := 60) rfl)) B1.2.1
  replace c := c.iloadN 11 d_pst_10 rfl
  replace c := c.aloadN 12 d_pst_11 rfl rfl
  replace c := c.getF 15 d_pst_12 (hG.1 _ (List.mem_of_getElem? (i := 62) rfl)) B1.2.2.1
  rcases D1 with ⟨rfl, lt, hb1, -, rfl⟩ | ⟨rfl, ct, big, rfl⟩
  · skip
    obtain ⟨-, T2⟩ | ⟨-, big, -⟩ := T1
    · skip
      obtain ⟨v, h2, sf, ⟨rfl, K2, Y2⟩, c⟩ := c.callV (y := (⟨"java/lang/String", "getBytes", "([BIB)V"⟩ : MethodName)) (z := y_gtb) (C := "java/lang/String") (a := t) (argsL := [.ref b1, .int (Int32.ofNat cs.length), .int 0]) (rest := []) 18 d_pst_15 (con_gtb hG g1 (Or.inl rfl) T2 B1.2.2.2.2.2 (own_shl0 _) (by rw [encL_len]; omega)) rfl T2.1 (hG.1 _ (List.mem_of_getElem? (i := 104) rfl)) (hG.1 _ (List.mem_of_getElem? (i := 105) rfl)) (own_nf (hG.1 _ (List.mem_of_getElem? (i := 107) rfl))) (hG.1 _ (List.mem_of_getElem? (i := 107) rfl)) (hG.1 _ (List.mem_of_getElem? (i := 106) rfl)) (hG.1 _ (List.mem_of_getElem? (i := 3) rfl)) (hG.1 _ (List.mem_of_getElem? (i := 108) rfl)) (lenOf pd_19 rfl) (by simp) (W := 0) rfl (by decide) (by decide) (by decide) (by decide)
      replace c := c [] (by simp)
      replace c : OAt G K M_pst [b1, a, b] 1 32 h2 18 #[.val (.ref a), .val (.int (Int32.ofNat cs.length)), .val (.ref t)] [] := c
      exact c.ret d_pst_18 rfl (fun sf hs => ⟨rfl, (((Keep.refl h0 [a, b]).trans K1 (fun x hx => Or.inl (by simp at hx; simp [hx]))).trans K2 (fun x hx => by cases List.mem_singleton.mp hx; rcases o1 with rfl | o1; exact Or.inl (by simp); exact Or.inr o1)), 0, b1, _, g1, hs b1 (by simp), o1, B1.bytes K2 n1 Y2, own_beL lc lt hv tk (by omega)⟩) (by decide) (by decide)
    · exact absurd lt (own_nlat big)
  · skip
    have hc := hU (own_nlat big)
    have h4' := h4 (own_nlat big)
    obtain ⟨lt, -⟩ | ⟨-, -, T2⟩ := T1
    · exact absurd lt (own_nlat big)
    · skip
      obtain ⟨v, h2, sf, ⟨rfl, K2, Y2⟩, c⟩ := c.callV (y := (⟨"java/lang/String", "getBytes", "([BIB)V"⟩ : MethodName)) (z := y_gtb) (C := "java/lang/String") (a := t) (argsL := [.ref b1, .int (Int32.ofNat cs.length), .int 1]) (rest := []) 18 d_pst_15 (con_gtb hG (k := 22) g1 (Or.inr rfl) T2 B1.2.2.2.2.2 (by rw [hc]; decide) (by rw [List.length_append, encU_len, encU_len, List.length_replicate]; omega)) rfl T2.1 (hG.1 _ (List.mem_of_getElem? (i := 104) rfl)) (hG.1 _ (List.mem_of_getElem? (i := 105) rfl)) (own_nf (hG.1 _ (List.mem_of_getElem? (i := 107) rfl))) (hG.1 _ (List.mem_of_getElem? (i := 107) rfl)) (hG.1 _ (List.mem_of_getElem? (i := 106) rfl)) (hG.1 _ (List.mem_of_getElem? (i := 3) rfl)) (hG.1 _ (List.mem_of_getElem? (i := 108) rfl)) (lenOf pd_19 rfl) (by simp) (W := 0) rfl (by decide) (by decide) (by decide) (by decide)
      replace c := c [] (by simp)
      replace c : OAt G K M_pst [b1, a, b] 1 32 h2 18 #[.val (.ref a), .val (.int (Int32.ofNat cs.length)), .val (.ref t)] [] := c
      exact c.ret d_pst_18 rfl (fun sf hs => ⟨rfl, (((Keep.refl h0 [a, b]).trans K1 (fun x hx => Or.inl (by simp at hx; simp [hx]))).trans K2 (fun x hx => by cases List.mem_singleton.mp hx; rcases o1 with rfl | o1; exact Or.inl (by simp); exact Or.inr o1)), 1, b1, _, g1, hs b1 (by simp), o1, B1.bytes K2 n1 Y2, own_beU lc ct big hc h4'⟩) (by decide) (by decide)
abbrev y_aap : MethodName := ⟨"java/lang/AbstractStringBuilder", "append", "(Ljava/lang/String;)Ljava/lang/AbstractStringBuilder;"⟩
theorem pd_20 : parseMethodDescriptor "(ILjava/lang/String;)V" = some ⟨[.int, (.object "java/lang/String")], none⟩ := by decide +kernel
set_option maxRecDepth 65536 in
theorem own_slen {G : Gx} (hG : OGood G) {h0 : Heap} {a : Addr} {cs : List Int32} (S : Str G.Z h0 a cs) (hl : cs.length ≤ 4000) : OCon G y_slen jdk_42_method_54_code 1 (some .int) [] rm_slen #[.ref a] [] h0 (fun v h' _ => v = some (.int (Int32.ofNat cs.length)) ∧ h' = h0) := by
  rcases S with ⟨-, B⟩ | ⟨-, -, B⟩
  · exact con_slen hG (Or.inl rfl) (by rw [encL_len]; exact own_shr0 _) B
  · exact con_slen hG (Or.inr rfl) (by rw [encU_len]; exact own_shr1 _ (by omega)) B
theorem d_aap_0 : decode jdk_68_method_22_code 0 = .ok (.aload_n 1, 1) := by decide +kernel
theorem d_aap_1 : decode jdk_68_method_22_code 1 = .ok (.ifnonnull 8, 3) := by decide +kernel
theorem d_aap_9 : decode jdk_68_method_22_code 9 = .ok (.aload_n 1, 1) := by decide +kernel
theorem d_aap_10 : decode jdk_68_method_22_code 10 = .ok (.invokevirtual 32, 3) := by decide +kernel
theorem d_aap_13 : decode jdk_68_method_22_code 13 = .ok (.istore_n 2, 1) := by decide +kernel
theorem d_aap_14 : decode jdk_68_method_22_code 14 = .ok (.aload_n 0, 1) := by decide +kernel
theorem d_aap_15 : decode jdk_68_method_22_code 15 = .ok (.aload_n 0, 1) := by decide +kernel
theorem d_aap_16 : decode jdk_68_method_22_code 16 = .ok (.getfield 79, 3) := by decide +kernel
theorem d_aap_19 : decode jdk_68_method_22_code 19 = .ok (.iload_n 2, 1) := by decide +kernel
theorem d_aap_20 : decode jdk_68_method_22_code 20 = .ok (.iadd, 1) := by decide +kernel
theorem d_aap_21 : decode jdk_68_method_22_code 21 = .ok (.invokevirtual 100, 3) := by decide +kernel
theorem d_aap_24 : decode jdk_68_method_22_code 24 = .ok (.aload_n 0, 1) := by decide +kernel
theorem d_aap_25 : decode jdk_68_method_22_code 25 = .ok (.aload_n 0, 1) := by decide +kernel
theorem d_aap_26 : decode jdk_68_method_22_code 26 = .ok (.getfield 79, 3) := by decide +kernel
theorem d_aap_29 : decode jdk_68_method_22_code 29 = .ok (.aload_n 1, 1) := by decide +kernel
theorem d_aap_30 : decode jdk_68_method_22_code 30 = .ok (.invokevirtual 208, 3) := by decide +kernel
theorem d_aap_33 : decode jdk_68_method_22_code 33 = .ok (.aload_n 0, 1) := by decide +kernel
theorem d_aap_34 : decode jdk_68_method_22_code 34 = .ok (.dup, 1) := by decide +kernel
theorem d_aap_35 : decode jdk_68_method_22_code 35 = .ok (.getfield 79, 3) := by decide +kernel
theorem d_aap_38 : decode jdk_68_method_22_code 38 = .ok (.iload_n 2, 1) := by decide +kernel
theorem d_aap_39 : decode jdk_68_method_22_code 39 = .ok (.iadd, 1) := by decide +kernel
theorem d_aap_40 : decode jdk_68_method_22_code 40 = .ok (.putfield 79, 3) := by decide +kernel
theorem d_aap_43 : decode jdk_68_method_22_code 43 = .ok (.aload_n 0, 1) := by decide +kernel
theorem d_aap_44 : decode jdk_68_method_22_code 44 = .ok (.areturn, 1) := by decide +kernel
abbrev rm_aap : Room := { frames := 8, cells := 1, slots := 32, locals := 116 }
abbrev M_aap : Mx := (jdk_68_method_22_code, y_aap.cls, (some (.object "java/lang/AbstractStringBuilder")), y_aap.name, 3, rm_aap)
theorem ef_aap (m : MethodId) (x0 : Addr) (x1 : Addr) : entryFrame m #[.ref x0, .ref x1] 3 = mkF m 0 #[.val (.ref x0), .val (.ref x1), .unset] [] := by first | (simp [entryFrame, mkF, argsToLocals, Value.category]; done) | rfl
set_option maxRecDepth 65536 in
set_option maxHeartbeats 4000000 in
theorem con_aap {G : Gx} (hG : OGood G) {h0 : Heap} {a b t tb : Addr} {nn : Nat} {cs ts : List Int32} {vs : List Value} (ha : G.n0 ≤ a) (hb : G.n0 ≤ b) (B : Bq G.Z h0 a b 0 cs.length vs) (lc : Lat cs) (hv : vs.length = 16) (tk : vs.take cs.length = encL cs) (T : OSr G.Z h0 nn t tb ts) (hU : ¬ Lat ts → cs.length = 11) (h3 : ts.length ≤ 11) (h4 : ¬ Lat ts → ts.length ≤ 3) (hn : cs.length + ts.length ≤ 14) (nb : tb ≠ b) : OCon G y_aap jdk_68_method_22_code 3 (some (.object "java/lang/AbstractStringBuilder")) [] rm_aap #[.ref a, .ref t] [a, b] h0 (fun v h' sf => v = some (.ref a) ∧ Keep h0 h' [a, b] ∧ ∃ (co : Int32) (b' : Addr) (vs' : List Value), G.n0 ≤ b' ∧ sf b' ∧ (b' = b ∨ h0.size ≤ b') ∧ Bq G.Z h' a b' co (cs.length + ts.length) vs' ∧ BE co (cs ++ ts) vs') := by
  refine OCon.intro (plainFor_of_name pn_2) (own_ew hG) #[.val (.ref a), .val (.ref t), .unset] (fun m => ef_aap m a t) ?_
  intro K c
  replace c : OAt G K M_aap [a, b] 0 0 h0 0 #[.val (.ref a), .val (.ref t), .unset] [] := c
  have na := T.na hG B.1
  replace c := c.aloadN 1 d_aap_0 rfl rfl
  replace c := c.nonnullT 9 d_aap_1
  replace c := c.aloadN 10 d_aap_9 rfl rfl
  obtain ⟨v, h1, sf, ⟨rfl, hh⟩, c⟩ := c.callV (y := (⟨"java/lang/String", "length", "()I"⟩ : MethodName)) (z := y_slen) (C := "java/lang/String") (a := t) (argsL := []) (rest := []) 13 d_aap_10 (own_slen hG T.str (by omega)) rfl T.exa (hG.1 _ (List.mem_of_getElem? (i := 75) rfl)) (hG.1 _ (List.mem_of_getElem? (i := 76) rfl)) (own_nf (hG.1 _ (List.mem_of_getElem? (i := 78) rfl))) (hG.1 _ (List.mem_of_getElem? (i := 78) rfl)) (hG.1 _ (List.mem_of_getElem? (i := 77) rfl)) (hG.1 _ (List.mem_of_getElem? (i := 3) rfl)) (hG.1 _ (List.mem_of_getElem? (i := 79) rfl)) (lenOf pd_10 rfl) (by simp) (W := 0) rfl (by decide) (by decide) (by decide) (by decide)
  rw [hh] at c
  replace c := c [] (by simp)
  replace c : OAt G K M_aap [a, b] 0 0 h0 13 #[.val (.ref a), .val (.ref t), .unset] [.int (Int32.ofNat ts.length)] := c
  replace c := c.istoreN 14 d_aap_13 #[.val (.ref a), .val (.ref t), .val (.int (Int32.ofNat ts.length))] rfl
  replace c := c.aloadN 15 d_aap_14 rfl rfl
  replace c := c.aloadN 16 d_aap_15 rfl rfl
  replace c := c.getF 19 d_aap_16 (hG.1 _ (List.mem_of_getElem? (i := 86) rfl)) B.2.2.2.1
  replace c := c.iloadN 20 d_aap_19 rfl
  replace c := c.iadd 21 d_aap_20
  rw [own_addn] at c
  obtain ⟨v, h1, sf, ⟨rfl, hh⟩, c⟩ := c.callP (y := y_ens) (C := "java/lang/StringBuilder") (a := a) (argsL := [.int (Int32.ofNat (cs.length + ts.length))]) (rest := []) 24 d_aap_21 (con_ens hG B hv (by omega)) rfl B.1 (hG.1 _ (List.mem_of_getElem? (i := 88) rfl)) (hG.1 _ (List.mem_of_getElem? (i := 90) rfl)) (own_nf (hG.1 _ (List.mem_of_getElem? (i := 91) rfl))) (hG.1 _ (List.mem_of_getElem? (i := 89) rfl)) (hG.1 _ (List.mem_of_getElem? (i := 56) rfl)) (hG.1 _ (List.mem_of_getElem? (i := 92) rfl)) (lenOf pd_9 rfl) (by simp) (W := 0) rfl (by decide) (by decide) (by decide) (by decide)
  rw [hh] at c
  replace c := c [] (by simp)
  replace c : OAt G K M_aap [a, b] 0 0 h0 24 #[.val (.ref a), .val (.ref t), .val (.int (Int32.ofNat ts.length))] [] := c
  replace c := c.aloadN 25 d_aap_24 rfl rfl
  replace c := c.aloadN 26 d_aap_25 rfl rfl
  replace c := c.getF 29 d_aap_26 (hG.1 _ (List.mem_of_getElem? (i := 86) rfl)) B.2.2.2.1
  replace c := c.aloadN 30 d_aap_29 rfl rfl
  obtain ⟨v, h1, sf, ⟨rfl, K1, co, b1, vs1, g1, q1, o1, B1, D1⟩, c⟩ := c.callP (y := y_pst) (C := "java/lang/StringBuilder") (a := a) (argsL := [.int (Int32.ofNat cs.length), .ref t]) (rest := []) 33 d_aap_30 (con_pst hG ha hb B lc hv tk T hU h3 h4 hn nb) rfl B.1 (hG.1 _ (List.mem_of_getElem? (i := 93) rfl)) (hG.1 _ (List.mem_of_getElem? (i := 95) rfl)) (own_nf (hG.1 _ (List.mem_of_getElem? (i := 96) rfl))) (hG.1 _ (List.mem_of_getElem? (i := 94) rfl)) (hG.1 _ (List.mem_of_getElem? (i := 56) rfl)) (hG.1 _ (List.mem_of_getElem? (i := 97) rfl)) (lenOf pd_20 rfl) (by simp) (W := 0) rfl (by decide) (by decide) (by decide) (by decide)
  replace c := c [b1] (by simpa using q1)
  replace c : OAt G K M_aap [b1, a, b] 1 32 h1 33 #[.val (.ref a), .val (.ref t), .val (.int (Int32.ofNat ts.length))] [] := c
  obtain ⟨E1, V1, C1, N1, L1, Y1⟩ := id B1
  have n1 := B1.ne hG
  replace c := c.aloadN 34 d_aap_33 rfl rfl
  replace c := c.dup 35 d_aap_34 rfl
  replace c := c.getF 38 d_aap_35 (hG.1 _ (List.mem_of_getElem? (i := 86) rfl)) N1
  replace c := c.iloadN 39 d_aap_38 rfl
  replace c := c.iadd 40 d_aap_39
  rw [own_addn] at c
  obtain ⟨hp1, Wp1, c⟩ := c.putF (C := "java/lang/StringBuilder") (O := "java/lang/AbstractStringBuilder") (n := "count") (d := "I") (ty := .int) 43 d_aap_40 (hG.1 _ (List.mem_of_getElem? (i := 86) rfl)) N1 E1 (Or.inl (hG.1 _ (List.mem_of_getElem? (i := 87) rfl))) (hG.1 _ (List.mem_of_getElem? (i := 47) rfl)) (by decide) rfl (by first | rfl | decide) ha (Or.inl (by simp))
  replace c := c.aloadN 44 d_aap_43 rfl rfl
  exact c.reta (t := (.object "java/lang/AbstractStringBuilder")) d_aap_44 rfl rfl rfl rfl (fun sf hs => ⟨rfl, K1.wr Wp1 (Or.inl (by simp)), co, b1, vs1, g1, hs b1 (by simp), o1, ⟨E1.wr Wp1, V1.other Wp1 (Or.inr (own_n02 hG)), C1.other Wp1 (Or.inr (own_n12 hG)), N1.same Wp1, L1.other Wp1 (Or.inr (own_n32 hG)), Y1.other Wp1 n1⟩, D1⟩) (by decide) (by decide)
abbrev y_sap : MethodName := ⟨"java/lang/StringBuilder", "append", "(Ljava/lang/String;)Ljava/lang/StringBuilder;"⟩
theorem pd_21 : parseMethodDescriptor "(Ljava/lang/String;)Ljava/lang/AbstractStringBuilder;" = some ⟨[(.object "java/lang/String")], some (.object "java/lang/AbstractStringBuilder")⟩ := by decide +kernel
theorem d_sap_0 : decode jdk_67_method_7_code 0 = .ok (.aload_n 0, 1) := by decide +kernel
theorem d_sap_1 : decode jdk_67_method_7_code 1 = .ok (.aload_n 1, 1) := by decide +kernel
theorem d_sap_2 : decode jdk_67_method_7_code 2 = .ok (.invokespecial 29, 3) := by decide +kernel
theorem d_sap_5 : decode jdk_67_method_7_code 5 = .ok (.pop, 1) := by decide +kernel
theorem d_sap_6 : decode jdk_67_method_7_code 6 = .ok (.aload_n 0, 1) := by decide +kernel
theorem d_sap_7 : decode jdk_67_method_7_code 7 = .ok (.areturn, 1) := by decide +kernel
abbrev rm_sap : Room := { frames := 9, cells := 1, slots := 32, locals := 130 }
abbrev M_sap : Mx := (jdk_67_method_7_code, y_sap.cls, (some (.object "java/lang/StringBuilder")), y_sap.name, 2, rm_sap)
theorem ef_sap (m : MethodId) (x0 : Addr) (x1 : Addr) : entryFrame m #[.ref x0, .ref x1] 2 = mkF m 0 #[.val (.ref x0), .val (.ref x1)] [] := by first | (simp [entryFrame, mkF, argsToLocals, Value.category]; done) | rfl
set_option maxRecDepth 65536 in
set_option maxHeartbeats 4000000 in
theorem con_sap {G : Gx} (hG : OGood G) {h0 : Heap} {a b t tb : Addr} {nn : Nat} {cs ts : List Int32} {vs : List Value} (ha : G.n0 ≤ a) (hb : G.n0 ≤ b) (B : Bq G.Z h0 a b 0 cs.length vs) (lc : Lat cs) (hv : vs.length = 16) (tk : vs.take cs.length = encL cs) (T : OSr G.Z h0 nn t tb ts) (hU : ¬ Lat ts → cs.length = 11) (h3 : ts.length ≤ 11) (h4 : ¬ Lat ts → ts.length ≤ 3) (hn : cs.length + ts.length ≤ 14) (nb : tb ≠ b) : OCon G y_sap jdk_67_method_7_code 2 (some (.object "java/lang/StringBuilder")) [] rm_sap #[.ref a, .ref t] [a, b] h0 (fun v h' sf => v = some (.ref a) ∧ Keep h0 h' [a, b] ∧ ∃ (co : Int32) (b' : Addr) (vs' : List Value), G.n0 ≤ b' ∧ sf b' ∧ (b' = b ∨ h0.size ≤ b') ∧ Bq G.Z h' a b' co (cs.length + ts.length) vs' ∧ BE co (cs ++ ts) vs') := by
  refine OCon.intro (plainFor_of_name pn_3) (own_ew hG) #[.val (.ref a), .val (.ref t)] (fun m => ef_sap m a t) ?_
  intro K c
  replace c : OAt G K M_sap [a, b] 0 0 h0 0 #[.val (.ref a), .val (.ref t)] [] := c
  replace c := c.aloadN 1 d_sap_0 rfl rfl
  replace c := c.aloadN 2 d_sap_1 rfl rfl
  obtain ⟨v, h1, sf, ⟨rfl, K1, co, b1, vs1, g1, q1, o1, B1, D1⟩, c⟩ := c.callU (y := y_aap) (C := "java/lang/AbstractStringBuilder") (a := a) (argsL := [.ref t]) (rest := []) 5 d_sap_2 (con_aap hG ha hb B lc hv tk T hU h3 h4 hn nb) rfl (own_ins B.1 (hG.1 _ (List.mem_of_getElem? (i := 55) rfl))) (hG.1 _ (List.mem_of_getElem? (i := 70) rfl)) (hG.1 _ (List.mem_of_getElem? (i := 72) rfl)) (own_nfo (hG.1 _ (List.mem_of_getElem? (i := 91) rfl)) rfl) (hG.1 _ (List.mem_of_getElem? (i := 71) rfl)) (hG.1 _ (List.mem_of_getElem? (i := 56) rfl)) (hG.1 _ (List.mem_of_getElem? (i := 74) rfl)) (lenOf pd_21 rfl) (by simp) (W := 0) rfl (by decide) (by decide) (by decide) (by decide)
  replace c := c [b1] (by simpa using q1)
  replace c : OAt G K M_sap [b1, a, b] 1 32 h1 5 #[.val (.ref a), .val (.ref t)] [.ref a] := c
  replace c := c.pop 6 d_sap_5 rfl
  replace c := c.aloadN 7 d_sap_6 rfl rfl
  exact c.reta (t := (.object "java/lang/StringBuilder")) d_sap_7 rfl rfl rfl rfl (fun sf hs => ⟨rfl, K1, co, b1, vs1, g1, hs b1 (by simp), o1, B1, D1⟩) (by decide) (by decide)
abbrev y_ckl : MethodName := ⟨"java/util/Arrays", "checkLength", "(II)V"⟩
theorem pn_6 : plainName "java/util/Arrays" = true := by first | (simp [plainName, overriddenIn]; done) | decide +kernel
theorem d_ckl_0 : decode jdk_65_method_131_code 0 = .ok (.iload_n 1, 1) := by decide +kernel
theorem d_ckl_1 : decode jdk_65_method_131_code 1 = .ok (.iload_n 0, 1) := by decide +kernel
theorem d_ckl_2 : decode jdk_65_method_131_code 2 = .ok (.if_icmp .ge 35, 3) := by decide +kernel
theorem d_ckl_37 : decode jdk_65_method_131_code 37 = .ok (.return_, 1) := by decide +kernel
abbrev rm_ckl : Room := { frames := 0, cells := 0, slots := 0, locals := 0 }
abbrev M_ckl : Mx := (jdk_65_method_131_code, y_ckl.cls, none, y_ckl.name, 2, rm_ckl)
theorem ef_ckl (m : MethodId) (x0 : Int32) (x1 : Int32) : entryFrame m #[.int x0, .int x1] 2 = mkF m 0 #[.val (.int x0), .val (.int x1)] [] := by first | (simp [entryFrame, mkF, argsToLocals, Value.category]; done) | rfl
set_option maxRecDepth 65536 in
set_option maxHeartbeats 4000000 in
theorem con_ckl {G : Gx} (hG : OGood G) {h0 : Heap} {i : Nat} (hi : i ≤ 4000) : OCon G y_ckl jdk_65_method_131_code 2 none [] rm_ckl #[.int 0, .int (Int32.ofNat i)] [] h0 (fun v h' _ => v = none ∧ h' = h0) := by
  refine OCon.intro (plainFor_of_name pn_6) (own_ew hG) #[.val (.int 0), .val (.int (Int32.ofNat i))] (fun m => ef_ckl m 0 (Int32.ofNat i)) ?_
  intro K c
  replace c : OAt G K M_ckl [] 0 0 h0 0 #[.val (.int 0), .val (.int (Int32.ofNat i))] [] := c
  replace c := c.iloadN 1 d_ckl_0 rfl
  replace c := c.iloadN 2 d_ckl_1 rfl
  replace c := c.icT 37 d_ckl_2 (own_ic_ge_t (own_nneg (by omega)))
  exact c.ret d_ckl_37 rfl (fun sf hs => ⟨rfl, rfl⟩) (by decide) (by decide)
abbrev y_corb : MethodName := ⟨"java/util/Arrays", "copyOfRangeByte", "([BII)[B"⟩
theorem pd_22 : parseMethodDescriptor "(II)V" = some ⟨[.int, .int], none⟩ := by decide +kernel
theorem pd_23 : parseMethodDescriptor "(II)I" = some ⟨[.int, .int], some .int⟩ := by decide +kernel
theorem d_corb_0 : decode jdk_65_method_133_code 0 = .ok (.iload_n 1, 1) := by decide +kernel
theorem d_corb_1 : decode jdk_65_method_133_code 1 = .ok (.iload_n 2, 1) := by decide +kernel
theorem d_corb_2 : decode jdk_65_method_133_code 2 = .ok (.invokestatic 343, 3) := by decide +kernel
theorem d_corb_5 : decode jdk_65_method_133_code 5 = .ok (.iload_n 2, 1) := by decide +kernel
theorem d_corb_6 : decode jdk_65_method_133_code 6 = .ok (.iload_n 1, 1) := by decide +kernel
theorem d_corb_7 : decode jdk_65_method_133_code 7 = .ok (.isub, 1) := by decide +kernel
theorem d_corb_8 : decode jdk_65_method_133_code 8 = .ok (.istore_n 3, 1) := by decide +kernel
theorem d_corb_9 : decode jdk_65_method_133_code 9 = .ok (.iload_n 3, 1) := by decide +kernel
theorem d_corb_10 : decode jdk_65_method_133_code 10 = .ok (.newarray .byte, 2) := by decide +kernel
theorem d_corb_12 : decode jdk_65_method_133_code 12 = .ok (.astore 4, 2) := by decide +kernel
theorem d_corb_14 : decode jdk_65_method_133_code 14 = .ok (.aload_n 0, 1) := by decide +kernel
theorem d_corb_15 : decode jdk_65_method_133_code 15 = .ok (.iload_n 1, 1) := by decide +kernel
theorem d_corb_16 : decode jdk_65_method_133_code 16 = .ok (.aload 4, 2) := by decide +kernel
theorem d_corb_18 : decode jdk_65_method_133_code 18 = .ok (.iconst 0, 1) := by decide +kernel
theorem d_corb_19 : decode jdk_65_method_133_code 19 = .ok (.aload_n 0, 1) := by decide +kernel
theorem d_corb_20 : decode jdk_65_method_133_code 20 = .ok (.arraylength, 1) := by decide +kernel
theorem d_corb_21 : decode jdk_65_method_133_code 21 = .ok (.iload_n 1, 1) := by decide +kernel
theorem d_corb_22 : decode jdk_65_method_133_code 22 = .ok (.isub, 1) := by decide +kernel
theorem d_corb_23 : decode jdk_65_method_133_code 23 = .ok (.iload_n 3, 1) := by decide +kernel
theorem d_corb_24 : decode jdk_65_method_133_code 24 = .ok (.invokestatic 304, 3) := by decide +kernel
theorem d_corb_27 : decode jdk_65_method_133_code 27 = .ok (.invokestatic 150, 3) := by decide +kernel
theorem d_corb_30 : decode jdk_65_method_133_code 30 = .ok (.aload 4, 2) := by decide +kernel
theorem d_corb_32 : decode jdk_65_method_133_code 32 = .ok (.areturn, 1) := by decide +kernel
abbrev rm_corb : Room := { frames := 1, cells := 1, slots := 32, locals := 51 }
abbrev M_corb : Mx := (jdk_65_method_133_code, y_corb.cls, (some (.array .byte)), y_corb.name, 5, rm_corb)
theorem ef_corb (m : MethodId) (x0 : Addr) (x1 : Int32) (x2 : Int32) : entryFrame m #[.ref x0, .int x1, .int x2] 5 = mkF m 0 #[.val (.ref x0), .val (.int x1), .val (.int x2), .unset, .unset] [] := by first | (simp [entryFrame, mkF, argsToLocals, Value.category]; done) | rfl
set_option maxRecDepth 65536 in
set_option maxHeartbeats 4000000 in
theorem con_corb {G : Gx} (hG : OGood G) {h0 : Heap} {b : Addr} {i : Nat} {vs : List Value} (hi : i < vs.length) (hN : i ≤ 32) (Y : Ary G.Z h0 b .byte vs) : OCon G y_corb jdk_65_method_133_code 5 (some (.array .byte)) [] rm_corb #[.ref b, .int 0, .int (Int32.ofNat i)] [] h0 (fun v h' _ => ∃ d : Addr, v = some (.ref d) ∧ h0.size ≤ d ∧ Keep h0 h' [] ∧ Ary G.Z h' d .byte (vs.take i)) := by
  refine OCon.intro (plainFor_of_name pn_6) (own_ew hG) #[.val (.ref b), .val (.int 0), .val (.int (Int32.ofNat i)), .unset, .unset] (fun m => ef_corb m b 0 (Int32.ofNat i)) ?_
  intro K c
  replace c : OAt G K M_corb [] 0 0 h0 0 #[.val (.ref b), .val (.int 0), .val (.int (Int32.ofNat i)), .unset, .unset] [] := c
  have hl := Y.len
  replace c := c.iloadN 1 d_corb_0 rfl
  replace c := c.iloadN 2 d_corb_1 rfl
  obtain ⟨v, h1, sf, ⟨rfl, hh⟩, c⟩ := c.callS (y := y_ckl) (argsL := [.int 0, .int (Int32.ofNat i)]) (rest := []) 5 d_corb_2 (con_ckl hG (by omega)) rfl (hG.1 _ (List.mem_of_getElem? (i := 150) rfl)) (hG.1 _ (List.mem_of_getElem? (i := 151) rfl)) (hG.1 _ (List.mem_of_getElem? (i := 145) rfl)) (hG.1 _ (List.mem_of_getElem? (i := 152) rfl)) (lenOf pd_22 rfl) (by simp) (W := 0) rfl (by decide) (by decide) (by decide) (by decide)
  rw [hh] at c
  replace c := c [] (by simp)
  replace c : OAt G K M_corb [] 0 0 h0 5 #[.val (.ref b), .val (.int 0), .val (.int (Int32.ofNat i)), .unset, .unset] [] := c
  replace c := c.iloadN 6 d_corb_5 rfl
  replace c := c.iloadN 7 d_corb_6 rfl
  replace c := c.isub 8 d_corb_7
  have e0 : Int32.ofNat i - 0 = Int32.ofNat i := own_subn i 0 (by omega) (by omega)
  rw [e0] at c
  replace c := c.istoreN 9 d_corb_8 #[.val (.ref b), .val (.int 0), .val (.int (Int32.ofNat i)), .val (.int (Int32.ofNat i)), .unset] rfl
  replace c := c.iloadN 10 d_corb_9 rfl
  obtain ⟨d, h_d, s_d, x_d, g_d, Y_d, c⟩ := c.newarr 12 d_corb_10 .byte rfl (hG.1 _ (List.mem_of_getElem? (i := 15) rfl)) (i) rfl 32 (by omega) (by decide) (by decide) (by decide)
  replace c := c.astore 14 d_corb_12 rfl #[.val (.ref b), .val (.int 0), .val (.int (Int32.ofNat i)), .val (.int (Int32.ofNat i)), .val (.ref d)] rfl
  replace c := c.aloadN 15 d_corb_14 rfl rfl
  replace c := c.iloadN 16 d_corb_15 rfl
  replace c := c.aload 18 d_corb_16 rfl rfl
  replace c := c.iconst 19 d_corb_18 0 (by decide)
  replace c := c.aloadN 20 d_corb_19 rfl rfl
  replace c := c.arrlen 21 d_corb_20 (Y.ext x_d) (Int32.ofNat vs.length) rfl
  replace c := c.iloadN 22 d_corb_21 rfl
  replace c := c.isub 23 d_corb_22
  have e1 : Int32.ofNat vs.length - 0 = Int32.ofNat vs.length := own_subn _ 0 (by omega) (by omega)
  rw [e1] at c
  replace c := c.iloadN 24 d_corb_23 rfl
  obtain ⟨v, h1, sf, ⟨hv, hh⟩, c⟩ := c.callS (y := y_min2) (argsL := [.int (Int32.ofNat vs.length), .int (Int32.ofNat i)]) (rest := [.int 0, .ref d, .int 0, .ref b]) 27 d_corb_24 (con_min2 hG) rfl (hG.1 _ (List.mem_of_getElem? (i := 153) rfl)) (hG.1 _ (List.mem_of_getElem? (i := 154) rfl)) (hG.1 _ (List.mem_of_getElem? (i := 155) rfl)) (hG.1 _ (List.mem_of_getElem? (i := 156) rfl)) (lenOf pd_23 rfl) (by simp) (W := 4) rfl (by decide) (by decide) (by decide) (by decide)
  rw [if_pos (own_lt hi (by omega))] at hv; subst hv
  rw [hh] at c
  replace c := c [] (by simp)
  replace c : OAt G K M_corb [d] 1 32 h_d 27 #[.val (.ref b), .val (.int 0), .val (.int (Int32.ofNat i)), .val (.int (Int32.ofNat i)), .val (.ref d)] [.int (Int32.ofNat i), .int 0, .ref d, .int 0, .ref b] := c
  obtain ⟨h_ac, K_ac, Y_ac, c⟩ := c.acopy 30 d_corb_27 (hG.1 _ (List.mem_of_getElem? (i := 157) rfl)) (hG.1 _ (List.mem_of_getElem? (i := 112) rfl)) (hG.1 _ (List.mem_of_getElem? (i := 110) rfl)) (hG.1 _ (List.mem_of_getElem? (i := 111) rfl)) (Y.ext x_d) Y_d (0) (0) (i) (by decide) (by decide) rfl (by omega) (by simp) g_d (by simp) (W := 0) rfl (by decide) (by decide)
  replace c := c.aload 32 d_corb_30 rfl rfl
  have Yr : Ary G.Z h_ac d .byte (vs.take i) := by have := Y_ac; simp at this; exact this
  exact c.reta (t := (.array .byte)) d_corb_32 rfl rfl rfl rfl (fun sf hs => ⟨d, rfl, Nat.le_of_eq s_d.symm, ((Keep.refl h0 []).ext x_d).trans K_ac (fun x hx => by cases List.mem_singleton.mp hx; exact Or.inr (Nat.le_of_eq s_d.symm)), Yr⟩) (by decide) (by decide)
abbrev y_cor : MethodName := ⟨"java/util/Arrays", "copyOfRange", "([BII)[B"⟩
theorem pd_24 : parseMethodDescriptor "([BII)[B" = some ⟨[(.array .byte), .int, .int], some (.array .byte)⟩ := by decide +kernel
theorem d_cor_0 : decode jdk_65_method_132_code 0 = .ok (.iload_n 1, 1) := by decide +kernel
theorem d_cor_1 : decode jdk_65_method_132_code 1 = .ok (.ifCond .ne 9, 3) := by decide +kernel
theorem d_cor_4 : decode jdk_65_method_132_code 4 = .ok (.iload_n 2, 1) := by decide +kernel
theorem d_cor_5 : decode jdk_65_method_132_code 5 = .ok (.aload_n 0, 1) := by decide +kernel
theorem d_cor_6 : decode jdk_65_method_132_code 6 = .ok (.arraylength, 1) := by decide +kernel
theorem d_cor_7 : decode jdk_65_method_132_code 7 = .ok (.if_icmp .eq 10, 3) := by decide +kernel
theorem d_cor_10 : decode jdk_65_method_132_code 10 = .ok (.aload_n 0, 1) := by decide +kernel
theorem d_cor_11 : decode jdk_65_method_132_code 11 = .ok (.iload_n 1, 1) := by decide +kernel
theorem d_cor_12 : decode jdk_65_method_132_code 12 = .ok (.iload_n 2, 1) := by decide +kernel
theorem d_cor_13 : decode jdk_65_method_132_code 13 = .ok (.invokestatic 339, 3) := by decide +kernel
theorem d_cor_16 : decode jdk_65_method_132_code 16 = .ok (.areturn, 1) := by decide +kernel
abbrev rm_cor : Room := { frames := 2, cells := 1, slots := 32, locals := 67 }
abbrev M_cor : Mx := (jdk_65_method_132_code, y_cor.cls, (some (.array .byte)), y_cor.name, 3, rm_cor)
theorem ef_cor (m : MethodId) (x0 : Addr) (x1 : Int32) (x2 : Int32) : entryFrame m #[.ref x0, .int x1, .int x2] 3 = mkF m 0 #[.val (.ref x0), .val (.int x1), .val (.int x2)] [] := by first | (simp [entryFrame, mkF, argsToLocals, Value.category]; done) | rfl
set_option maxRecDepth 65536 in
set_option maxHeartbeats 4000000 in
theorem con_cor {G : Gx} (hG : OGood G) {h0 : Heap} {b : Addr} {i : Nat} {vs : List Value} (hi : i < vs.length) (hN : i ≤ 32) (Y : Ary G.Z h0 b .byte vs) : OCon G y_cor jdk_65_method_132_code 3 (some (.array .byte)) [] rm_cor #[.ref b, .int 0, .int (Int32.ofNat i)] [] h0 (fun v h' _ => ∃ d : Addr, v = some (.ref d) ∧ h0.size ≤ d ∧ Keep h0 h' [] ∧ Ary G.Z h' d .byte (vs.take i)) := by
  refine OCon.intro (plainFor_of_name pn_6) (own_ew hG) #[.val (.ref b), .val (.int 0), .val (.int (Int32.ofNat i))] (fun m => ef_cor m b 0 (Int32.ofNat i)) ?_
  intro K c
  replace c : OAt G K M_cor [] 0 0 h0 0 #[.val (.ref b), .val (.int 0), .val (.int (Int32.ofNat i))] [] := c
  have hl := Y.len
  replace c := c.iloadN 1 d_cor_0 rfl
  replace c := c.ifF 4 d_cor_1 (own_if_ne_f rfl)
  replace c := c.iloadN 5 d_cor_4 rfl
  replace c := c.aloadN 6 d_cor_5 rfl rfl
  replace c := c.arrlen 7 d_cor_6 Y (Int32.ofNat vs.length) rfl
  replace c := c.icF 10 d_cor_7 (own_ic_eq_f (fun e => by have := own_inj e (by omega) (by omega); omega))
  replace c := c.aloadN 11 d_cor_10 rfl rfl
  replace c := c.iloadN 12 d_cor_11 rfl
  replace c := c.iloadN 13 d_cor_12 rfl
  obtain ⟨v, h1, sf, ⟨d, rfl, s_d, K1, Y1⟩, c⟩ := c.callS (y := y_corb) (argsL := [.ref b, .int 0, .int (Int32.ofNat i)]) (rest := []) 16 d_cor_13 (con_corb hG hi hN Y) rfl (hG.1 _ (List.mem_of_getElem? (i := 147) rfl)) (hG.1 _ (List.mem_of_getElem? (i := 148) rfl)) (hG.1 _ (List.mem_of_getElem? (i := 145) rfl)) (hG.1 _ (List.mem_of_getElem? (i := 149) rfl)) (lenOf pd_24 rfl) (by simp) (W := 0) rfl (by decide) (by decide) (by decide) (by decide)
  replace c := c [] (by simp)
  replace c : OAt G K M_cor [] 1 32 h1 16 #[.val (.ref b), .val (.int 0), .val (.int (Int32.ofNat i))] [.ref d] := c
  exact c.reta (t := (.array .byte)) d_cor_16 rfl rfl rfl rfl (fun sf hs => ⟨d, rfl, s_d, K1, Y1⟩) (by decide) (by decide)
abbrev y_sia : MethodName := ⟨"java/lang/String", "<init>", "(Ljava/lang/AbstractStringBuilder;Ljava/lang/Void;)V"⟩
theorem pd_25 : parseMethodDescriptor "()[B" = some ⟨[], some (.array .byte)⟩ := by decide +kernel
theorem d_sia_0 : decode jdk_42_method_150_code 0 = .ok (.aload_n 0, 1) := by decide +kernel
theorem d_sia_1 : decode jdk_42_method_150_code 1 = .ok (.invokespecial 1, 3) := by decide +kernel
theorem d_sia_4 : decode jdk_42_method_150_code 4 = .ok (.aload_n 1, 1) := by decide +kernel
theorem d_sia_5 : decode jdk_42_method_150_code 5 = .ok (.invokevirtual 552, 3) := by decide +kernel
theorem d_sia_8 : decode jdk_42_method_150_code 8 = .ok (.astore_n 3, 1) := by decide +kernel
theorem d_sia_9 : decode jdk_42_method_150_code 9 = .ok (.aload_n 1, 1) := by decide +kernel
theorem d_sia_10 : decode jdk_42_method_150_code 10 = .ok (.invokevirtual 549, 3) := by decide +kernel
theorem d_sia_13 : decode jdk_42_method_150_code 13 = .ok (.istore 4, 2) := by decide +kernel
theorem d_sia_15 : decode jdk_42_method_150_code 15 = .ok (.aload_n 1, 1) := by decide +kernel
theorem d_sia_16 : decode jdk_42_method_150_code 16 = .ok (.invokevirtual 1047, 3) := by decide +kernel
theorem d_sia_19 : decode jdk_42_method_150_code 19 = .ok (.ifCond .eq 22, 3) := by decide +kernel
theorem d_sia_22 : decode jdk_42_method_150_code 22 = .ok (.aload_n 0, 1) := by decide +kernel
theorem d_sia_23 : decode jdk_42_method_150_code 23 = .ok (.iconst 0, 1) := by decide +kernel
theorem d_sia_24 : decode jdk_42_method_150_code 24 = .ok (.putfield 15, 3) := by decide +kernel
theorem d_sia_27 : decode jdk_42_method_150_code 27 = .ok (.aload_n 0, 1) := by decide +kernel
theorem d_sia_28 : decode jdk_42_method_150_code 28 = .ok (.aload_n 3, 1) := by decide +kernel
theorem d_sia_29 : decode jdk_42_method_150_code 29 = .ok (.iconst 0, 1) := by decide +kernel
theorem d_sia_30 : decode jdk_42_method_150_code 30 = .ok (.iload 4, 2) := by decide +kernel
theorem d_sia_32 : decode jdk_42_method_150_code 32 = .ok (.invokestatic 54, 3) := by decide +kernel
theorem d_sia_35 : decode jdk_42_method_150_code 35 = .ok (.putfield 9, 3) := by decide +kernel
theorem d_sia_38 : decode jdk_42_method_150_code 38 = .ok (.goto 59, 3) := by decide +kernel
theorem d_sia_41 : decode jdk_42_method_150_code 41 = .ok (.getstatic 38, 3) := by decide +kernel
theorem d_sia_44 : decode jdk_42_method_150_code 44 = .ok (.ifCond .eq 35, 3) := by decide +kernel
theorem d_sia_47 : decode jdk_42_method_150_code 47 = .ok (.aload_n 1, 1) := by decide +kernel
theorem d_sia_48 : decode jdk_42_method_150_code 48 = .ok (.getfield 1048, 3) := by decide +kernel
theorem d_sia_51 : decode jdk_42_method_150_code 51 = .ok (.ifCond .eq 28, 3) := by decide +kernel
theorem d_sia_79 : decode jdk_42_method_150_code 79 = .ok (.aload_n 0, 1) := by decide +kernel
theorem d_sia_80 : decode jdk_42_method_150_code 80 = .ok (.iconst 1, 1) := by decide +kernel
theorem d_sia_81 : decode jdk_42_method_150_code 81 = .ok (.putfield 15, 3) := by decide +kernel
theorem d_sia_84 : decode jdk_42_method_150_code 84 = .ok (.aload_n 0, 1) := by decide +kernel
theorem d_sia_85 : decode jdk_42_method_150_code 85 = .ok (.aload_n 3, 1) := by decide +kernel
theorem d_sia_86 : decode jdk_42_method_150_code 86 = .ok (.iconst 0, 1) := by decide +kernel
theorem d_sia_87 : decode jdk_42_method_150_code 87 = .ok (.iload 4, 2) := by decide +kernel
theorem d_sia_89 : decode jdk_42_method_150_code 89 = .ok (.iconst 1, 1) := by decide +kernel
theorem d_sia_90 : decode jdk_42_method_150_code 90 = .ok (.ishl, 1) := by decide +kernel
theorem d_sia_91 : decode jdk_42_method_150_code 91 = .ok (.invokestatic 54, 3) := by decide +kernel
theorem d_sia_94 : decode jdk_42_method_150_code 94 = .ok (.putfield 9, 3) := by decide +kernel
theorem d_sia_97 : decode jdk_42_method_150_code 97 = .ok (.return_, 1) := by decide +kernel
abbrev rm_sia : Room := { frames := 3, cells := 1, slots := 32, locals := 82 }
abbrev M_sia : Mx := (jdk_42_method_150_code, y_sia.cls, none, y_sia.name, 5, rm_sia)
theorem ef_sia (m : MethodId) (x0 : Addr) (x1 : Addr) : entryFrame m #[.ref x0, .ref x1, .null] 5 = mkF m 0 #[.val (.ref x0), .val (.ref x1), .val .null, .unset, .unset] [] := by first | (simp [entryFrame, mkF, argsToLocals, Value.category]; done) | rfl
set_option maxRecDepth 65536 in
set_option maxHeartbeats 4000000 in
theorem con_sia {G : Gx} (hG : OGood G) {h0 : Heap} {s a b : Addr} {co : Int32} {cs : List Int32} {vs : List Value} (hs0 : G.n0 ≤ s) (Es : Exa G.Z h0 s "java/lang/String") (Vs : Fld G.Z h0 s "java/lang/String" "value" "[B" .null) (Cs : Fld G.Z h0 s "java/lang/String" "coder" "B" (.int 0)) (B : Bq G.Z h0 a b co cs.length vs) (D : BE co cs vs) (hn : cs.length ≤ 14) : OCon G y_sia jdk_42_method_150_code 5 none [] rm_sia #[.ref s, .ref a, .null] [s] h0 (fun v h' _ => v = none ∧ Keep h0 h' [s] ∧ Str G.Z h' s cs) := by
  refine OCon.intro (plainFor_of_name pn_1) (own_ew hG) #[.val (.ref s), .val (.ref a), .val (.null), .unset, .unset] (fun m => ef_sia m s a) ?_
  intro K c
  replace c : OAt G K M_sia [s] 0 0 h0 0 #[.val (.ref s), .val (.ref a), .val (.null), .unset, .unset] [] := c
  have LV : Laid G.Z G.a0 "java/lang/String" "java/lang/String" "value" "[B" := Or.inr (hG.1 _ (List.mem_of_getElem? (i := 16) rfl))
  have LC : Laid G.Z G.a0 "java/lang/String" "java/lang/String" "coder" "B" := Or.inr (hG.1 _ (List.mem_of_getElem? (i := 17) rfl))
  have sne : Jvm.RoadKit.slotOf G.Z "java/lang/String" "value" "[B" ≠ Jvm.RoadKit.slotOf G.Z "java/lang/String" "coder" "B" := slot_ne LV LC (by decide) (t := .array .byte) (t' := .byte) (by decide) (by decide)
  obtain ⟨E, V, C, N, L, Y⟩ := id B
  have nsb : b ≠ s := fun q => by obtain ⟨cl, Ar, -⟩ := Y; exact ne_arr Es (hG.1 _ (List.mem_of_getElem? (i := 2) rfl)) Ar q.symm
  have hco : co = 0 ∨ co = 1 := by rcases D with ⟨q, -⟩ | ⟨q, -⟩; exact Or.inl q; exact Or.inr q
  obtain ⟨z, hz, hz0⟩ := hG.2.2.1
  replace c := c.aloadN 1 d_sia_0 rfl rfl
  replace c := c.initO 4 d_sia_1 (hG.1 _ (List.mem_of_getElem? (i := 11) rfl)) (hG.1 _ (List.mem_of_getElem? (i := 12) rfl)) (hG.1 _ (List.mem_of_getElem? (i := 13) rfl)) (W := 0) rfl (by decide) (by decide)
  replace c := c.aloadN 5 d_sia_4 rfl rfl
  obtain ⟨v, h1, sf, ⟨rfl, hh⟩, c⟩ := c.callV (y := (⟨"java/lang/AbstractStringBuilder", "getValue", "()[B"⟩ : MethodName)) (z := y_gv) (C := "java/lang/StringBuilder") (a := a) (argsL := []) (rest := []) 8 d_sia_5 (con_gv hG B) rfl E (hG.1 _ (List.mem_of_getElem? (i := 125) rfl)) (hG.1 _ (List.mem_of_getElem? (i := 126) rfl)) (own_nf (hG.1 _ (List.mem_of_getElem? (i := 128) rfl))) (hG.1 _ (List.mem_of_getElem? (i := 128) rfl)) (hG.1 _ (List.mem_of_getElem? (i := 127) rfl)) (hG.1 _ (List.mem_of_getElem? (i := 56) rfl)) (hG.1 _ (List.mem_of_getElem? (i := 129) rfl)) (lenOf pd_25 rfl) (by simp) (W := 0) rfl (by decide) (by decide) (by decide) (by decide)
  rw [hh] at c
  replace c := c [] (by simp)
  replace c : OAt G K M_sia [s] 0 0 h0 8 #[.val (.ref s), .val (.ref a), .val (.null), .unset, .unset] [.ref b] := c
  replace c := c.astoreN 9 d_sia_8 rfl #[.val (.ref s), .val (.ref a), .val (.null), .val (.ref b), .unset] rfl
  replace c := c.aloadN 10 d_sia_9 rfl rfl
  obtain ⟨v, h1, sf, ⟨rfl, hh⟩, c⟩ := c.callV (y := (⟨"java/lang/AbstractStringBuilder", "length", "()I"⟩ : MethodName)) (z := y_sl) (C := "java/lang/StringBuilder") (a := a) (argsL := []) (rest := []) 13 d_sia_10 (con_sl hG B) rfl E (hG.1 _ (List.mem_of_getElem? (i := 130) rfl)) (hG.1 _ (List.mem_of_getElem? (i := 131) rfl)) (own_nfo (hG.1 _ (List.mem_of_getElem? (i := 91) rfl)) rfl) (hG.1 _ (List.mem_of_getElem? (i := 133) rfl)) (hG.1 _ (List.mem_of_getElem? (i := 134) rfl)) (hG.1 _ (List.mem_of_getElem? (i := 48) rfl)) (hG.1 _ (List.mem_of_getElem? (i := 135) rfl)) (lenOf pd_10 rfl) (by simp) (W := 0) rfl (by decide) (by decide) (by decide) (by decide)
  rw [hh] at c
  replace c := c [] (by simp)
  replace c : OAt G K M_sia [s] 0 0 h0 13 #[.val (.ref s), .val (.ref a), .val (.null), .val (.ref b), .unset] [.int (Int32.ofNat cs.length)] := c
  replace c := c.istore 15 d_sia_13 #[.val (.ref s), .val (.ref a), .val (.null), .val (.ref b), .val (.int (Int32.ofNat cs.length))] rfl
  replace c := c.aloadN 16 d_sia_15 rfl rfl
  obtain ⟨v, h1, sf, ⟨rfl, hh⟩, c⟩ := c.callV (y := (⟨"java/lang/AbstractStringBuilder", "isLatin1", "()Z"⟩ : MethodName)) (z := y_il) (C := "java/lang/StringBuilder") (a := a) (argsL := []) (rest := []) 19 d_sia_16 (con_il hG B hco) rfl E (hG.1 _ (List.mem_of_getElem? (i := 138) rfl)) (hG.1 _ (List.mem_of_getElem? (i := 139) rfl)) (own_nf (hG.1 _ (List.mem_of_getElem? (i := 141) rfl))) (hG.1 _ (List.mem_of_getElem? (i := 141) rfl)) (hG.1 _ (List.mem_of_getElem? (i := 140) rfl)) (hG.1 _ (List.mem_of_getElem? (i := 56) rfl)) (hG.1 _ (List.mem_of_getElem? (i := 142) rfl)) (lenOf pd_16 rfl) (by simp) (W := 0) rfl (by decide) (by decide) (by decide) (by decide)
  rw [hh] at c
  replace c := c [] (by simp)
  replace c : OAt G K M_sia [s] 0 0 h0 19 #[.val (.ref s), .val (.ref a), .val (.null), .val (.ref b), .val (.int (Int32.ofNat cs.length))] [.int (1 - co)] := c
  rcases D with ⟨rfl, lc, hv, tk⟩ | ⟨rfl, ct, big, hv, tk⟩
  · skip
    replace c := c.ifF 22 d_sia_19 (own_if_eq_f (by decide))
    replace c := c.aloadN 23 d_sia_22 rfl rfl
    replace c := c.iconst 24 d_sia_23 0 (by decide)
    obtain ⟨hp1, Wp1, c⟩ := c.putF (C := "java/lang/String") (O := "java/lang/String") (n := "coder") (d := "B") (ty := .byte) 27 d_sia_24 (hG.1 _ (List.mem_of_getElem? (i := 21) rfl)) Cs Es (Or.inr ⟨(hG.1 _ (List.mem_of_getElem? (i := 17) rfl)), rfl, rfl⟩) (hG.1 _ (List.mem_of_getElem? (i := 2) rfl)) (by decide) rfl (by first | rfl | decide) hs0 (Or.inl (by simp))
    replace c := c.aloadN 28 d_sia_27 rfl rfl
    replace c := c.aloadN 29 d_sia_28 rfl rfl
    replace c := c.iconst 30 d_sia_29 0 (by decide)
    replace c := c.iload 32 d_sia_30 rfl
    obtain ⟨v, h2, sf, ⟨d, rfl, s_d, K2, Y2⟩, c⟩ := c.callS (y := y_cor) (argsL := [.ref b, .int 0, .int (Int32.ofNat cs.length)]) (rest := [.ref s]) 35 d_sia_32 (con_cor hG (i := cs.length) (by omega) (by omega) (Y.other Wp1 nsb)) rfl (hG.1 _ (List.mem_of_getElem? (i := 143) rfl)) (hG.1 _ (List.mem_of_getElem? (i := 144) rfl)) (hG.1 _ (List.mem_of_getElem? (i := 145) rfl)) (hG.1 _ (List.mem_of_getElem? (i := 146) rfl)) (lenOf pd_24 rfl) (by simp) (W := 1) rfl (by decide) (by decide) (by decide) (by decide)
    replace c := c [] (by simp)
    replace c : OAt G K M_sia [s] 1 32 h2 35 #[.val (.ref s), .val (.ref a), .val (.null), .val (.ref b), .val (.int (Int32.ofNat cs.length))] [.ref d, .ref s] := c
    have K1 := Keep.of_wr Wp1
    have nds : d ≠ s := Nat.ne_of_gt (Nat.lt_of_lt_of_le (Es.wr Wp1).lt s_d)
    have Va := (Vs.other Wp1 (Or.inr sne)).keep K2 nin0
    have Ca := (Cs.same Wp1).keep K2 nin0
    have Ea := (Es.wr Wp1).keep K2
    obtain ⟨hp2, Wp2, c⟩ := c.putF (C := "java/lang/String") (O := "java/lang/String") (n := "value") (d := "[B") (ty := (.array .byte)) 38 d_sia_35 (hG.1 _ (List.mem_of_getElem? (i := 20) rfl)) Va Ea (Or.inr ⟨(hG.1 _ (List.mem_of_getElem? (i := 16) rfl)), rfl, rfl⟩) (hG.1 _ (List.mem_of_getElem? (i := 2) rfl)) (by decide) rfl (by first | rfl | decide) hs0 (Or.inl (by simp))
    replace c := c.goto 97 d_sia_38
    exact c.ret d_sia_97 rfl (fun sf hs => ⟨rfl, (((Keep.refl h0 [s]).wr Wp1 (Or.inl (by simp))).trans K2 (fun x hx => by cases hx)).wr Wp2 (Or.inl (by simp)), Or.inl ⟨lc, Ea.wr Wp2, Ca.other Wp2 (Or.inr sne.symm), d, Va.same Wp2, by rw [← tk]; exact Y2.other Wp2 nds⟩⟩) (by decide) (by decide)
  · skip
    replace c := c.ifT 41 d_sia_19 (own_if_eq_t (by decide))
    replace c := c.getS 44 d_sia_41 (hG.1 _ (List.mem_of_getElem? (i := 85) rfl)) hz
    replace c := c.ifF 47 d_sia_44 (own_if_eq_f hz0)
    replace c := c.aloadN 48 d_sia_47 rfl rfl
    replace c := c.getF 51 d_sia_48 (hG.1 _ (List.mem_of_getElem? (i := 240) rfl)) L
    replace c := c.ifT 79 d_sia_51 (own_if_eq_t rfl)
    replace c := c.aloadN 80 d_sia_79 rfl rfl
    replace c := c.iconst 81 d_sia_80 1 (by decide)
    obtain ⟨hp3, Wp3, c⟩ := c.putF (C := "java/lang/String") (O := "java/lang/String") (n := "coder") (d := "B") (ty := .byte) 84 d_sia_81 (hG.1 _ (List.mem_of_getElem? (i := 21) rfl)) Cs Es (Or.inr ⟨(hG.1 _ (List.mem_of_getElem? (i := 17) rfl)), rfl, rfl⟩) (hG.1 _ (List.mem_of_getElem? (i := 2) rfl)) (by decide) rfl (by first | rfl | decide) hs0 (Or.inl (by simp))
    replace c := c.aloadN 85 d_sia_84 rfl rfl
    replace c := c.aloadN 86 d_sia_85 rfl rfl
    replace c := c.iconst 87 d_sia_86 0 (by decide)
    replace c := c.iload 89 d_sia_87 rfl
    replace c := c.iconst 90 d_sia_89 1 (by decide)
    replace c := c.ishl 91 d_sia_90
    rw [own_shl1 cs.length (by omega)] at c
    obtain ⟨v, h2, sf, ⟨d, rfl, s_d, K2, Y2⟩, c⟩ := c.callS (y := y_cor) (argsL := [.ref b, .int 0, .int (Int32.ofNat (2 * cs.length))]) (rest := [.ref s]) 94 d_sia_91 (con_cor hG (i := 2 * cs.length) (by omega) (by omega) (Y.other Wp3 nsb)) rfl (hG.1 _ (List.mem_of_getElem? (i := 143) rfl)) (hG.1 _ (List.mem_of_getElem? (i := 144) rfl)) (hG.1 _ (List.mem_of_getElem? (i := 145) rfl)) (hG.1 _ (List.mem_of_getElem? (i := 146) rfl)) (lenOf pd_24 rfl) (by simp) (W := 1) rfl (by decide) (by decide) (by decide) (by decide)
    replace c := c [] (by simp)
    replace c : OAt G K M_sia [s] 1 32 h2 94 #[.val (.ref s), .val (.ref a), .val (.null), .val (.ref b), .val (.int (Int32.ofNat cs.length))] [.ref d, .ref s] := c
    have K1 := Keep.of_wr Wp3
    have nds : d ≠ s := Nat.ne_of_gt (Nat.lt_of_lt_of_le (Es.wr Wp3).lt s_d)
    have Va := (Vs.other Wp3 (Or.inr sne)).keep K2 nin0
    have Ca := (Cs.same Wp3).keep K2 nin0
    have Ea := (Es.wr Wp3).keep K2
    obtain ⟨hp4, Wp4, c⟩ := c.putF (C := "java/lang/String") (O := "java/lang/String") (n := "value") (d := "[B") (ty := (.array .byte)) 97 d_sia_94 (hG.1 _ (List.mem_of_getElem? (i := 20) rfl)) Va Ea (Or.inr ⟨(hG.1 _ (List.mem_of_getElem? (i := 16) rfl)), rfl, rfl⟩) (hG.1 _ (List.mem_of_getElem? (i := 2) rfl)) (by decide) rfl (by first | rfl | decide) hs0 (Or.inl (by simp))
    exact c.ret d_sia_97 rfl (fun sf hs => ⟨rfl, (((Keep.refl h0 [s]).wr Wp3 (Or.inl (by simp))).trans K2 (fun x hx => by cases hx)).wr Wp4 (Or.inl (by simp)), Or.inr ⟨ct, big, Ea.wr Wp4, Ca.other Wp4 (Or.inr sne.symm), d, Va.same Wp4, by rw [← tk]; exact Y2.other Wp4 nds⟩⟩) (by decide) (by decide)
abbrev y_sib : MethodName := ⟨"java/lang/String", "<init>", "(Ljava/lang/StringBuilder;)V"⟩
theorem pd_26 : parseMethodDescriptor "(Ljava/lang/AbstractStringBuilder;Ljava/lang/Void;)V" = some ⟨[(.object "java/lang/AbstractStringBuilder"), (.object "java/lang/Void")], none⟩ := by decide +kernel
theorem d_sib_0 : decode jdk_42_method_53_code 0 = .ok (.aload_n 0, 1) := by decide +kernel
theorem d_sib_1 : decode jdk_42_method_53_code 1 = .ok (.aload_n 1, 1) := by decide +kernel
theorem d_sib_2 : decode jdk_42_method_53_code 2 = .ok (.aconst_null, 1) := by decide +kernel
theorem d_sib_3 : decode jdk_42_method_53_code 3 = .ok (.invokespecial 489, 3) := by decide +kernel
theorem d_sib_6 : decode jdk_42_method_53_code 6 = .ok (.return_, 1) := by decide +kernel
abbrev rm_sib : Room := { frames := 4, cells := 1, slots := 32, locals := 98 }
abbrev M_sib : Mx := (jdk_42_method_53_code, y_sib.cls, none, y_sib.name, 2, rm_sib)
theorem ef_sib (m : MethodId) (x0 : Addr) (x1 : Addr) : entryFrame m #[.ref x0, .ref x1] 2 = mkF m 0 #[.val (.ref x0), .val (.ref x1)] [] := by first | (simp [entryFrame, mkF, argsToLocals, Value.category]; done) | rfl
set_option maxRecDepth 65536 in
set_option maxHeartbeats 4000000 in
theorem con_sib {G : Gx} (hG : OGood G) {h0 : Heap} {s a b : Addr} {co : Int32} {cs : List Int32} {vs : List Value} (hs0 : G.n0 ≤ s) (Es : Exa G.Z h0 s "java/lang/String") (Vs : Fld G.Z h0 s "java/lang/String" "value" "[B" .null) (Cs : Fld G.Z h0 s "java/lang/String" "coder" "B" (.int 0)) (B : Bq G.Z h0 a b co cs.length vs) (D : BE co cs vs) (hn : cs.length ≤ 14) : OCon G y_sib jdk_42_method_53_code 2 none [] rm_sib #[.ref s, .ref a] [s] h0 (fun v h' _ => v = none ∧ Keep h0 h' [s] ∧ Str G.Z h' s cs) := by
  refine OCon.intro (plainFor_of_name pn_1) (own_ew hG) #[.val (.ref s), .val (.ref a)] (fun m => ef_sib m s a) ?_
  intro K c
  replace c : OAt G K M_sib [s] 0 0 h0 0 #[.val (.ref s), .val (.ref a)] [] := c
  replace c := c.aloadN 1 d_sib_0 rfl rfl
  replace c := c.aloadN 2 d_sib_1 rfl rfl
  replace c := c.aconstNull 3 d_sib_2
  obtain ⟨v, h1, sf, ⟨rfl, K1, S1⟩, c⟩ := c.callI (y := y_sia) (a := s) (argsL := [.ref a, .null]) (rest := []) 6 d_sib_3 (con_sia hG hs0 Es Vs Cs B D hn) rfl (hG.1 _ (List.mem_of_getElem? (i := 122) rfl)) (hG.1 _ (List.mem_of_getElem? (i := 123) rfl)) (hG.1 _ (List.mem_of_getElem? (i := 3) rfl)) (hG.1 _ (List.mem_of_getElem? (i := 124) rfl)) (lenOf pd_26 rfl) (by simp) (W := 0) rfl (by decide) (by decide) (by decide) (by decide)
  replace c := c [] (by simp)
  replace c : OAt G K M_sib [s] 1 32 h1 6 #[.val (.ref s), .val (.ref a)] [] := c
  exact c.ret d_sib_6 rfl (fun sf hs => ⟨rfl, K1, S1⟩) (by decide) (by decide)
abbrev y_tos : MethodName := ⟨"java/lang/StringBuilder", "toString", "()Ljava/lang/String;"⟩
theorem pd_27 : parseMethodDescriptor "(Ljava/lang/StringBuilder;)V" = some ⟨[(.object "java/lang/StringBuilder")], none⟩ := by decide +kernel
theorem d_tos_0 : decode jdk_67_method_42_code 0 = .ok (.new 18, 3) := by decide +kernel
theorem d_tos_3 : decode jdk_67_method_42_code 3 = .ok (.dup, 1) := by decide +kernel
theorem d_tos_4 : decode jdk_67_method_42_code 4 = .ok (.aload_n 0, 1) := by decide +kernel
theorem d_tos_5 : decode jdk_67_method_42_code 5 = .ok (.invokespecial 137, 3) := by decide +kernel
theorem d_tos_8 : decode jdk_67_method_42_code 8 = .ok (.areturn, 1) := by decide +kernel
abbrev rm_tos : Room := { frames := 5, cells := 2, slots := 36, locals := 112 }
abbrev M_tos : Mx := (jdk_67_method_42_code, y_tos.cls, (some (.object "java/lang/String")), y_tos.name, 1, rm_tos)
theorem ef_tos (m : MethodId) (x0 : Addr) : entryFrame m #[.ref x0] 1 = mkF m 0 #[.val (.ref x0)] [] := by first | (simp [entryFrame, mkF, argsToLocals, Value.category]; done) | rfl
set_option maxRecDepth 65536 in
set_option maxHeartbeats 4000000 in
theorem con_tos {G : Gx} (hG : OGood G) {h0 : Heap} {a b : Addr} {co : Int32} {cs : List Int32} {vs : List Value} (B : Bq G.Z h0 a b co cs.length vs) (D : BE co cs vs) (hn : cs.length ≤ 14) : OCon G y_tos jdk_67_method_42_code 1 (some (.object "java/lang/String")) [] rm_tos #[.ref a] [] h0 (fun v h' _ => ∃ s : Addr, v = some (.ref s) ∧ Keep h0 h' [] ∧ Str G.Z h' s cs) := by
  refine OCon.intro (plainFor_of_name pn_3) (own_ew hG) #[.val (.ref a)] (fun m => ef_tos m a) ?_
  intro K c
  replace c : OAt G K M_tos [] 0 0 h0 0 #[.val (.ref a)] [] := c
  obtain ⟨s, h_s, s_s, x_s, g_s, E_s, D_s, U_s, c⟩ := c.newO 3 d_tos_0 (C := "java/lang/String") (hG.1 _ (List.mem_of_getElem? (i := 118) rfl)) (hG.1 _ (List.mem_of_getElem? (i := 2) rfl)) (hG.1 _ (List.mem_of_getElem? (i := 3) rfl)) (by decide) (by decide)
  replace c := c.dup 4 d_tos_3 rfl
  replace c := c.aloadN 5 d_tos_4 rfl rfl
  have V_s : Fld G.Z h_s s "java/lang/String" "value" "[B" .null := D_s (Or.inr (hG.1 _ (List.mem_of_getElem? (i := 16) rfl))) (ty := .array .byte) (by decide)
  have C_s : Fld G.Z h_s s "java/lang/String" "coder" "B" (.int 0) := D_s (Or.inr (hG.1 _ (List.mem_of_getElem? (i := 17) rfl))) (ty := .byte) (by decide)
  obtain ⟨v, h1, sf, ⟨rfl, K1, S1⟩, c⟩ := c.callI (y := y_sib) (a := s) (argsL := [.ref a]) (rest := [.ref s]) 8 d_tos_5 (con_sib hG g_s E_s V_s C_s (B.ext x_s) D hn) rfl (hG.1 _ (List.mem_of_getElem? (i := 119) rfl)) (hG.1 _ (List.mem_of_getElem? (i := 120) rfl)) (hG.1 _ (List.mem_of_getElem? (i := 3) rfl)) (hG.1 _ (List.mem_of_getElem? (i := 121) rfl)) (lenOf pd_27 rfl) (by simp) (W := 1) rfl (by decide) (by decide) (by decide) (by decide)
  replace c := c [] (by simp)
  replace c : OAt G K M_tos [s] 2 36 h1 8 #[.val (.ref a)] [.ref s] := c
  exact c.reta (t := (.object "java/lang/String")) d_tos_8 rfl rfl rfl rfl (fun sf hs => ⟨s, rfl, ((Keep.refl h0 []).ext x_s).trans K1 (fun x hx => by cases List.mem_singleton.mp hx; exact Or.inr (Nat.le_of_eq s_s.symm)), S1⟩) (by decide) (by decide)
abbrev y_ciR : MethodName := ⟨"jdk/internal/util/Preconditions", "checkIndex", "(IILjava/util/function/BiFunction;)I"⟩
theorem d_ciR_0 : decode jdk_41_method_11_code 0 = .ok (.iload_n 0, 1) := by decide +kernel
theorem d_ciR_1 : decode jdk_41_method_11_code 1 = .ok (.ifCond .lt 8, 3) := by decide +kernel
theorem d_ciR_4 : decode jdk_41_method_11_code 4 = .ok (.iload_n 0, 1) := by decide +kernel
theorem d_ciR_5 : decode jdk_41_method_11_code 5 = .ok (.iload_n 1, 1) := by decide +kernel
theorem d_ciR_6 : decode jdk_41_method_11_code 6 = .ok (.if_icmp .lt 10, 3) := by decide +kernel
theorem d_ciR_16 : decode jdk_41_method_11_code 16 = .ok (.iload_n 0, 1) := by decide +kernel
theorem d_ciR_17 : decode jdk_41_method_11_code 17 = .ok (.ireturn, 1) := by decide +kernel
abbrev rm_ciR : Room := { frames := 0, cells := 0, slots := 0, locals := 0 }
abbrev M_ciR : Mx := (jdk_41_method_11_code, y_ciR.cls, (some .int), y_ciR.name, 3, rm_ciR)
theorem ef_ciR (m : MethodId) (x0 : Int32) (x1 : Int32) (x2 : Addr) : entryFrame m #[.int x0, .int x1, .ref x2] 3 = mkF m 0 #[.val (.int x0), .val (.int x1), .val (.ref x2)] [] := by first | (simp [entryFrame, mkF, argsToLocals, Value.category]; done) | rfl
set_option maxRecDepth 65536 in
set_option maxHeartbeats 4000000 in
theorem con_ciR {G : Gx} (hG : OGood G) {h0 : Heap} {i n : Nat} {f : Addr} (hin : i < n) (hn : n ≤ 8000) : OCon G y_ciR jdk_41_method_11_code 3 (some .int) [] rm_ciR #[.int (Int32.ofNat i), .int (Int32.ofNat n), .ref f] [] h0 (fun v h' _ => v = some (.int (Int32.ofNat i)) ∧ h' = h0) := by
  refine OCon.intro (plainFor_of_name pn_4) (own_ew hG) #[.val (.int (Int32.ofNat i)), .val (.int (Int32.ofNat n)), .val (.ref f)] (fun m => ef_ciR m (Int32.ofNat i) (Int32.ofNat n) f) ?_
  intro K c
  replace c : OAt G K M_ciR [] 0 0 h0 0 #[.val (.int (Int32.ofNat i)), .val (.int (Int32.ofNat n)), .val (.ref f)] [] := c
  replace c := c.iloadN 1 d_ciR_0 rfl
  replace c := c.ifF 4 d_ciR_1 (own_if_lt_f (own_nneg (by omega)))
  replace c := c.iloadN 5 d_ciR_4 rfl
  replace c := c.iloadN 6 d_ciR_5 rfl
  replace c := c.icT 16 d_ciR_6 (own_ic_lt_t (own_lt hin (by omega)))
  replace c := c.iloadN 17 d_ciR_16 rfl
  exact c.reti (t := .int) d_ciR_17 rfl rfl (by simp) (fun sf hs => ⟨rfl, rfl⟩) (by decide) (by decide)
abbrev y_ciN : MethodName := ⟨"jdk/internal/util/Preconditions", "checkIndex", "(IILjava/util/function/BiFunction;)I"⟩
theorem d_ciN_0 : decode jdk_41_method_11_code 0 = .ok (.iload_n 0, 1) := by decide +kernel
theorem d_ciN_1 : decode jdk_41_method_11_code 1 = .ok (.ifCond .lt 8, 3) := by decide +kernel
theorem d_ciN_4 : decode jdk_41_method_11_code 4 = .ok (.iload_n 0, 1) := by decide +kernel
theorem d_ciN_5 : decode jdk_41_method_11_code 5 = .ok (.iload_n 1, 1) := by decide +kernel
theorem d_ciN_6 : decode jdk_41_method_11_code 6 = .ok (.if_icmp .lt 10, 3) := by decide +kernel
theorem d_ciN_16 : decode jdk_41_method_11_code 16 = .ok (.iload_n 0, 1) := by decide +kernel
theorem d_ciN_17 : decode jdk_41_method_11_code 17 = .ok (.ireturn, 1) := by decide +kernel
abbrev rm_ciN : Room := { frames := 0, cells := 0, slots := 0, locals := 0 }
abbrev M_ciN : Mx := (jdk_41_method_11_code, y_ciN.cls, (some .int), y_ciN.name, 3, rm_ciN)
theorem ef_ciN (m : MethodId) (x0 : Int32) (x1 : Int32) : entryFrame m #[.int x0, .int x1, .null] 3 = mkF m 0 #[.val (.int x0), .val (.int x1), .val .null] [] := by first | (simp [entryFrame, mkF, argsToLocals, Value.category]; done) | rfl
set_option maxRecDepth 65536 in
set_option maxHeartbeats 4000000 in
theorem con_ciN {G : Gx} (hG : OGood G) {h0 : Heap} {i n : Nat} (hin : i < n) (hn : n ≤ 8000) : OCon G y_ciN jdk_41_method_11_code 3 (some .int) [] rm_ciN #[.int (Int32.ofNat i), .int (Int32.ofNat n), .null] [] h0 (fun v h' _ => v = some (.int (Int32.ofNat i)) ∧ h' = h0) := by
  refine OCon.intro (plainFor_of_name pn_4) (own_ew hG) #[.val (.int (Int32.ofNat i)), .val (.int (Int32.ofNat n)), .val (.null)] (fun m => ef_ciN m (Int32.ofNat i) (Int32.ofNat n)) ?_
  intro K c
  replace c : OAt G K M_ciN [] 0 0 h0 0 #[.val (.int (Int32.ofNat i)), .val (.int (Int32.ofNat n)), .val (.null)] [] := c
  replace c := c.iloadN 1 d_ciN_0 rfl
  replace c := c.ifF 4 d_ciN_1 (own_if_lt_f (own_nneg (by omega)))
  replace c := c.iloadN 5 d_ciN_4 rfl
  replace c := c.iloadN 6 d_ciN_5 rfl
  replace c := c.icT 16 d_ciN_6 (own_ic_lt_t (own_lt hin (by omega)))
  replace c := c.iloadN 17 d_ciN_16 rfl
  exact c.reti (t := .int) d_ciN_17 rfl rfl (by simp) (fun sf hs => ⟨rfl, rfl⟩) (by decide) (by decide)
abbrev y_ci : MethodName := ⟨"java/lang/String", "checkIndex", "(II)V"⟩
theorem pd_28 : parseMethodDescriptor "(IILjava/util/function/BiFunction;)I" = some ⟨[.int, .int, (.object "java/util/function/BiFunction")], some .int⟩ := by decide +kernel
theorem d_ci_0 : decode jdk_42_method_155_code 0 = .ok (.iload_n 0, 1) := by decide +kernel
theorem d_ci_1 : decode jdk_42_method_155_code 1 = .ok (.iload_n 1, 1) := by decide +kernel
theorem d_ci_2 : decode jdk_42_method_155_code 2 = .ok (.getstatic 1053, 3) := by decide +kernel
theorem d_ci_5 : decode jdk_42_method_155_code 5 = .ok (.invokestatic 1059, 3) := by decide +kernel
theorem d_ci_8 : decode jdk_42_method_155_code 8 = .ok (.pop, 1) := by decide +kernel
theorem d_ci_9 : decode jdk_42_method_155_code 9 = .ok (.return_, 1) := by decide +kernel
abbrev rm_ci : Room := { frames := 1, cells := 0, slots := 0, locals := 14 }
abbrev M_ci : Mx := (jdk_42_method_155_code, y_ci.cls, none, y_ci.name, 2, rm_ci)
theorem ef_ci (m : MethodId) (x0 : Int32) (x1 : Int32) : entryFrame m #[.int x0, .int x1] 2 = mkF m 0 #[.val (.int x0), .val (.int x1)] [] := by first | (simp [entryFrame, mkF, argsToLocals, Value.category]; done) | rfl
set_option maxRecDepth 65536 in
set_option maxHeartbeats 4000000 in
theorem con_ci {G : Gx} (hG : OGood G) {h0 : Heap} {i n : Nat} (hin : i < n) (hn : n ≤ 8000) : OCon G y_ci jdk_42_method_155_code 2 none [] rm_ci #[.int (Int32.ofNat i), .int (Int32.ofNat n)] [] h0 (fun v h' _ => v = none ∧ h' = h0) := by
  refine OCon.intro (plainFor_of_name pn_1) (own_ew hG) #[.val (.int (Int32.ofNat i)), .val (.int (Int32.ofNat n))] (fun m => ef_ci m (Int32.ofNat i) (Int32.ofNat n)) ?_
  intro K c
  replace c : OAt G K M_ci [] 0 0 h0 0 #[.val (.int (Int32.ofNat i)), .val (.int (Int32.ofNat n))] [] := c
  replace c := c.iloadN 1 d_ci_0 rfl
  replace c := c.iloadN 2 d_ci_1 rfl
  obtain ⟨z, hz, hzr⟩ := hG.2.2.2.2.2.2.1
  replace c := c.getS 5 d_ci_2 (hG.1 _ (List.mem_of_getElem? (i := 181) rfl)) hz
  rcases ref_cases hzr with rfl | ⟨f, rfl⟩
  · skip
    obtain ⟨v, h1, sf, ⟨rfl, hh⟩, c⟩ := c.callS (y := y_ciN) (argsL := [.int (Int32.ofNat i), .int (Int32.ofNat n), .null]) (rest := []) 8 d_ci_5 (con_ciN hG hin hn) rfl (hG.1 _ (List.mem_of_getElem? (i := 183) rfl)) (hG.1 _ (List.mem_of_getElem? (i := 184) rfl)) (hG.1 _ (List.mem_of_getElem? (i := 182) rfl)) (hG.1 _ (List.mem_of_getElem? (i := 185) rfl)) (lenOf pd_28 rfl) (by simp) (W := 0) rfl (by decide) (by decide) (by decide) (by decide)
    rw [hh] at c
    replace c := c [] (by simp)
    replace c : OAt G K M_ci [] 0 0 h0 8 #[.val (.int (Int32.ofNat i)), .val (.int (Int32.ofNat n))] [.int (Int32.ofNat i)] := c
    replace c := c.pop 9 d_ci_8 rfl
    exact c.ret d_ci_9 rfl (fun sf hs => ⟨rfl, rfl⟩) (by decide) (by decide)
  · skip
    obtain ⟨v, h1, sf, ⟨rfl, hh⟩, c⟩ := c.callS (y := y_ciR) (argsL := [.int (Int32.ofNat i), .int (Int32.ofNat n), .ref f]) (rest := []) 8 d_ci_5 (con_ciR hG (f := f) hin hn) rfl (hG.1 _ (List.mem_of_getElem? (i := 183) rfl)) (hG.1 _ (List.mem_of_getElem? (i := 184) rfl)) (hG.1 _ (List.mem_of_getElem? (i := 182) rfl)) (hG.1 _ (List.mem_of_getElem? (i := 185) rfl)) (lenOf pd_28 rfl) (by simp) (W := 0) rfl (by decide) (by decide) (by decide) (by decide)
    rw [hh] at c
    replace c := c [] (by simp)
    replace c : OAt G K M_ci [] 0 0 h0 8 #[.val (.int (Int32.ofNat i)), .val (.int (Int32.ofNat n))] [.int (Int32.ofNat i)] := c
    replace c := c.pop 9 d_ci_8 rfl
    exact c.ret d_ci_9 rfl (fun sf hs => ⟨rfl, rfl⟩) (by decide) (by decide)
abbrev y_chl : MethodName := ⟨"java/lang/StringLatin1", "charAt", "([BI)C"⟩
theorem d_chl_0 : decode jdk_43_method_2_code 0 = .ok (.iload_n 1, 1) := by decide +kernel
theorem d_chl_1 : decode jdk_43_method_2_code 1 = .ok (.aload_n 0, 1) := by decide +kernel
theorem d_chl_2 : decode jdk_43_method_2_code 2 = .ok (.arraylength, 1) := by decide +kernel
theorem d_chl_3 : decode jdk_43_method_2_code 3 = .ok (.invokestatic 9, 3) := by decide +kernel
theorem d_chl_6 : decode jdk_43_method_2_code 6 = .ok (.aload_n 0, 1) := by decide +kernel
theorem d_chl_7 : decode jdk_43_method_2_code 7 = .ok (.iload_n 1, 1) := by decide +kernel
theorem d_chl_8 : decode jdk_43_method_2_code 8 = .ok (.baload, 1) := by decide +kernel
theorem d_chl_9 : decode jdk_43_method_2_code 9 = .ok (.sipush 255, 3) := by decide +kernel
theorem d_chl_12 : decode jdk_43_method_2_code 12 = .ok (.iand, 1) := by decide +kernel
theorem d_chl_13 : decode jdk_43_method_2_code 13 = .ok (.i2c, 1) := by decide +kernel
theorem d_chl_14 : decode jdk_43_method_2_code 14 = .ok (.ireturn, 1) := by decide +kernel
abbrev rm_chl : Room := { frames := 2, cells := 0, slots := 0, locals := 27 }
abbrev M_chl : Mx := (jdk_43_method_2_code, y_chl.cls, (some .char), y_chl.name, 2, rm_chl)
theorem ef_chl (m : MethodId) (x0 : Addr) (x1 : Int32) : entryFrame m #[.ref x0, .int x1] 2 = mkF m 0 #[.val (.ref x0), .val (.int x1)] [] := by first | (simp [entryFrame, mkF, argsToLocals, Value.category]; done) | rfl
set_option maxRecDepth 65536 in
set_option maxHeartbeats 4000000 in
theorem con_chl {G : Gx} (hG : OGood G) {h0 : Heap} {b : Addr} {i : Nat} {x : Int32} {cs : List Int32} (hl : Lat cs) (hx : cs[i]? = some x) (h4 : cs.length ≤ 4000) (Y : Ary G.Z h0 b .byte (encL cs)) : OCon G y_chl jdk_43_method_2_code 2 (some .char) [] rm_chl #[.ref b, .int (Int32.ofNat i)] [] h0 (fun v h' _ => v = some (.int x) ∧ h' = h0) := by
  refine OCon.intro (plainFor_of_name pn_5) (own_ew hG) #[.val (.ref b), .val (.int (Int32.ofNat i))] (fun m => ef_chl m b (Int32.ofNat i)) ?_
  intro K c
  replace c : OAt G K M_chl [] 0 0 h0 0 #[.val (.ref b), .val (.int (Int32.ofNat i))] [] := c
  have hi := (List.getElem?_eq_some_iff.mp hx).1
  have rx := hl x (List.mem_of_getElem? hx)
  replace c := c.iloadN 1 d_chl_0 rfl
  replace c := c.aloadN 2 d_chl_1 rfl rfl
  replace c := c.arrlen 3 d_chl_2 Y (Int32.ofNat cs.length) (by rw [encL_len])
  obtain ⟨v, h1, sf, ⟨rfl, hh⟩, c⟩ := c.callS (y := y_ci) (argsL := [.int (Int32.ofNat i), .int (Int32.ofNat cs.length)]) (rest := []) 6 d_chl_3 (con_ci hG hi (by omega)) rfl (hG.1 _ (List.mem_of_getElem? (i := 178) rfl)) (hG.1 _ (List.mem_of_getElem? (i := 179) rfl)) (hG.1 _ (List.mem_of_getElem? (i := 3) rfl)) (hG.1 _ (List.mem_of_getElem? (i := 180) rfl)) (lenOf pd_22 rfl) (by simp) (W := 0) rfl (by decide) (by decide) (by decide) (by decide)
  rw [hh] at c
  replace c := c [] (by simp)
  replace c : OAt G K M_chl [] 0 0 h0 6 #[.val (.ref b), .val (.int (Int32.ofNat i))] [] := c
  replace c := c.aloadN 7 d_chl_6 rfl rfl
  replace c := c.iloadN 8 d_chl_7 rfl
  replace c := c.baload 9 d_chl_8 Y (i) rfl (.int (lo8 x)) (by simp [encL, hx])
  replace c := c.sipush 12 d_chl_9 255 (by decide)
  replace c := c.iand 13 d_chl_12
  rw [own_mask rx] at c
  replace c := c.i2c 14 d_chl_13
  rw [own_i2c ⟨rx.1, by omega⟩] at c
  exact c.reti (t := .char) d_chl_14 rfl (by show Value.int _ = _; rw [own_i2c ⟨rx.1, by omega⟩]) (by simp) (fun sf hs => ⟨rfl, rfl⟩) (by decide) (by decide)
abbrev y_isl : MethodName := ⟨"java/lang/String", "isLatin1", "()Z"⟩
theorem d_isl_0 : decode jdk_42_method_154_code 0 = .ok (.getstatic 38, 3) := by decide +kernel
theorem d_isl_3 : decode jdk_42_method_154_code 3 = .ok (.ifCond .eq 14, 3) := by decide +kernel
theorem d_isl_6 : decode jdk_42_method_154_code 6 = .ok (.aload_n 0, 1) := by decide +kernel
theorem d_isl_7 : decode jdk_42_method_154_code 7 = .ok (.getfield 15, 3) := by decide +kernel
theorem d_isl_10 : decode jdk_42_method_154_code 10 = .ok (.ifCond .ne 7, 3) := by decide +kernel
theorem d_isl_13 : decode jdk_42_method_154_code 13 = .ok (.iconst 1, 1) := by decide +kernel
theorem d_isl_14 : decode jdk_42_method_154_code 14 = .ok (.goto 4, 3) := by decide +kernel
theorem d_isl_17 : decode jdk_42_method_154_code 17 = .ok (.iconst 0, 1) := by decide +kernel
theorem d_isl_18 : decode jdk_42_method_154_code 18 = .ok (.ireturn, 1) := by decide +kernel
abbrev rm_isl : Room := { frames := 0, cells := 0, slots := 0, locals := 0 }
abbrev M_isl : Mx := (jdk_42_method_154_code, y_isl.cls, (some .boolean), y_isl.name, 1, rm_isl)
theorem ef_isl (m : MethodId) (x0 : Addr) : entryFrame m #[.ref x0] 1 = mkF m 0 #[.val (.ref x0)] [] := by first | (simp [entryFrame, mkF, argsToLocals, Value.category]; done) | rfl
set_option maxRecDepth 65536 in
set_option maxHeartbeats 4000000 in
theorem con_isl {G : Gx} (hG : OGood G) {h0 : Heap} {a : Addr} {co : Int32} {bs : List Value} (B : StrB G.Z h0 a co bs) (hco : co = 0 ∨ co = 1) : OCon G y_isl jdk_42_method_154_code 1 (some .boolean) [] rm_isl #[.ref a] [] h0 (fun v h' _ => v = some (.int (1 - co)) ∧ h' = h0) := by
  refine OCon.intro (plainFor_of_name pn_1) (own_ew hG) #[.val (.ref a)] (fun m => ef_isl m a) ?_
  intro K c
  replace c : OAt G K M_isl [] 0 0 h0 0 #[.val (.ref a)] [] := c
  obtain ⟨E, C, b, V, Y⟩ := B
  obtain ⟨z, hz, hz0⟩ := hG.2.2.1
  replace c := c.getS 3 d_isl_0 (hG.1 _ (List.mem_of_getElem? (i := 85) rfl)) hz
  replace c := c.ifF 6 d_isl_3 (own_if_eq_f hz0)
  replace c := c.aloadN 7 d_isl_6 rfl rfl
  replace c := c.getF 10 d_isl_7 (hG.1 _ (List.mem_of_getElem? (i := 21) rfl)) C
  rcases hco with rfl | rfl
  · skip
    replace c := c.ifF 13 d_isl_10 (own_if_ne_f (by decide))
    replace c := c.iconst 14 d_isl_13 1 (by decide)
    replace c := c.goto 18 d_isl_14
    exact c.reti (t := .boolean) d_isl_18 rfl rfl (by simp) (fun sf hs => ⟨rfl, rfl⟩) (by decide) (by decide)
  · skip
    replace c := c.ifT 17 d_isl_10 (own_if_ne_t (by decide))
    replace c := c.iconst 18 d_isl_17 0 (by decide)
    exact c.reti (t := .boolean) d_isl_18 rfl rfl (by simp) (fun sf hs => ⟨rfl, rfl⟩) (by decide) (by decide)
abbrev y_ucx : MethodName := ⟨"java/lang/StringUTF16", "checkIndex", "(I[B)V"⟩
theorem d_ucx_0 : decode jdk_52_method_91_code 0 = .ok (.iload_n 0, 1) := by decide +kernel
theorem d_ucx_1 : decode jdk_52_method_91_code 1 = .ok (.aload_n 1, 1) := by decide +kernel
theorem d_ucx_2 : decode jdk_52_method_91_code 2 = .ok (.invokestatic 48, 3) := by decide +kernel
theorem d_ucx_5 : decode jdk_52_method_91_code 5 = .ok (.invokestatic 414, 3) := by decide +kernel
theorem d_ucx_8 : decode jdk_52_method_91_code 8 = .ok (.return_, 1) := by decide +kernel
abbrev rm_ucx : Room := { frames := 2, cells := 0, slots := 0, locals := 27 }
abbrev M_ucx : Mx := (jdk_52_method_91_code, y_ucx.cls, none, y_ucx.name, 2, rm_ucx)
theorem ef_ucx (m : MethodId) (x0 : Int32) (x1 : Addr) : entryFrame m #[.int x0, .ref x1] 2 = mkF m 0 #[.val (.int x0), .val (.ref x1)] [] := by first | (simp [entryFrame, mkF, argsToLocals, Value.category]; done) | rfl
set_option maxRecDepth 65536 in
set_option maxHeartbeats 4000000 in
theorem con_ucx {G : Gx} (hG : OGood G) {h0 : Heap} {b : Addr} {i k : Nat} {vs : List Value} (Y : Ary G.Z h0 b .byte vs) (hk : vs.length = 2 * k) (hk2 : k ≤ 4000) (hi : i < k) : OCon G y_ucx jdk_52_method_91_code 2 none [] rm_ucx #[.int (Int32.ofNat i), .ref b] [] h0 (fun v h' _ => v = none ∧ h' = h0) := by
  refine OCon.intro (plainFor_of_name pn_0) (own_ew hG) #[.val (.int (Int32.ofNat i)), .val (.ref b)] (fun m => ef_ucx m (Int32.ofNat i) b) ?_
  intro K c
  replace c : OAt G K M_ucx [] 0 0 h0 0 #[.val (.int (Int32.ofNat i)), .val (.ref b)] [] := c
  replace c := c.iloadN 1 d_ucx_0 rfl
  replace c := c.aloadN 2 d_ucx_1 rfl rfl
  obtain ⟨v, h1, sf, ⟨rfl, hh⟩, c⟩ := c.callS (y := y_ul) (argsL := [.ref b]) (rest := [.int (Int32.ofNat i)]) 5 d_ucx_2 (con_ul hG (k := k) Y hk hk2) rfl (hG.1 _ (List.mem_of_getElem? (i := 231) rfl)) (hG.1 _ (List.mem_of_getElem? (i := 232) rfl)) (hG.1 _ (List.mem_of_getElem? (i := 188) rfl)) (hG.1 _ (List.mem_of_getElem? (i := 233) rfl)) (lenOf pd_12 rfl) (by simp) (W := 1) rfl (by decide) (by decide) (by decide) (by decide)
  rw [hh] at c
  replace c := c [] (by simp)
  replace c : OAt G K M_ucx [] 0 0 h0 5 #[.val (.int (Int32.ofNat i)), .val (.ref b)] [.int (Int32.ofNat k), .int (Int32.ofNat i)] := c
  obtain ⟨v, h1, sf, ⟨rfl, hh⟩, c⟩ := c.callS (y := y_ci) (argsL := [.int (Int32.ofNat i), .int (Int32.ofNat k)]) (rest := []) 8 d_ucx_5 (con_ci hG hi (by omega)) rfl (hG.1 _ (List.mem_of_getElem? (i := 248) rfl)) (hG.1 _ (List.mem_of_getElem? (i := 179) rfl)) (hG.1 _ (List.mem_of_getElem? (i := 3) rfl)) (hG.1 _ (List.mem_of_getElem? (i := 180) rfl)) (lenOf pd_22 rfl) (by simp) (W := 0) rfl (by decide) (by decide) (by decide) (by decide)
  rw [hh] at c
  replace c := c [] (by simp)
  replace c : OAt G K M_ucx [] 0 0 h0 8 #[.val (.int (Int32.ofNat i)), .val (.ref b)] [] := c
  exact c.ret d_ucx_8 rfl (fun sf hs => ⟨rfl, rfl⟩) (by decide) (by decide)
abbrev y_uch : MethodName := ⟨"java/lang/StringUTF16", "charAt", "([BI)C"⟩
theorem pd_29 : parseMethodDescriptor "(I[B)V" = some ⟨[.int, (.array .byte)], none⟩ := by decide +kernel
theorem d_uch_0 : decode jdk_52_method_83_code 0 = .ok (.iload_n 1, 1) := by decide +kernel
theorem d_uch_1 : decode jdk_52_method_83_code 1 = .ok (.aload_n 0, 1) := by decide +kernel
theorem d_uch_2 : decode jdk_52_method_83_code 2 = .ok (.invokestatic 67, 3) := by decide +kernel
theorem d_uch_5 : decode jdk_52_method_83_code 5 = .ok (.aload_n 0, 1) := by decide +kernel
theorem d_uch_6 : decode jdk_52_method_83_code 6 = .ok (.iload_n 1, 1) := by decide +kernel
theorem d_uch_7 : decode jdk_52_method_83_code 7 = .ok (.invokestatic 71, 3) := by decide +kernel
theorem d_uch_10 : decode jdk_52_method_83_code 10 = .ok (.ireturn, 1) := by decide +kernel
abbrev rm_uch : Room := { frames := 3, cells := 0, slots := 0, locals := 40 }
abbrev M_uch : Mx := (jdk_52_method_83_code, y_uch.cls, (some .char), y_uch.name, 2, rm_uch)
theorem ef_uch (m : MethodId) (x0 : Addr) (x1 : Int32) : entryFrame m #[.ref x0, .int x1] 2 = mkF m 0 #[.val (.ref x0), .val (.int x1)] [] := by first | (simp [entryFrame, mkF, argsToLocals, Value.category]; done) | rfl
set_option maxRecDepth 65536 in
set_option maxHeartbeats 4000000 in
theorem con_uch {G : Gx} (hG : OGood G) {h0 : Heap} {b : Addr} {i : Nat} {x : Int32} {cs : List Int32} (hx : cs[i]? = some x) (h4 : cs.length ≤ 4000) (hc : Chs cs) (Y : Ary G.Z h0 b .byte (encU cs)) : OCon G y_uch jdk_52_method_83_code 2 (some .char) [] rm_uch #[.ref b, .int (Int32.ofNat i)] [] h0 (fun v h' _ => v = some (.int x) ∧ h' = h0) := by
  refine OCon.intro (plainFor_of_name pn_0) (own_ew hG) #[.val (.ref b), .val (.int (Int32.ofNat i))] (fun m => ef_uch m b (Int32.ofNat i)) ?_
  intro K c
  replace c : OAt G K M_uch [] 0 0 h0 0 #[.val (.ref b), .val (.int (Int32.ofNat i))] [] := c
  have hi := (List.getElem?_eq_some_iff.mp hx).1
  have rx := hc x (List.mem_of_getElem? hx)
  replace c := c.iloadN 1 d_uch_0 rfl
  replace c := c.aloadN 2 d_uch_1 rfl rfl
  obtain ⟨v, h1, sf, ⟨rfl, hh⟩, c⟩ := c.callS (y := y_ucx) (argsL := [.int (Int32.ofNat i), .ref b]) (rest := []) 5 d_uch_2 (con_ucx hG Y (encU_len cs) h4 hi) rfl (hG.1 _ (List.mem_of_getElem? (i := 245) rfl)) (hG.1 _ (List.mem_of_getElem? (i := 246) rfl)) (hG.1 _ (List.mem_of_getElem? (i := 188) rfl)) (hG.1 _ (List.mem_of_getElem? (i := 247) rfl)) (lenOf pd_29 rfl) (by simp) (W := 0) rfl (by decide) (by decide) (by decide) (by decide)
  rw [hh] at c
  replace c := c [] (by simp)
  replace c : OAt G K M_uch [] 0 0 h0 5 #[.val (.ref b), .val (.int (Int32.ofNat i))] [] := c
  replace c := c.aloadN 6 d_uch_5 rfl rfl
  replace c := c.iloadN 7 d_uch_6 rfl
  obtain ⟨v, h1, sf, ⟨rfl, hh⟩, c⟩ := c.callS (y := y_getc) (argsL := [.ref b, .int (Int32.ofNat i)]) (rest := []) 10 d_uch_7 (con_getc hG (x := x) Y (own_encU hx).1 (own_encU hx).2 rx (by omega)) rfl (hG.1 _ (List.mem_of_getElem? (i := 212) rfl)) (hG.1 _ (List.mem_of_getElem? (i := 213) rfl)) (hG.1 _ (List.mem_of_getElem? (i := 188) rfl)) (hG.1 _ (List.mem_of_getElem? (i := 214) rfl)) (lenOf pd_5 rfl) (by simp) (W := 0) rfl (by decide) (by decide) (by decide) (by decide)
  rw [hh] at c
  replace c := c [] (by simp)
  replace c : OAt G K M_uch [] 0 0 h0 10 #[.val (.ref b), .val (.int (Int32.ofNat i))] [.int x] := c
  exact c.reti (t := .char) d_uch_10 rfl (by show Value.int _ = _; rw [own_i2c rx]) (by simp) (fun sf hs => ⟨rfl, rfl⟩) (by decide) (by decide)
abbrev y_cha : MethodName := ⟨"java/lang/String", "charAt", "(I)C"⟩
theorem d_cha_0 : decode jdk_42_method_56_code 0 = .ok (.aload_n 0, 1) := by decide +kernel
theorem d_cha_1 : decode jdk_42_method_56_code 1 = .ok (.invokevirtual 492, 3) := by decide +kernel
theorem d_cha_4 : decode jdk_42_method_56_code 4 = .ok (.ifCond .eq 12, 3) := by decide +kernel
theorem d_cha_7 : decode jdk_42_method_56_code 7 = .ok (.aload_n 0, 1) := by decide +kernel
theorem d_cha_8 : decode jdk_42_method_56_code 8 = .ok (.getfield 9, 3) := by decide +kernel
theorem d_cha_11 : decode jdk_42_method_56_code 11 = .ok (.iload_n 1, 1) := by decide +kernel
theorem d_cha_12 : decode jdk_42_method_56_code 12 = .ok (.invokestatic 495, 3) := by decide +kernel
theorem d_cha_15 : decode jdk_42_method_56_code 15 = .ok (.ireturn, 1) := by decide +kernel
theorem d_cha_16 : decode jdk_42_method_56_code 16 = .ok (.aload_n 0, 1) := by decide +kernel
theorem d_cha_17 : decode jdk_42_method_56_code 17 = .ok (.getfield 9, 3) := by decide +kernel
theorem d_cha_20 : decode jdk_42_method_56_code 20 = .ok (.iload_n 1, 1) := by decide +kernel
theorem d_cha_21 : decode jdk_42_method_56_code 21 = .ok (.invokestatic 498, 3) := by decide +kernel
theorem d_cha_24 : decode jdk_42_method_56_code 24 = .ok (.ireturn, 1) := by decide +kernel
abbrev rm_cha : Room := { frames := 4, cells := 0, slots := 0, locals := 53 }
abbrev M_cha : Mx := (jdk_42_method_56_code, y_cha.cls, (some .char), y_cha.name, 2, rm_cha)
theorem ef_cha (m : MethodId) (x0 : Addr) (x1 : Int32) : entryFrame m #[.ref x0, .int x1] 2 = mkF m 0 #[.val (.ref x0), .val (.int x1)] [] := by first | (simp [entryFrame, mkF, argsToLocals, Value.category]; done) | rfl
set_option maxRecDepth 65536 in
set_option maxHeartbeats 4000000 in
theorem con_cha {G : Gx} (hG : OGood G) {h0 : Heap} {a : Addr} {i : Nat} {x : Int32} {cs : List Int32} (hx : cs[i]? = some x) (h4 : cs.length ≤ 4000) (S : Str G.Z h0 a cs) : OCon G y_cha jdk_42_method_56_code 2 (some .char) [] rm_cha #[.ref a, .int (Int32.ofNat i)] [] h0 (fun v h' _ => v = some (.int x) ∧ h' = h0) := by
  refine OCon.intro (plainFor_of_name pn_1) (own_ew hG) #[.val (.ref a), .val (.int (Int32.ofNat i))] (fun m => ef_cha m a (Int32.ofNat i)) ?_
  intro K c
  replace c : OAt G K M_cha [] 0 0 h0 0 #[.val (.ref a), .val (.int (Int32.ofNat i))] [] := c
  replace c := c.aloadN 1 d_cha_0 rfl rfl
  rcases S with ⟨lc, B⟩ | ⟨ct, -, B⟩
  · skip
    obtain ⟨E, C, b, V, Y⟩ := id B
    have rx := own_latch lc x (List.mem_of_getElem? hx)
    obtain ⟨v, h1, sf, ⟨rfl, hh⟩, c⟩ := c.callV (y := (⟨"java/lang/String", "isLatin1", "()Z"⟩ : MethodName)) (z := y_isl) (C := "java/lang/String") (a := a) (argsL := []) (rest := []) 4 d_cha_1 (con_isl hG B (Or.inl rfl)) rfl E (hG.1 _ (List.mem_of_getElem? (i := 169) rfl)) (hG.1 _ (List.mem_of_getElem? (i := 170) rfl)) (own_nf (hG.1 _ (List.mem_of_getElem? (i := 172) rfl))) (hG.1 _ (List.mem_of_getElem? (i := 172) rfl)) (hG.1 _ (List.mem_of_getElem? (i := 171) rfl)) (hG.1 _ (List.mem_of_getElem? (i := 3) rfl)) (hG.1 _ (List.mem_of_getElem? (i := 173) rfl)) (lenOf pd_16 rfl) (by simp) (W := 0) rfl (by decide) (by decide) (by decide) (by decide)
    rw [hh] at c
    replace c := c [] (by simp)
    replace c : OAt G K M_cha [] 0 0 h0 4 #[.val (.ref a), .val (.int (Int32.ofNat i))] [.int (1 - 0)] := c
    replace c := c.ifF 7 d_cha_4 (own_if_eq_f (by decide))
    replace c := c.aloadN 8 d_cha_7 rfl rfl
    replace c := c.getF 11 d_cha_8 (hG.1 _ (List.mem_of_getElem? (i := 20) rfl)) V
    replace c := c.iloadN 12 d_cha_11 rfl
    obtain ⟨v, h1, sf, ⟨rfl, hh⟩, c⟩ := c.callS (y := y_chl) (argsL := [.ref b, .int (Int32.ofNat i)]) (rest := []) 15 d_cha_12 (con_chl hG lc hx h4 Y) rfl (hG.1 _ (List.mem_of_getElem? (i := 174) rfl)) (hG.1 _ (List.mem_of_getElem? (i := 175) rfl)) (hG.1 _ (List.mem_of_getElem? (i := 176) rfl)) (hG.1 _ (List.mem_of_getElem? (i := 177) rfl)) (lenOf pd_5 rfl) (by simp) (W := 0) rfl (by decide) (by decide) (by decide) (by decide)
    rw [hh] at c
    replace c := c [] (by simp)
    replace c : OAt G K M_cha [] 0 0 h0 15 #[.val (.ref a), .val (.int (Int32.ofNat i))] [.int x] := c
    exact c.reti (t := .char) d_cha_15 rfl (by show Value.int _ = _; rw [own_i2c rx]) (by simp) (fun sf hs => ⟨rfl, rfl⟩) (by decide) (by decide)
  · skip
    obtain ⟨E, C, b, V, Y⟩ := id B
    have rx := ct x (List.mem_of_getElem? hx)
    obtain ⟨v, h1, sf, ⟨rfl, hh⟩, c⟩ := c.callV (y := (⟨"java/lang/String", "isLatin1", "()Z"⟩ : MethodName)) (z := y_isl) (C := "java/lang/String") (a := a) (argsL := []) (rest := []) 4 d_cha_1 (con_isl hG B (Or.inr rfl)) rfl E (hG.1 _ (List.mem_of_getElem? (i := 169) rfl)) (hG.1 _ (List.mem_of_getElem? (i := 170) rfl)) (own_nf (hG.1 _ (List.mem_of_getElem? (i := 172) rfl))) (hG.1 _ (List.mem_of_getElem? (i := 172) rfl)) (hG.1 _ (List.mem_of_getElem? (i := 171) rfl)) (hG.1 _ (List.mem_of_getElem? (i := 3) rfl)) (hG.1 _ (List.mem_of_getElem? (i := 173) rfl)) (lenOf pd_16 rfl) (by simp) (W := 0) rfl (by decide) (by decide) (by decide) (by decide)
    rw [hh] at c
    replace c := c [] (by simp)
    replace c : OAt G K M_cha [] 0 0 h0 4 #[.val (.ref a), .val (.int (Int32.ofNat i))] [.int (1 - 1)] := c
    replace c := c.ifT 16 d_cha_4 (own_if_eq_t (by decide))
    replace c := c.aloadN 17 d_cha_16 rfl rfl
    replace c := c.getF 20 d_cha_17 (hG.1 _ (List.mem_of_getElem? (i := 20) rfl)) V
    replace c := c.iloadN 21 d_cha_20 rfl
    obtain ⟨v, h1, sf, ⟨rfl, hh⟩, c⟩ := c.callS (y := y_uch) (argsL := [.ref b, .int (Int32.ofNat i)]) (rest := []) 24 d_cha_21 (con_uch hG hx h4 ct Y) rfl (hG.1 _ (List.mem_of_getElem? (i := 242) rfl)) (hG.1 _ (List.mem_of_getElem? (i := 243) rfl)) (hG.1 _ (List.mem_of_getElem? (i := 188) rfl)) (hG.1 _ (List.mem_of_getElem? (i := 244) rfl)) (lenOf pd_5 rfl) (by simp) (W := 0) rfl (by decide) (by decide) (by decide) (by decide)
    rw [hh] at c
    replace c := c [] (by simp)
    replace c : OAt G K M_cha [] 0 0 h0 24 #[.val (.ref a), .val (.int (Int32.ofNat i))] [.int x] := c
    exact c.reti (t := .char) d_cha_24 rfl (by show Value.int _ = _; rw [own_i2c rx]) (by simp) (fun sf hs => ⟨rfl, rfl⟩) (by decide) (by decide)
abbrev y_rnn : MethodName := ⟨"java/util/Objects", "requireNonNull", "(Ljava/lang/Object;)Ljava/lang/Object;"⟩
theorem pn_7 : plainName "java/util/Objects" = true := by first | (simp [plainName, overriddenIn]; done) | decide +kernel
theorem d_rnn_0 : decode jdk_31_method_10_code 0 = .ok (.aload_n 0, 1) := by decide +kernel
theorem d_rnn_1 : decode jdk_31_method_10_code 1 = .ok (.ifnonnull 11, 3) := by decide +kernel
theorem d_rnn_12 : decode jdk_31_method_10_code 12 = .ok (.aload_n 0, 1) := by decide +kernel
theorem d_rnn_13 : decode jdk_31_method_10_code 13 = .ok (.areturn, 1) := by decide +kernel
abbrev rm_rnn : Room := { frames := 0, cells := 0, slots := 0, locals := 0 }
abbrev M_rnn : Mx := (jdk_31_method_10_code, y_rnn.cls, (some (.object "java/lang/Object")), y_rnn.name, 1, rm_rnn)
theorem ef_rnn (m : MethodId) (x0 : Addr) : entryFrame m #[.ref x0] 1 = mkF m 0 #[.val (.ref x0)] [] := by first | (simp [entryFrame, mkF, argsToLocals, Value.category]; done) | rfl
set_option maxRecDepth 65536 in
set_option maxHeartbeats 4000000 in
theorem con_rnn {G : Gx} (hG : OGood G) {h0 : Heap} {a : Addr} : OCon G y_rnn jdk_31_method_10_code 1 (some (.object "java/lang/Object")) [] rm_rnn #[.ref a] [] h0 (fun v h' _ => v = some (.ref a) ∧ h' = h0) := by
  refine OCon.intro (plainFor_of_name pn_7) (own_ew hG) #[.val (.ref a)] (fun m => ef_rnn m a) ?_
  intro K c
  replace c : OAt G K M_rnn [] 0 0 h0 0 #[.val (.ref a)] [] := c
  replace c := c.aloadN 1 d_rnn_0 rfl rfl
  replace c := c.nonnullT 12 d_rnn_1
  replace c := c.aloadN 13 d_rnn_12 rfl rfl
  exact c.reta (t := (.object "java/lang/Object")) d_rnn_13 rfl rfl rfl rfl (fun sf hs => ⟨rfl, rfl⟩) (by decide) (by decide)
abbrev y_aui : MethodName := ⟨"com/example/wegweiser/wegweiser/directory/Author", "<init>", "(Ljava/lang/String;)V"⟩
theorem pn_8 : plainName "com/example/wegweiser/wegweiser/directory/Author" = true := by first | (simp [plainName, overriddenIn]; done) | decide +kernel
theorem d_aui_0 : decode prog_6_method_1_code 0 = .ok (.aload_n 0, 1) := by decide +kernel
theorem d_aui_1 : decode prog_6_method_1_code 1 = .ok (.invokespecial 1, 3) := by decide +kernel
theorem d_aui_4 : decode prog_6_method_1_code 4 = .ok (.aload_n 0, 1) := by decide +kernel
theorem d_aui_5 : decode prog_6_method_1_code 5 = .ok (.aload_n 1, 1) := by decide +kernel
theorem d_aui_6 : decode prog_6_method_1_code 6 = .ok (.putfield 7, 3) := by decide +kernel
theorem d_aui_9 : decode prog_6_method_1_code 9 = .ok (.return_, 1) := by decide +kernel
abbrev rm_aui : Room := { frames := 1, cells := 0, slots := 0, locals := 12 }
abbrev M_aui : Mx := (prog_6_method_1_code, y_aui.cls, none, y_aui.name, 2, rm_aui)
theorem ef_aui (m : MethodId) (x0 : Addr) (x1 : Addr) : entryFrame m #[.ref x0, .ref x1] 2 = mkF m 0 #[.val (.ref x0), .val (.ref x1)] [] := by first | (simp [entryFrame, mkF, argsToLocals, Value.category]; done) | rfl
set_option maxRecDepth 65536 in
set_option maxHeartbeats 4000000 in
theorem con_aui {G : Gx} (hG : OGood G) {h0 : Heap} {q t : Addr} (hq : G.n0 ≤ q) (E : Exa G.Z h0 q "com/example/wegweiser/wegweiser/directory/Author") (F : Fld G.Z h0 q "com/example/wegweiser/wegweiser/directory/Author" "clientId" "Ljava/lang/String;" .null) : OCon G y_aui prog_6_method_1_code 2 none [] rm_aui #[.ref q, .ref t] [q] h0 (fun v h' _ => v = none ∧ Keep h0 h' [q] ∧ Exa G.Z h' q "com/example/wegweiser/wegweiser/directory/Author" ∧ Fld G.Z h' q "com/example/wegweiser/wegweiser/directory/Author" "clientId" "Ljava/lang/String;" (.ref t)) := by
  refine OCon.intro (plainFor_of_name pn_8) (own_ew hG) #[.val (.ref q), .val (.ref t)] (fun m => ef_aui m q t) ?_
  intro K c
  replace c : OAt G K M_aui [q] 0 0 h0 0 #[.val (.ref q), .val (.ref t)] [] := c
  replace c := c.aloadN 1 d_aui_0 rfl rfl
  replace c := c.initO 4 d_aui_1 (hG.1 _ (List.mem_of_getElem? (i := 36) rfl)) (hG.1 _ (List.mem_of_getElem? (i := 12) rfl)) (hG.1 _ (List.mem_of_getElem? (i := 13) rfl)) (W := 0) rfl (by decide) (by decide)
  replace c := c.aloadN 5 d_aui_4 rfl rfl
  replace c := c.aloadN 6 d_aui_5 rfl rfl
  obtain ⟨hp1, Wp1, c⟩ := c.putF (C := "com/example/wegweiser/wegweiser/directory/Author") (O := "com/example/wegweiser/wegweiser/directory/Author") (n := "clientId") (d := "Ljava/lang/String;") (ty := (.object "java/lang/String")) 9 d_aui_6 (hG.1 _ (List.mem_of_getElem? (i := 37) rfl)) F E (Or.inr ⟨(hG.1 _ (List.mem_of_getElem? (i := 38) rfl)), rfl, rfl⟩) (hG.1 _ (List.mem_of_getElem? (i := 27) rfl)) (by decide) rfl (by first | rfl | decide) hq (Or.inr ⟨by decide, by decide⟩)
  exact c.ret d_aui_9 rfl (fun sf hs => ⟨rfl, Keep.of_wr Wp1, E.wr Wp1, F.same Wp1⟩) (by decide) (by decide)
abbrev y_cli : MethodName := ⟨"com/example/wegweiser/wegweiser/directory/Author", "client", "(Ljava/lang/String;)Lcom/example/wegweiser/wegweiser/directory/Author;"⟩
theorem pd_30 : parseMethodDescriptor "(Ljava/lang/Object;)Ljava/lang/Object;" = some ⟨[(.object "java/lang/Object")], some (.object "java/lang/Object")⟩ := by decide +kernel
theorem d_cli_0 : decode prog_6_method_2_code 0 = .ok (.new 8, 3) := by decide +kernel
theorem d_cli_3 : decode prog_6_method_2_code 3 = .ok (.dup, 1) := by decide +kernel
theorem d_cli_4 : decode prog_6_method_2_code 4 = .ok (.aload_n 0, 1) := by decide +kernel
theorem d_cli_5 : decode prog_6_method_2_code 5 = .ok (.invokestatic 13, 3) := by decide +kernel
theorem d_cli_8 : decode prog_6_method_2_code 8 = .ok (.checkcast 19, 3) := by decide +kernel
theorem d_cli_11 : decode prog_6_method_2_code 11 = .ok (.invokespecial 21, 3) := by decide +kernel
theorem d_cli_14 : decode prog_6_method_2_code 14 = .ok (.areturn, 1) := by decide +kernel
abbrev rm_cli : Room := { frames := 2, cells := 1, slots := 1, locals := 26 }
abbrev M_cli : Mx := (prog_6_method_2_code, y_cli.cls, (some (.object "com/example/wegweiser/wegweiser/directory/Author")), y_cli.name, 1, rm_cli)
theorem ef_cli (m : MethodId) (x0 : Addr) : entryFrame m #[.ref x0] 1 = mkF m 0 #[.val (.ref x0)] [] := by first | (simp [entryFrame, mkF, argsToLocals, Value.category]; done) | rfl
set_option maxRecDepth 65536 in
set_option maxHeartbeats 4000000 in
theorem con_cli {G : Gx} (hG : OGood G) {h0 : Heap} {t : Addr} (E : Exa G.Z h0 t "java/lang/String") : OCon G y_cli prog_6_method_2_code 1 (some (.object "com/example/wegweiser/wegweiser/directory/Author")) [] rm_cli #[.ref t] [] h0 (fun v h' _ => ∃ q : Addr, v = some (.ref q) ∧ h0.size ≤ q ∧ Keep h0 h' [] ∧ Exa G.Z h' q "com/example/wegweiser/wegweiser/directory/Author" ∧ Fld G.Z h' q "com/example/wegweiser/wegweiser/directory/Author" "clientId" "Ljava/lang/String;" (.ref t)) := by
  refine OCon.intro (plainFor_of_name pn_8) (own_ew hG) #[.val (.ref t)] (fun m => ef_cli m t) ?_
  intro K c
  replace c : OAt G K M_cli [] 0 0 h0 0 #[.val (.ref t)] [] := c
  obtain ⟨q, h_q, s_q, x_q, g_q, E_q, D_q, U_q, c⟩ := c.newO 3 d_cli_0 (C := "com/example/wegweiser/wegweiser/directory/Author") (hG.1 _ (List.mem_of_getElem? (i := 26) rfl)) (hG.1 _ (List.mem_of_getElem? (i := 27) rfl)) (hG.1 _ (List.mem_of_getElem? (i := 24) rfl)) (by decide) (by decide)
  have F0 : Fld G.Z h_q q "com/example/wegweiser/wegweiser/directory/Author" "clientId" "Ljava/lang/String;" .null := D_q (Or.inr (hG.1 _ (List.mem_of_getElem? (i := 38) rfl))) (ty := .object "java/lang/String") (by decide)
  replace c := c.dup 4 d_cli_3 rfl
  replace c := c.aloadN 5 d_cli_4 rfl rfl
  obtain ⟨v, h1, sf, ⟨rfl, hh⟩, c⟩ := c.callS (y := y_rnn) (argsL := [.ref t]) (rest := [.ref q, .ref q]) 8 d_cli_5 (con_rnn hG (a := t)) rfl (hG.1 _ (List.mem_of_getElem? (i := 28) rfl)) (hG.1 _ (List.mem_of_getElem? (i := 29) rfl)) (hG.1 _ (List.mem_of_getElem? (i := 30) rfl)) (hG.1 _ (List.mem_of_getElem? (i := 31) rfl)) (lenOf pd_30 rfl) (by simp) (W := 2) rfl (by decide) (by decide) (by decide) (by decide)
  rw [hh] at c
  replace c := c [] (by simp)
  replace c : OAt G K M_cli [q] 1 1 h_q 8 #[.val (.ref t)] [.ref t, .ref q, .ref q] := c
  replace c := c.cast 11 d_cli_8 (hG.1 _ (List.mem_of_getElem? (i := 32) rfl)) (Ins.self (E.ext x_q))
  obtain ⟨v, h1, sf, ⟨rfl, K1, E1, F1⟩, c⟩ := c.callI (y := y_aui) (a := q) (argsL := [.ref t]) (rest := [.ref q]) 14 d_cli_11 (con_aui hG (t := t) g_q E_q F0) rfl (hG.1 _ (List.mem_of_getElem? (i := 33) rfl)) (hG.1 _ (List.mem_of_getElem? (i := 34) rfl)) (hG.1 _ (List.mem_of_getElem? (i := 24) rfl)) (hG.1 _ (List.mem_of_getElem? (i := 35) rfl)) (lenOf pd_18 rfl) (by simp) (W := 1) rfl (by decide) (by decide) (by decide) (by decide)
  replace c := c [] (by simp)
  replace c : OAt G K M_cli [q] 1 1 h1 14 #[.val (.ref t)] [.ref q] := c
  exact c.reta (t := (.object "com/example/wegweiser/wegweiser/directory/Author")) d_cli_14 rfl rfl rfl rfl (fun sf hs => ⟨q, rfl, Nat.le_of_eq s_q.symm, ((Keep.refl h0 []).ext x_q).trans K1 (fun x hx => by cases List.mem_singleton.mp hx; exact Or.inr (Nat.le_of_eq s_q.symm)), E1, F1⟩) (by decide) (by decide)
theorem own_far {t tb : Addr} {n : Nat} {ws : List Addr} (h : t < n ∧ tb < n) (q : ∀ x ∈ ws, n ≤ x) : ∀ x ∈ ws, t ≠ x ∧ tb ≠ x := fun x hx => ⟨Nat.ne_of_lt (Nat.lt_of_lt_of_le h.1 (q x hx)), Nat.ne_of_lt (Nat.lt_of_lt_of_le h.2 (q x hx))⟩
abbrev y_ats : MethodName := ⟨"com/example/wegweiser/wegweiser/directory/Author", "toString", "()Ljava/lang/String;"⟩
theorem pd_31 : parseMethodDescriptor "(Ljava/lang/String;)Ljava/lang/StringBuilder;" = some ⟨[(.object "java/lang/String")], some (.object "java/lang/StringBuilder")⟩ := by decide +kernel
theorem pd_32 : parseMethodDescriptor "()Ljava/lang/String;" = some ⟨[], some (.object "java/lang/String")⟩ := by decide +kernel
theorem d_ats_0 : decode prog_6_method_4_code 0 = .ok (.aload_n 0, 1) := by decide +kernel
theorem d_ats_1 : decode prog_6_method_4_code 1 = .ok (.getfield 7, 3) := by decide +kernel
theorem d_ats_4 : decode prog_6_method_4_code 4 = .ok (.ifnonnull 8, 3) := by decide +kernel
theorem d_ats_12 : decode prog_6_method_4_code 12 = .ok (.new 32, 3) := by decide +kernel
theorem d_ats_15 : decode prog_6_method_4_code 15 = .ok (.dup, 1) := by decide +kernel
theorem d_ats_16 : decode prog_6_method_4_code 16 = .ok (.invokespecial 34, 3) := by decide +kernel
theorem d_ats_19 : decode prog_6_method_4_code 19 = .ok (.ldc 35, 2) := by decide +kernel
theorem d_ats_21 : decode prog_6_method_4_code 21 = .ok (.invokevirtual 37, 3) := by decide +kernel
theorem d_ats_24 : decode prog_6_method_4_code 24 = .ok (.aload_n 0, 1) := by decide +kernel
theorem d_ats_25 : decode prog_6_method_4_code 25 = .ok (.getfield 7, 3) := by decide +kernel
theorem d_ats_28 : decode prog_6_method_4_code 28 = .ok (.invokevirtual 37, 3) := by decide +kernel
theorem d_ats_31 : decode prog_6_method_4_code 31 = .ok (.invokevirtual 41, 3) := by decide +kernel
theorem d_ats_34 : decode prog_6_method_4_code 34 = .ok (.areturn, 1) := by decide +kernel
abbrev rm_ats : Room := { frames := 10, cells := 8, slots := 168, locals := 143 }
abbrev M_ats : Mx := (prog_6_method_4_code, y_ats.cls, (some (.object "java/lang/String")), y_ats.name, 1, rm_ats)
theorem ef_ats (m : MethodId) (x0 : Addr) : entryFrame m #[.ref x0] 1 = mkF m 0 #[.val (.ref x0)] [] := by first | (simp [entryFrame, mkF, argsToLocals, Value.category]; done) | rfl
set_option maxRecDepth 65536 in
set_option maxHeartbeats 4000000 in
theorem con_ats {G : Gx} (hG : OGood G) {h0 : Heap} {q t : Addr} {cs : List Int32} (F : Fld G.Z h0 q "com/example/wegweiser/wegweiser/directory/Author" "clientId" "Ljava/lang/String;" (.ref t)) (T : Str G.Z h0 t cs) (hl : cs.length ≤ 3) : OCon G y_ats prog_6_method_4_code 1 (some (.object "java/lang/String")) [] rm_ats #[.ref q] [] h0 (fun v h' _ => ∃ s : Addr, v = some (.ref s) ∧ Keep h0 h' [] ∧ Str G.Z h' s (lit1 ++ cs)) := by
  refine OCon.intro (plainFor_of_name pn_8) (own_ew hG) #[.val (.ref q)] (fun m => ef_ats m q) ?_
  intro K c
  replace c : OAt G K M_ats [] 0 0 h0 0 #[.val (.ref q)] [] := c
  replace c := c.aloadN 1 d_ats_0 rfl rfl
  replace c := c.getF 4 d_ats_1 (hG.1 _ (List.mem_of_getElem? (i := 37) rfl)) F
  replace c := c.nonnullT 12 d_ats_4
  obtain ⟨a, h_a, s_a, x_a, g_a, E_a, D_a, U_a, c⟩ := c.newO 15 d_ats_12 (C := "java/lang/StringBuilder") (hG.1 _ (List.mem_of_getElem? (i := 46) rfl)) (hG.1 _ (List.mem_of_getElem? (i := 47) rfl)) (hG.1 _ (List.mem_of_getElem? (i := 48) rfl)) (by decide) (by decide)
  replace c := c.dup 16 d_ats_15 rfl
  have V_a : Fld G.Z h_a a "java/lang/AbstractStringBuilder" "value" "[B" .null := D_a (own_l0 hG) (ty := .array .byte) (by decide)
  have C_a : Fld G.Z h_a a "java/lang/AbstractStringBuilder" "coder" "B" (.int 0) := D_a (own_l1 hG) (ty := .byte) (by decide)
  have N_a : Fld G.Z h_a a "java/lang/AbstractStringBuilder" "count" "I" (.int 0) := D_a (own_l2 hG) (ty := .int) (by decide)
  have L_a : Fld G.Z h_a a "java/lang/AbstractStringBuilder" "maybeLatin1" "Z" (.int 0) := D_a (own_l3 hG) (ty := .boolean) (by decide)
  obtain ⟨v, h_b, sf, ⟨rfl, K0, b, s_b, g_b, q_b, B0⟩, c⟩ := c.callI (y := y_sbi) (a := a) (argsL := []) (rest := [.ref a]) 19 d_ats_16 (con_sbi hG g_a E_a V_a C_a N_a L_a) rfl (hG.1 _ (List.mem_of_getElem? (i := 49) rfl)) (hG.1 _ (List.mem_of_getElem? (i := 50) rfl)) (hG.1 _ (List.mem_of_getElem? (i := 48) rfl)) (hG.1 _ (List.mem_of_getElem? (i := 51) rfl)) (lenOf pd_17 rfl) (by simp) (W := 1) rfl (by decide) (by decide) (by decide) (by decide)
  replace c := c [b] (by simpa using q_b)
  replace c : OAt G K M_ats [b, a] 2 20 h_b 19 #[.val (.ref q)] [.ref a] := c
  have ha0 : h0.size ≤ a := Nat.le_of_eq s_a.symm
  have hb0 : h0.size ≤ b := Nat.le_trans x_a.1 s_b
  have KA : Keep h0 h_b [] := ((Keep.refl h0 []).ext x_a).trans K0 (fun x hx => by cases List.mem_singleton.mp hx; exact Or.inr ha0)
  obtain ⟨e, b_e, h_e, x_e, E_e, C_e, V_e, Y_e, N_e, c⟩ := c.ldcS 21 d_ats_19 (hG.1 _ (List.mem_of_getElem? (i := 64) rfl)) (own_sa hG) (own_el_0 hG) [.int 116, .int 104, .int 101, .int 32, .int 99, .int 108, .int 105, .int 101, .int 110, .int 116, .int 32] (by decide) (by decide) 44 (by decide) (by decide) (by decide) (by decide)
  have Y_e' : Ary G.Z h_e b_e .byte (encL lit1) := by rw [lit1_enc]; exact Y_e
  have Te : OSr G.Z h_e h_e.size e b_e lit1 := Or.inl ⟨lit1_lat, E_e, C_e, V_e, Y_e', E_e.lt, Y_e'.lt⟩
  have KB : Keep h0 h_e [] := KA.ext x_e
  obtain ⟨v, h1, sf, ⟨rfl, K1, co, b1, vs1, g1, q1, o1, B1, D1⟩, c⟩ := c.callV (y := (⟨"java/lang/StringBuilder", "append", "(Ljava/lang/String;)Ljava/lang/StringBuilder;"⟩ : MethodName)) (z := y_sap) (C := "java/lang/StringBuilder") (a := a) (argsL := [.ref e]) (rest := []) 24 d_ats_21 (con_sap hG (cs := []) (ts := lit1) g_a g_b (B0.ext x_e) (fun c hc => by cases hc) (by simp) (by simp [encL]) Te (fun n => absurd lit1_lat n) (by decide) (fun n => absurd lit1_lat n) (by decide) (fun e' => (N_e b (by simp)).2 e'.symm)) rfl (B0.ext x_e).1 (hG.1 _ (List.mem_of_getElem? (i := 65) rfl)) (hG.1 _ (List.mem_of_getElem? (i := 66) rfl)) (own_nf (hG.1 _ (List.mem_of_getElem? (i := 68) rfl))) (hG.1 _ (List.mem_of_getElem? (i := 68) rfl)) (hG.1 _ (List.mem_of_getElem? (i := 67) rfl)) (hG.1 _ (List.mem_of_getElem? (i := 48) rfl)) (hG.1 _ (List.mem_of_getElem? (i := 69) rfl)) (lenOf pd_31 rfl) (by simp) (W := 0) rfl (by decide) (by decide) (by decide) (by decide)
  replace c := c [b1] (by simpa using q1)
  replace c : OAt G K M_ats [b1, b, a] 5 100 h1 24 #[.val (.ref q)] [.ref a] := c
  rcases D1 with ⟨rfl, -, hv1, tk1⟩ | ⟨-, -, big, -⟩
  case inr => exact absurd lit1_lat (own_nlat (by simpa using big))
  replace tk1 : vs1.take lit1.length = encL lit1 := by simpa using tk1
  replace B1 : Bq G.Z h1 a b1 0 lit1.length vs1 := by simpa using B1
  have hb1 : h0.size ≤ b1 := by rcases o1 with rfl | o1; exact hb0; exact Nat.le_trans KB.1 o1
  have KC : Keep h0 h1 [] := KB.trans K1 (fun x hx => Or.inr (own_two ha0 hb0 x hx))
  obtain ⟨tb, T0⟩ := OSr.of T
  have T1 := T0.keep KC (by simp)
  replace c := c.aloadN 25 d_ats_24 rfl rfl
  replace c := c.getF 28 d_ats_25 (hG.1 _ (List.mem_of_getElem? (i := 37) rfl)) (F.keep KC (by simp))
  obtain ⟨v, h2, sf, ⟨rfl, K2, co, b2, vs2, g2, q2, o2, B2, D2⟩, c⟩ := c.callV (y := (⟨"java/lang/StringBuilder", "append", "(Ljava/lang/String;)Ljava/lang/StringBuilder;"⟩ : MethodName)) (z := y_sap) (C := "java/lang/StringBuilder") (a := a) (argsL := [.ref t]) (rest := []) 31 d_ats_28 (con_sap hG (cs := lit1) (ts := cs) g_a g1 B1 lit1_lat hv1 tk1 T1 (fun _ => rfl) (by omega) (fun _ => hl) (by rw [lit1_len]; omega) (Nat.ne_of_lt (Nat.lt_of_lt_of_le T0.lt.2 hb1))) rfl B1.1 (hG.1 _ (List.mem_of_getElem? (i := 65) rfl)) (hG.1 _ (List.mem_of_getElem? (i := 66) rfl)) (own_nf (hG.1 _ (List.mem_of_getElem? (i := 68) rfl))) (hG.1 _ (List.mem_of_getElem? (i := 68) rfl)) (hG.1 _ (List.mem_of_getElem? (i := 67) rfl)) (hG.1 _ (List.mem_of_getElem? (i := 48) rfl)) (hG.1 _ (List.mem_of_getElem? (i := 69) rfl)) (lenOf pd_31 rfl) (by simp) (W := 0) rfl (by decide) (by decide) (by decide) (by decide)
  replace c := c [b2] (by simpa using q2)
  replace c : OAt G K M_ats [b2, b1, b, a] 6 132 h2 31 #[.val (.ref q)] [.ref a] := c
  have KD : Keep h0 h2 [] := KC.trans K2 (fun x hx => Or.inr (own_two ha0 hb1 x hx))
  obtain ⟨v, h3, sf, ⟨s, rfl, K3, S3⟩, c⟩ := c.callV (y := (⟨"java/lang/StringBuilder", "toString", "()Ljava/lang/String;"⟩ : MethodName)) (z := y_tos) (C := "java/lang/StringBuilder") (a := a) (argsL := []) (rest := []) 34 d_ats_31 (con_tos hG (cs := lit1 ++ cs) (by rw [List.length_append]; exact B2) D2 (by rw [List.length_append, lit1_len]; omega)) rfl B2.1 (hG.1 _ (List.mem_of_getElem? (i := 113) rfl)) (hG.1 _ (List.mem_of_getElem? (i := 114) rfl)) (own_nf (hG.1 _ (List.mem_of_getElem? (i := 116) rfl))) (hG.1 _ (List.mem_of_getElem? (i := 116) rfl)) (hG.1 _ (List.mem_of_getElem? (i := 115) rfl)) (hG.1 _ (List.mem_of_getElem? (i := 48) rfl)) (hG.1 _ (List.mem_of_getElem? (i := 117) rfl)) (lenOf pd_32 rfl) (by simp) (W := 0) rfl (by decide) (by decide) (by decide) (by decide)
  replace c := c [] (by simp)
  replace c : OAt G K M_ats [b2, b1, b, a] 8 168 h3 34 #[.val (.ref q)] [.ref s] := c
  exact c.reta (t := (.object "java/lang/String")) d_ats_34 rfl rfl rfl rfl (fun sf hs => ⟨s, rfl, KD.trans K3 (fun x hx => by cases hx), S3⟩) (by decide) (by decide)
abbrev y_pfx : MethodName := ⟨"com/example/wegweiser/wegweiser/directory/AuthorClientPinLaw", "prefixOk", "(Ljava/lang/String;)Z"⟩
theorem pd_33 : parseMethodDescriptor "(I)C" = some ⟨[.int], some .char⟩ := by decide +kernel
theorem pn_9 : plainName "com/example/wegweiser/wegweiser/directory/AuthorClientPinLaw" = true := by first | (simp [plainName, overriddenIn]; done) | decide +kernel
theorem d_pfx_0 : decode method_3_code 0 = .ok (.ldc 40, 2) := by decide +kernel
theorem d_pfx_2 : decode method_3_code 2 = .ok (.astore_n 1, 1) := by decide +kernel
theorem d_pfx_3 : decode method_3_code 3 = .ok (.aload_n 0, 1) := by decide +kernel
theorem d_pfx_4 : decode method_3_code 4 = .ok (.iconst 0, 1) := by decide +kernel
theorem d_pfx_5 : decode method_3_code 5 = .ok (.invokevirtual 36, 3) := by decide +kernel
theorem d_pfx_8 : decode method_3_code 8 = .ok (.aload_n 1, 1) := by decide +kernel
theorem d_pfx_9 : decode method_3_code 9 = .ok (.iconst 0, 1) := by decide +kernel
theorem d_pfx_10 : decode method_3_code 10 = .ok (.invokevirtual 36, 3) := by decide +kernel
theorem d_pfx_13 : decode method_3_code 13 = .ok (.if_icmp .ne 147, 3) := by decide +kernel
theorem d_pfx_16 : decode method_3_code 16 = .ok (.aload_n 0, 1) := by decide +kernel
theorem d_pfx_17 : decode method_3_code 17 = .ok (.iconst 1, 1) := by decide +kernel
theorem d_pfx_18 : decode method_3_code 18 = .ok (.invokevirtual 36, 3) := by decide +kernel
theorem d_pfx_21 : decode method_3_code 21 = .ok (.aload_n 1, 1) := by decide +kernel
theorem d_pfx_22 : decode method_3_code 22 = .ok (.iconst 1, 1) := by decide +kernel
theorem d_pfx_23 : decode method_3_code 23 = .ok (.invokevirtual 36, 3) := by decide +kernel
theorem d_pfx_26 : decode method_3_code 26 = .ok (.if_icmp .ne 134, 3) := by decide +kernel
theorem d_pfx_29 : decode method_3_code 29 = .ok (.aload_n 0, 1) := by decide +kernel
theorem d_pfx_30 : decode method_3_code 30 = .ok (.iconst 2, 1) := by decide +kernel
theorem d_pfx_31 : decode method_3_code 31 = .ok (.invokevirtual 36, 3) := by decide +kernel
theorem d_pfx_34 : decode method_3_code 34 = .ok (.aload_n 1, 1) := by decide +kernel
theorem d_pfx_35 : decode method_3_code 35 = .ok (.iconst 2, 1) := by decide +kernel
theorem d_pfx_36 : decode method_3_code 36 = .ok (.invokevirtual 36, 3) := by decide +kernel
theorem d_pfx_39 : decode method_3_code 39 = .ok (.if_icmp .ne 121, 3) := by decide +kernel
theorem d_pfx_42 : decode method_3_code 42 = .ok (.aload_n 0, 1) := by decide +kernel
theorem d_pfx_43 : decode method_3_code 43 = .ok (.iconst 3, 1) := by decide +kernel
theorem d_pfx_44 : decode method_3_code 44 = .ok (.invokevirtual 36, 3) := by decide +kernel
theorem d_pfx_47 : decode method_3_code 47 = .ok (.aload_n 1, 1) := by decide +kernel
theorem d_pfx_48 : decode method_3_code 48 = .ok (.iconst 3, 1) := by decide +kernel
theorem d_pfx_49 : decode method_3_code 49 = .ok (.invokevirtual 36, 3) := by decide +kernel
theorem d_pfx_52 : decode method_3_code 52 = .ok (.if_icmp .ne 108, 3) := by decide +kernel
theorem d_pfx_55 : decode method_3_code 55 = .ok (.aload_n 0, 1) := by decide +kernel
theorem d_pfx_56 : decode method_3_code 56 = .ok (.iconst 4, 1) := by decide +kernel
theorem d_pfx_57 : decode method_3_code 57 = .ok (.invokevirtual 36, 3) := by decide +kernel
theorem d_pfx_60 : decode method_3_code 60 = .ok (.aload_n 1, 1) := by decide +kernel
theorem d_pfx_61 : decode method_3_code 61 = .ok (.iconst 4, 1) := by decide +kernel
theorem d_pfx_62 : decode method_3_code 62 = .ok (.invokevirtual 36, 3) := by decide +kernel
theorem d_pfx_65 : decode method_3_code 65 = .ok (.if_icmp .ne 95, 3) := by decide +kernel
theorem d_pfx_68 : decode method_3_code 68 = .ok (.aload_n 0, 1) := by decide +kernel
theorem d_pfx_69 : decode method_3_code 69 = .ok (.iconst 5, 1) := by decide +kernel
theorem d_pfx_70 : decode method_3_code 70 = .ok (.invokevirtual 36, 3) := by decide +kernel
theorem d_pfx_73 : decode method_3_code 73 = .ok (.aload_n 1, 1) := by decide +kernel
theorem d_pfx_74 : decode method_3_code 74 = .ok (.iconst 5, 1) := by decide +kernel
theorem d_pfx_75 : decode method_3_code 75 = .ok (.invokevirtual 36, 3) := by decide +kernel
theorem d_pfx_78 : decode method_3_code 78 = .ok (.if_icmp .ne 82, 3) := by decide +kernel
theorem d_pfx_81 : decode method_3_code 81 = .ok (.aload_n 0, 1) := by decide +kernel
theorem d_pfx_82 : decode method_3_code 82 = .ok (.bipush 6, 2) := by decide +kernel
theorem d_pfx_84 : decode method_3_code 84 = .ok (.invokevirtual 36, 3) := by decide +kernel
theorem d_pfx_87 : decode method_3_code 87 = .ok (.aload_n 1, 1) := by decide +kernel
theorem d_pfx_88 : decode method_3_code 88 = .ok (.bipush 6, 2) := by decide +kernel
theorem d_pfx_90 : decode method_3_code 90 = .ok (.invokevirtual 36, 3) := by decide +kernel
theorem d_pfx_93 : decode method_3_code 93 = .ok (.if_icmp .ne 67, 3) := by decide +kernel
theorem d_pfx_96 : decode method_3_code 96 = .ok (.aload_n 0, 1) := by decide +kernel
theorem d_pfx_97 : decode method_3_code 97 = .ok (.bipush 7, 2) := by decide +kernel
theorem d_pfx_99 : decode method_3_code 99 = .ok (.invokevirtual 36, 3) := by decide +kernel
theorem d_pfx_102 : decode method_3_code 102 = .ok (.aload_n 1, 1) := by decide +kernel
theorem d_pfx_103 : decode method_3_code 103 = .ok (.bipush 7, 2) := by decide +kernel
theorem d_pfx_105 : decode method_3_code 105 = .ok (.invokevirtual 36, 3) := by decide +kernel
theorem d_pfx_108 : decode method_3_code 108 = .ok (.if_icmp .ne 52, 3) := by decide +kernel
theorem d_pfx_111 : decode method_3_code 111 = .ok (.aload_n 0, 1) := by decide +kernel
theorem d_pfx_112 : decode method_3_code 112 = .ok (.bipush 8, 2) := by decide +kernel
theorem d_pfx_114 : decode method_3_code 114 = .ok (.invokevirtual 36, 3) := by decide +kernel
theorem d_pfx_117 : decode method_3_code 117 = .ok (.aload_n 1, 1) := by decide +kernel
theorem d_pfx_118 : decode method_3_code 118 = .ok (.bipush 8, 2) := by decide +kernel
theorem d_pfx_120 : decode method_3_code 120 = .ok (.invokevirtual 36, 3) := by decide +kernel
theorem d_pfx_123 : decode method_3_code 123 = .ok (.if_icmp .ne 37, 3) := by decide +kernel
theorem d_pfx_126 : decode method_3_code 126 = .ok (.aload_n 0, 1) := by decide +kernel
theorem d_pfx_127 : decode method_3_code 127 = .ok (.bipush 9, 2) := by decide +kernel
theorem d_pfx_129 : decode method_3_code 129 = .ok (.invokevirtual 36, 3) := by decide +kernel
theorem d_pfx_132 : decode method_3_code 132 = .ok (.aload_n 1, 1) := by decide +kernel
theorem d_pfx_133 : decode method_3_code 133 = .ok (.bipush 9, 2) := by decide +kernel
theorem d_pfx_135 : decode method_3_code 135 = .ok (.invokevirtual 36, 3) := by decide +kernel
theorem d_pfx_138 : decode method_3_code 138 = .ok (.if_icmp .ne 22, 3) := by decide +kernel
theorem d_pfx_141 : decode method_3_code 141 = .ok (.aload_n 0, 1) := by decide +kernel
theorem d_pfx_142 : decode method_3_code 142 = .ok (.bipush 10, 2) := by decide +kernel
theorem d_pfx_144 : decode method_3_code 144 = .ok (.invokevirtual 36, 3) := by decide +kernel
theorem d_pfx_147 : decode method_3_code 147 = .ok (.aload_n 1, 1) := by decide +kernel
theorem d_pfx_148 : decode method_3_code 148 = .ok (.bipush 10, 2) := by decide +kernel
theorem d_pfx_150 : decode method_3_code 150 = .ok (.invokevirtual 36, 3) := by decide +kernel
theorem d_pfx_153 : decode method_3_code 153 = .ok (.if_icmp .ne 7, 3) := by decide +kernel
theorem d_pfx_156 : decode method_3_code 156 = .ok (.iconst 1, 1) := by decide +kernel
theorem d_pfx_157 : decode method_3_code 157 = .ok (.goto 4, 3) := by decide +kernel
theorem d_pfx_161 : decode method_3_code 161 = .ok (.ireturn, 1) := by decide +kernel
abbrev rm_pfx : Room := { frames := 5, cells := 2, slots := 48, locals := 67 }
abbrev M_pfx : Mx := (method_3_code, y_pfx.cls, (some .boolean), y_pfx.name, 2, rm_pfx)
theorem ef_pfx (m : MethodId) (x0 : Addr) : entryFrame m #[.ref x0] 2 = mkF m 0 #[.val (.ref x0), .unset] [] := by first | (simp [entryFrame, mkF, argsToLocals, Value.category]; done) | rfl
set_option maxRecDepth 65536 in
set_option maxHeartbeats 4000000 in
theorem con_pfx {G : Gx} (hG : OGood G) {h0 : Heap} {t : Addr} {cs : List Int32} (S : Str G.Z h0 t (lit1 ++ cs)) (hl : cs.length ≤ 3) : OCon G y_pfx method_3_code 2 (some .boolean) [] rm_pfx #[.ref t] [] h0 (fun v h' _ => v = some (.int 1) ∧ Keep h0 h' []) := by
  refine OCon.intro (plainFor_of_name pn_9) (own_ew hG) #[.val (.ref t), .unset] (fun m => ef_pfx m t) ?_
  intro K c
  replace c : OAt G K M_pfx [] 0 0 h0 0 #[.val (.ref t), .unset] [] := c
  obtain ⟨p, b_p, h_p, x_p, E_p, C_p, V_p, Y_p, N_p, c⟩ := c.ldcS 2 d_pfx_0 (hG.1 _ (List.mem_of_getElem? (i := 163) rfl)) (own_sa hG) (own_el_1 hG) [.int 116, .int 104, .int 101, .int 32, .int 99, .int 108, .int 105, .int 101, .int 110, .int 116, .int 32] (by decide) (by decide) 44 (by decide) (by decide) (by decide) (by decide)
  have Sp : Str G.Z h_p p lit1 := own_strlit E_p C_p V_p Y_p lit1_lat lit1_enc
  have St := S.ext x_p
  have h4 : (lit1 ++ cs).length ≤ 4000 := by rw [List.length_append, lit1_len]; omega
  replace c := c.astoreN 3 d_pfx_2 rfl #[.val (.ref t), .val (.ref p)] rfl
  replace c := c.aloadN 4 d_pfx_3 rfl rfl
  replace c := c.iconst 5 d_pfx_4 0 (by decide)
  obtain ⟨v, h1, sf, ⟨rfl, hh⟩, c⟩ := c.callV (y := (⟨"java/lang/String", "charAt", "(I)C"⟩ : MethodName)) (z := y_cha) (C := "java/lang/String") (a := t) (argsL := [.int 0]) (rest := []) 8 d_pfx_5 (con_cha hG (i := 0) (x := 116) (cs := lit1 ++ cs) rfl h4 St) rfl St.exa (hG.1 _ (List.mem_of_getElem? (i := 164) rfl)) (hG.1 _ (List.mem_of_getElem? (i := 165) rfl)) (own_nf (hG.1 _ (List.mem_of_getElem? (i := 167) rfl))) (hG.1 _ (List.mem_of_getElem? (i := 167) rfl)) (hG.1 _ (List.mem_of_getElem? (i := 166) rfl)) (hG.1 _ (List.mem_of_getElem? (i := 3) rfl)) (hG.1 _ (List.mem_of_getElem? (i := 168) rfl)) (lenOf pd_33 rfl) (by simp) (W := 0) rfl (by decide) (by decide) (by decide) (by decide)
  rw [hh] at c
  replace c := c [] (by simp)
  replace c : OAt G K M_pfx [] 2 48 h_p 8 #[.val (.ref t), .val (.ref p)] [.int 116] := c
  replace c := c.aloadN 9 d_pfx_8 rfl rfl
  replace c := c.iconst 10 d_pfx_9 0 (by decide)
  obtain ⟨v, h1, sf, ⟨rfl, hh⟩, c⟩ := c.callV (y := (⟨"java/lang/String", "charAt", "(I)C"⟩ : MethodName)) (z := y_cha) (C := "java/lang/String") (a := p) (argsL := [.int 0]) (rest := [.int 116]) 13 d_pfx_10 (con_cha hG (i := 0) (x := 116) (cs := lit1) rfl (by decide) Sp) rfl Sp.exa (hG.1 _ (List.mem_of_getElem? (i := 164) rfl)) (hG.1 _ (List.mem_of_getElem? (i := 165) rfl)) (own_nf (hG.1 _ (List.mem_of_getElem? (i := 167) rfl))) (hG.1 _ (List.mem_of_getElem? (i := 167) rfl)) (hG.1 _ (List.mem_of_getElem? (i := 166) rfl)) (hG.1 _ (List.mem_of_getElem? (i := 3) rfl)) (hG.1 _ (List.mem_of_getElem? (i := 168) rfl)) (lenOf pd_33 rfl) (by simp) (W := 1) rfl (by decide) (by decide) (by decide) (by decide)
  rw [hh] at c
  replace c := c [] (by simp)
  replace c : OAt G K M_pfx [] 2 48 h_p 13 #[.val (.ref t), .val (.ref p)] [.int 116, .int 116] := c
  replace c := c.icF 16 d_pfx_13 (own_ic_ne_f rfl)
  replace c := c.aloadN 17 d_pfx_16 rfl rfl
  replace c := c.iconst 18 d_pfx_17 1 (by decide)
  obtain ⟨v, h1, sf, ⟨rfl, hh⟩, c⟩ := c.callV (y := (⟨"java/lang/String", "charAt", "(I)C"⟩ : MethodName)) (z := y_cha) (C := "java/lang/String") (a := t) (argsL := [.int 1]) (rest := []) 21 d_pfx_18 (con_cha hG (i := 1) (x := 104) (cs := lit1 ++ cs) rfl h4 St) rfl St.exa (hG.1 _ (List.mem_of_getElem? (i := 164) rfl)) (hG.1 _ (List.mem_of_getElem? (i := 165) rfl)) (own_nf (hG.1 _ (List.mem_of_getElem? (i := 167) rfl))) (hG.1 _ (List.mem_of_getElem? (i := 167) rfl)) (hG.1 _ (List.mem_of_getElem? (i := 166) rfl)) (hG.1 _ (List.mem_of_getElem? (i := 3) rfl)) (hG.1 _ (List.mem_of_getElem? (i := 168) rfl)) (lenOf pd_33 rfl) (by simp) (W := 0) rfl (by decide) (by decide) (by decide) (by decide)
  rw [hh] at c
  replace c := c [] (by simp)
  replace c : OAt G K M_pfx [] 2 48 h_p 21 #[.val (.ref t), .val (.ref p)] [.int 104] := c
  replace c := c.aloadN 22 d_pfx_21 rfl rfl
  replace c := c.iconst 23 d_pfx_22 1 (by decide)
  obtain ⟨v, h1, sf, ⟨rfl, hh⟩, c⟩ := c.callV (y := (⟨"java/lang/String", "charAt", "(I)C"⟩ : MethodName)) (z := y_cha) (C := "java/lang/String") (a := p) (argsL := [.int 1]) (rest := [.int 104]) 26 d_pfx_23 (con_cha hG (i := 1) (x := 104) (cs := lit1) rfl (by decide) Sp) rfl Sp.exa (hG.1 _ (List.mem_of_getElem? (i := 164) rfl)) (hG.1 _ (List.mem_of_getElem? (i := 165) rfl)) (own_nf (hG.1 _ (List.mem_of_getElem? (i := 167) rfl))) (hG.1 _ (List.mem_of_getElem? (i := 167) rfl)) (hG.1 _ (List.mem_of_getElem? (i := 166) rfl)) (hG.1 _ (List.mem_of_getElem? (i := 3) rfl)) (hG.1 _ (List.mem_of_getElem? (i := 168) rfl)) (lenOf pd_33 rfl) (by simp) (W := 1) rfl (by decide) (by decide) (by decide) (by decide)
  rw [hh] at c
  replace c := c [] (by simp)
  replace c : OAt G K M_pfx [] 2 48 h_p 26 #[.val (.ref t), .val (.ref p)] [.int 104, .int 104] := c
  replace c := c.icF 29 d_pfx_26 (own_ic_ne_f rfl)
  replace c := c.aloadN 30 d_pfx_29 rfl rfl
  replace c := c.iconst 31 d_pfx_30 2 (by decide)
  obtain ⟨v, h1, sf, ⟨rfl, hh⟩, c⟩ := c.callV (y := (⟨"java/lang/String", "charAt", "(I)C"⟩ : MethodName)) (z := y_cha) (C := "java/lang/String") (a := t) (argsL := [.int 2]) (rest := []) 34 d_pfx_31 (con_cha hG (i := 2) (x := 101) (cs := lit1 ++ cs) rfl h4 St) rfl St.exa (hG.1 _ (List.mem_of_getElem? (i := 164) rfl)) (hG.1 _ (List.mem_of_getElem? (i := 165) rfl)) (own_nf (hG.1 _ (List.mem_of_getElem? (i := 167) rfl))) (hG.1 _ (List.mem_of_getElem? (i := 167) rfl)) (hG.1 _ (List.mem_of_getElem? (i := 166) rfl)) (hG.1 _ (List.mem_of_getElem? (i := 3) rfl)) (hG.1 _ (List.mem_of_getElem? (i := 168) rfl)) (lenOf pd_33 rfl) (by simp) (W := 0) rfl (by decide) (by decide) (by decide) (by decide)
  rw [hh] at c
  replace c := c [] (by simp)
  replace c : OAt G K M_pfx [] 2 48 h_p 34 #[.val (.ref t), .val (.ref p)] [.int 101] := c
  replace c := c.aloadN 35 d_pfx_34 rfl rfl
  replace c := c.iconst 36 d_pfx_35 2 (by decide)
  obtain ⟨v, h1, sf, ⟨rfl, hh⟩, c⟩ := c.callV (y := (⟨"java/lang/String", "charAt", "(I)C"⟩ : MethodName)) (z := y_cha) (C := "java/lang/String") (a := p) (argsL := [.int 2]) (rest := [.int 101]) 39 d_pfx_36 (con_cha hG (i := 2) (x := 101) (cs := lit1) rfl (by decide) Sp) rfl Sp.exa (hG.1 _ (List.mem_of_getElem? (i := 164) rfl)) (hG.1 _ (List.mem_of_getElem? (i := 165) rfl)) (own_nf (hG.1 _ (List.mem_of_getElem? (i := 167) rfl))) (hG.1 _ (List.mem_of_getElem? (i := 167) rfl)) (hG.1 _ (List.mem_of_getElem? (i := 166) rfl)) (hG.1 _ (List.mem_of_getElem? (i := 3) rfl)) (hG.1 _ (List.mem_of_getElem? (i := 168) rfl)) (lenOf pd_33 rfl) (by simp) (W := 1) rfl (by decide) (by decide) (by decide) (by decide)
  rw [hh] at c
  replace c := c [] (by simp)
  replace c : OAt G K M_pfx [] 2 48 h_p 39 #[.val (.ref t), .val (.ref p)] [.int 101, .int 101] := c
  replace c := c.icF 42 d_pfx_39 (own_ic_ne_f rfl)
  replace c := c.aloadN 43 d_pfx_42 rfl rfl
  replace c := c.iconst 44 d_pfx_43 3 (by decide)
  obtain ⟨v, h1, sf, ⟨rfl, hh⟩, c⟩ := c.callV (y := (⟨"java/lang/String", "charAt", "(I)C"⟩ : MethodName)) (z := y_cha) (C := "java/lang/String") (a := t) (argsL := [.int 3]) (rest := []) 47 d_pfx_44 (con_cha hG (i := 3) (x := 32) (cs := lit1 ++ cs) rfl h4 St) rfl St.exa (hG.1 _ (List.mem_of_getElem? (i := 164) rfl)) (hG.1 _ (List.mem_of_getElem? (i := 165) rfl)) (own_nf (hG.1 _ (List.mem_of_getElem? (i := 167) rfl))) (hG.1 _ (List.mem_of_getElem? (i := 167) rfl)) (hG.1 _ (List.mem_of_getElem? (i := 166) rfl)) (hG.1 _ (List.mem_of_getElem? (i := 3) rfl)) (hG.1 _ (List.mem_of_getElem? (i := 168) rfl)) (lenOf pd_33 rfl) (by simp) (W := 0) rfl (by decide) (by decide) (by decide) (by decide)
  rw [hh] at c
  replace c := c [] (by simp)
  replace c : OAt G K M_pfx [] 2 48 h_p 47 #[.val (.ref t), .val (.ref p)] [.int 32] := c
  replace c := c.aloadN 48 d_pfx_47 rfl rfl
  replace c := c.iconst 49 d_pfx_48 3 (by decide)
  obtain ⟨v, h1, sf, ⟨rfl, hh⟩, c⟩ := c.callV (y := (⟨"java/lang/String", "charAt", "(I)C"⟩ : MethodName)) (z := y_cha) (C := "java/lang/String") (a := p) (argsL := [.int 3]) (rest := [.int 32]) 52 d_pfx_49 (con_cha hG (i := 3) (x := 32) (cs := lit1) rfl (by decide) Sp) rfl Sp.exa (hG.1 _ (List.mem_of_getElem? (i := 164) rfl)) (hG.1 _ (List.mem_of_getElem? (i := 165) rfl)) (own_nf (hG.1 _ (List.mem_of_getElem? (i := 167) rfl))) (hG.1 _ (List.mem_of_getElem? (i := 167) rfl)) (hG.1 _ (List.mem_of_getElem? (i := 166) rfl)) (hG.1 _ (List.mem_of_getElem? (i := 3) rfl)) (hG.1 _ (List.mem_of_getElem? (i := 168) rfl)) (lenOf pd_33 rfl) (by simp) (W := 1) rfl (by decide) (by decide) (by decide) (by decide)
  rw [hh] at c
  replace c := c [] (by simp)
  replace c : OAt G K M_pfx [] 2 48 h_p 52 #[.val (.ref t), .val (.ref p)] [.int 32, .int 32] := c
  replace c := c.icF 55 d_pfx_52 (own_ic_ne_f rfl)
  replace c := c.aloadN 56 d_pfx_55 rfl rfl
  replace c := c.iconst 57 d_pfx_56 4 (by decide)
  obtain ⟨v, h1, sf, ⟨rfl, hh⟩, c⟩ := c.callV (y := (⟨"java/lang/String", "charAt", "(I)C"⟩ : MethodName)) (z := y_cha) (C := "java/lang/String") (a := t) (argsL := [.int 4]) (rest := []) 60 d_pfx_57 (con_cha hG (i := 4) (x := 99) (cs := lit1 ++ cs) rfl h4 St) rfl St.exa (hG.1 _ (List.mem_of_getElem? (i := 164) rfl)) (hG.1 _ (List.mem_of_getElem? (i := 165) rfl)) (own_nf (hG.1 _ (List.mem_of_getElem? (i := 167) rfl))) (hG.1 _ (List.mem_of_getElem? (i := 167) rfl)) (hG.1 _ (List.mem_of_getElem? (i := 166) rfl)) (hG.1 _ (List.mem_of_getElem? (i := 3) rfl)) (hG.1 _ (List.mem_of_getElem? (i := 168) rfl)) (lenOf pd_33 rfl) (by simp) (W := 0) rfl (by decide) (by decide) (by decide) (by decide)
  rw [hh] at c
  replace c := c [] (by simp)
  replace c : OAt G K M_pfx [] 2 48 h_p 60 #[.val (.ref t), .val (.ref p)] [.int 99] := c
  replace c := c.aloadN 61 d_pfx_60 rfl rfl
  replace c := c.iconst 62 d_pfx_61 4 (by decide)
  obtain ⟨v, h1, sf, ⟨rfl, hh⟩, c⟩ := c.callV (y := (⟨"java/lang/String", "charAt", "(I)C"⟩ : MethodName)) (z := y_cha) (C := "java/lang/String") (a := p) (argsL := [.int 4]) (rest := [.int 99]) 65 d_pfx_62 (con_cha hG (i := 4) (x := 99) (cs := lit1) rfl (by decide) Sp) rfl Sp.exa (hG.1 _ (List.mem_of_getElem? (i := 164) rfl)) (hG.1 _ (List.mem_of_getElem? (i := 165) rfl)) (own_nf (hG.1 _ (List.mem_of_getElem? (i := 167) rfl))) (hG.1 _ (List.mem_of_getElem? (i := 167) rfl)) (hG.1 _ (List.mem_of_getElem? (i := 166) rfl)) (hG.1 _ (List.mem_of_getElem? (i := 3) rfl)) (hG.1 _ (List.mem_of_getElem? (i := 168) rfl)) (lenOf pd_33 rfl) (by simp) (W := 1) rfl (by decide) (by decide) (by decide) (by decide)
  rw [hh] at c
  replace c := c [] (by simp)
  replace c : OAt G K M_pfx [] 2 48 h_p 65 #[.val (.ref t), .val (.ref p)] [.int 99, .int 99] := c
  replace c := c.icF 68 d_pfx_65 (own_ic_ne_f rfl)
  replace c := c.aloadN 69 d_pfx_68 rfl rfl
  replace c := c.iconst 70 d_pfx_69 5 (by decide)
  obtain ⟨v, h1, sf, ⟨rfl, hh⟩, c⟩ := c.callV (y := (⟨"java/lang/String", "charAt", "(I)C"⟩ : MethodName)) (z := y_cha) (C := "java/lang/String") (a := t) (argsL := [.int 5]) (rest := []) 73 d_pfx_70 (con_cha hG (i := 5) (x := 108) (cs := lit1 ++ cs) rfl h4 St) rfl St.exa (hG.1 _ (List.mem_of_getElem? (i := 164) rfl)) (hG.1 _ (List.mem_of_getElem? (i := 165) rfl)) (own_nf (hG.1 _ (List.mem_of_getElem? (i := 167) rfl))) (hG.1 _ (List.mem_of_getElem? (i := 167) rfl)) (hG.1 _ (List.mem_of_getElem? (i := 166) rfl)) (hG.1 _ (List.mem_of_getElem? (i := 3) rfl)) (hG.1 _ (List.mem_of_getElem? (i := 168) rfl)) (lenOf pd_33 rfl) (by simp) (W := 0) rfl (by decide) (by decide) (by decide) (by decide)
  rw [hh] at c
  replace c := c [] (by simp)
  replace c : OAt G K M_pfx [] 2 48 h_p 73 #[.val (.ref t), .val (.ref p)] [.int 108] := c
  replace c := c.aloadN 74 d_pfx_73 rfl rfl
  replace c := c.iconst 75 d_pfx_74 5 (by decide)
  obtain ⟨v, h1, sf, ⟨rfl, hh⟩, c⟩ := c.callV (y := (⟨"java/lang/String", "charAt", "(I)C"⟩ : MethodName)) (z := y_cha) (C := "java/lang/String") (a := p) (argsL := [.int 5]) (rest := [.int 108]) 78 d_pfx_75 (con_cha hG (i := 5) (x := 108) (cs := lit1) rfl (by decide) Sp) rfl Sp.exa (hG.1 _ (List.mem_of_getElem? (i := 164) rfl)) (hG.1 _ (List.mem_of_getElem? (i := 165) rfl)) (own_nf (hG.1 _ (List.mem_of_getElem? (i := 167) rfl))) (hG.1 _ (List.mem_of_getElem? (i := 167) rfl)) (hG.1 _ (List.mem_of_getElem? (i := 166) rfl)) (hG.1 _ (List.mem_of_getElem? (i := 3) rfl)) (hG.1 _ (List.mem_of_getElem? (i := 168) rfl)) (lenOf pd_33 rfl) (by simp) (W := 1) rfl (by decide) (by decide) (by decide) (by decide)
  rw [hh] at c
  replace c := c [] (by simp)
  replace c : OAt G K M_pfx [] 2 48 h_p 78 #[.val (.ref t), .val (.ref p)] [.int 108, .int 108] := c
  replace c := c.icF 81 d_pfx_78 (own_ic_ne_f rfl)
  replace c := c.aloadN 82 d_pfx_81 rfl rfl
  replace c := c.bipush 84 d_pfx_82 6 (by decide)
  obtain ⟨v, h1, sf, ⟨rfl, hh⟩, c⟩ := c.callV (y := (⟨"java/lang/String", "charAt", "(I)C"⟩ : MethodName)) (z := y_cha) (C := "java/lang/String") (a := t) (argsL := [.int 6]) (rest := []) 87 d_pfx_84 (con_cha hG (i := 6) (x := 105) (cs := lit1 ++ cs) rfl h4 St) rfl St.exa (hG.1 _ (List.mem_of_getElem? (i := 164) rfl)) (hG.1 _ (List.mem_of_getElem? (i := 165) rfl)) (own_nf (hG.1 _ (List.mem_of_getElem? (i := 167) rfl))) (hG.1 _ (List.mem_of_getElem? (i := 167) rfl)) (hG.1 _ (List.mem_of_getElem? (i := 166) rfl)) (hG.1 _ (List.mem_of_getElem? (i := 3) rfl)) (hG.1 _ (List.mem_of_getElem? (i := 168) rfl)) (lenOf pd_33 rfl) (by simp) (W := 0) rfl (by decide) (by decide) (by decide) (by decide)
  rw [hh] at c
  replace c := c [] (by simp)
  replace c : OAt G K M_pfx [] 2 48 h_p 87 #[.val (.ref t), .val (.ref p)] [.int 105] := c
  replace c := c.aloadN 88 d_pfx_87 rfl rfl
  replace c := c.bipush 90 d_pfx_88 6 (by decide)
  obtain ⟨v, h1, sf, ⟨rfl, hh⟩, c⟩ := c.callV (y := (⟨"java/lang/String", "charAt", "(I)C"⟩ : MethodName)) (z := y_cha) (C := "java/lang/String") (a := p) (argsL := [.int 6]) (rest := [.int 105]) 93 d_pfx_90 (con_cha hG (i := 6) (x := 105) (cs := lit1) rfl (by decide) Sp) rfl Sp.exa (hG.1 _ (List.mem_of_getElem? (i := 164) rfl)) (hG.1 _ (List.mem_of_getElem? (i := 165) rfl)) (own_nf (hG.1 _ (List.mem_of_getElem? (i := 167) rfl))) (hG.1 _ (List.mem_of_getElem? (i := 167) rfl)) (hG.1 _ (List.mem_of_getElem? (i := 166) rfl)) (hG.1 _ (List.mem_of_getElem? (i := 3) rfl)) (hG.1 _ (List.mem_of_getElem? (i := 168) rfl)) (lenOf pd_33 rfl) (by simp) (W := 1) rfl (by decide) (by decide) (by decide) (by decide)
  rw [hh] at c
  replace c := c [] (by simp)
  replace c : OAt G K M_pfx [] 2 48 h_p 93 #[.val (.ref t), .val (.ref p)] [.int 105, .int 105] := c
  replace c := c.icF 96 d_pfx_93 (own_ic_ne_f rfl)
  replace c := c.aloadN 97 d_pfx_96 rfl rfl
  replace c := c.bipush 99 d_pfx_97 7 (by decide)
  obtain ⟨v, h1, sf, ⟨rfl, hh⟩, c⟩ := c.callV (y := (⟨"java/lang/String", "charAt", "(I)C"⟩ : MethodName)) (z := y_cha) (C := "java/lang/String") (a := t) (argsL := [.int 7]) (rest := []) 102 d_pfx_99 (con_cha hG (i := 7) (x := 101) (cs := lit1 ++ cs) rfl h4 St) rfl St.exa (hG.1 _ (List.mem_of_getElem? (i := 164) rfl)) (hG.1 _ (List.mem_of_getElem? (i := 165) rfl)) (own_nf (hG.1 _ (List.mem_of_getElem? (i := 167) rfl))) (hG.1 _ (List.mem_of_getElem? (i := 167) rfl)) (hG.1 _ (List.mem_of_getElem? (i := 166) rfl)) (hG.1 _ (List.mem_of_getElem? (i := 3) rfl)) (hG.1 _ (List.mem_of_getElem? (i := 168) rfl)) (lenOf pd_33 rfl) (by simp) (W := 0) rfl (by decide) (by decide) (by decide) (by decide)
  rw [hh] at c
  replace c := c [] (by simp)
  replace c : OAt G K M_pfx [] 2 48 h_p 102 #[.val (.ref t), .val (.ref p)] [.int 101] := c
  replace c := c.aloadN 103 d_pfx_102 rfl rfl
  replace c := c.bipush 105 d_pfx_103 7 (by decide)
  obtain ⟨v, h1, sf, ⟨rfl, hh⟩, c⟩ := c.callV (y := (⟨"java/lang/String", "charAt", "(I)C"⟩ : MethodName)) (z := y_cha) (C := "java/lang/String") (a := p) (argsL := [.int 7]) (rest := [.int 101]) 108 d_pfx_105 (con_cha hG (i := 7) (x := 101) (cs := lit1) rfl (by decide) Sp) rfl Sp.exa (hG.1 _ (List.mem_of_getElem? (i := 164) rfl)) (hG.1 _ (List.mem_of_getElem? (i := 165) rfl)) (own_nf (hG.1 _ (List.mem_of_getElem? (i := 167) rfl))) (hG.1 _ (List.mem_of_getElem? (i := 167) rfl)) (hG.1 _ (List.mem_of_getElem? (i := 166) rfl)) (hG.1 _ (List.mem_of_getElem? (i := 3) rfl)) (hG.1 _ (List.mem_of_getElem? (i := 168) rfl)) (lenOf pd_33 rfl) (by simp) (W := 1) rfl (by decide) (by decide) (by decide) (by decide)
  rw [hh] at c
  replace c := c [] (by simp)
  replace c : OAt G K M_pfx [] 2 48 h_p 108 #[.val (.ref t), .val (.ref p)] [.int 101, .int 101] := c
  replace c := c.icF 111 d_pfx_108 (own_ic_ne_f rfl)
  replace c := c.aloadN 112 d_pfx_111 rfl rfl
  replace c := c.bipush 114 d_pfx_112 8 (by decide)
  obtain ⟨v, h1, sf, ⟨rfl, hh⟩, c⟩ := c.callV (y := (⟨"java/lang/String", "charAt", "(I)C"⟩ : MethodName)) (z := y_cha) (C := "java/lang/String") (a := t) (argsL := [.int 8]) (rest := []) 117 d_pfx_114 (con_cha hG (i := 8) (x := 110) (cs := lit1 ++ cs) rfl h4 St) rfl St.exa (hG.1 _ (List.mem_of_getElem? (i := 164) rfl)) (hG.1 _ (List.mem_of_getElem? (i := 165) rfl)) (own_nf (hG.1 _ (List.mem_of_getElem? (i := 167) rfl))) (hG.1 _ (List.mem_of_getElem? (i := 167) rfl)) (hG.1 _ (List.mem_of_getElem? (i := 166) rfl)) (hG.1 _ (List.mem_of_getElem? (i := 3) rfl)) (hG.1 _ (List.mem_of_getElem? (i := 168) rfl)) (lenOf pd_33 rfl) (by simp) (W := 0) rfl (by decide) (by decide) (by decide) (by decide)
  rw [hh] at c
  replace c := c [] (by simp)
  replace c : OAt G K M_pfx [] 2 48 h_p 117 #[.val (.ref t), .val (.ref p)] [.int 110] := c
  replace c := c.aloadN 118 d_pfx_117 rfl rfl
  replace c := c.bipush 120 d_pfx_118 8 (by decide)
  obtain ⟨v, h1, sf, ⟨rfl, hh⟩, c⟩ := c.callV (y := (⟨"java/lang/String", "charAt", "(I)C"⟩ : MethodName)) (z := y_cha) (C := "java/lang/String") (a := p) (argsL := [.int 8]) (rest := [.int 110]) 123 d_pfx_120 (con_cha hG (i := 8) (x := 110) (cs := lit1) rfl (by decide) Sp) rfl Sp.exa (hG.1 _ (List.mem_of_getElem? (i := 164) rfl)) (hG.1 _ (List.mem_of_getElem? (i := 165) rfl)) (own_nf (hG.1 _ (List.mem_of_getElem? (i := 167) rfl))) (hG.1 _ (List.mem_of_getElem? (i := 167) rfl)) (hG.1 _ (List.mem_of_getElem? (i := 166) rfl)) (hG.1 _ (List.mem_of_getElem? (i := 3) rfl)) (hG.1 _ (List.mem_of_getElem? (i := 168) rfl)) (lenOf pd_33 rfl) (by simp) (W := 1) rfl (by decide) (by decide) (by decide) (by decide)
  rw [hh] at c
  replace c := c [] (by simp)
  replace c : OAt G K M_pfx [] 2 48 h_p 123 #[.val (.ref t), .val (.ref p)] [.int 110, .int 110] := c
  replace c := c.icF 126 d_pfx_123 (own_ic_ne_f rfl)
  replace c := c.aloadN 127 d_pfx_126 rfl rfl
  replace c := c.bipush 129 d_pfx_127 9 (by decide)
  obtain ⟨v, h1, sf, ⟨rfl, hh⟩, c⟩ := c.callV (y := (⟨"java/lang/String", "charAt", "(I)C"⟩ : MethodName)) (z := y_cha) (C := "java/lang/String") (a := t) (argsL := [.int 9]) (rest := []) 132 d_pfx_129 (con_cha hG (i := 9) (x := 116) (cs := lit1 ++ cs) rfl h4 St) rfl St.exa (hG.1 _ (List.mem_of_getElem? (i := 164) rfl)) (hG.1 _ (List.mem_of_getElem? (i := 165) rfl)) (own_nf (hG.1 _ (List.mem_of_getElem? (i := 167) rfl))) (hG.1 _ (List.mem_of_getElem? (i := 167) rfl)) (hG.1 _ (List.mem_of_getElem? (i := 166) rfl)) (hG.1 _ (List.mem_of_getElem? (i := 3) rfl)) (hG.1 _ (List.mem_of_getElem? (i := 168) rfl)) (lenOf pd_33 rfl) (by simp) (W := 0) rfl (by decide) (by decide) (by decide) (by decide)
  rw [hh] at c
  replace c := c [] (by simp)
  replace c : OAt G K M_pfx [] 2 48 h_p 132 #[.val (.ref t), .val (.ref p)] [.int 116] := c
  replace c := c.aloadN 133 d_pfx_132 rfl rfl
  replace c := c.bipush 135 d_pfx_133 9 (by decide)
  obtain ⟨v, h1, sf, ⟨rfl, hh⟩, c⟩ := c.callV (y := (⟨"java/lang/String", "charAt", "(I)C"⟩ : MethodName)) (z := y_cha) (C := "java/lang/String") (a := p) (argsL := [.int 9]) (rest := [.int 116]) 138 d_pfx_135 (con_cha hG (i := 9) (x := 116) (cs := lit1) rfl (by decide) Sp) rfl Sp.exa (hG.1 _ (List.mem_of_getElem? (i := 164) rfl)) (hG.1 _ (List.mem_of_getElem? (i := 165) rfl)) (own_nf (hG.1 _ (List.mem_of_getElem? (i := 167) rfl))) (hG.1 _ (List.mem_of_getElem? (i := 167) rfl)) (hG.1 _ (List.mem_of_getElem? (i := 166) rfl)) (hG.1 _ (List.mem_of_getElem? (i := 3) rfl)) (hG.1 _ (List.mem_of_getElem? (i := 168) rfl)) (lenOf pd_33 rfl) (by simp) (W := 1) rfl (by decide) (by decide) (by decide) (by decide)
  rw [hh] at c
  replace c := c [] (by simp)
  replace c : OAt G K M_pfx [] 2 48 h_p 138 #[.val (.ref t), .val (.ref p)] [.int 116, .int 116] := c
  replace c := c.icF 141 d_pfx_138 (own_ic_ne_f rfl)
  replace c := c.aloadN 142 d_pfx_141 rfl rfl
  replace c := c.bipush 144 d_pfx_142 10 (by decide)
  obtain ⟨v, h1, sf, ⟨rfl, hh⟩, c⟩ := c.callV (y := (⟨"java/lang/String", "charAt", "(I)C"⟩ : MethodName)) (z := y_cha) (C := "java/lang/String") (a := t) (argsL := [.int 10]) (rest := []) 147 d_pfx_144 (con_cha hG (i := 10) (x := 32) (cs := lit1 ++ cs) rfl h4 St) rfl St.exa (hG.1 _ (List.mem_of_getElem? (i := 164) rfl)) (hG.1 _ (List.mem_of_getElem? (i := 165) rfl)) (own_nf (hG.1 _ (List.mem_of_getElem? (i := 167) rfl))) (hG.1 _ (List.mem_of_getElem? (i := 167) rfl)) (hG.1 _ (List.mem_of_getElem? (i := 166) rfl)) (hG.1 _ (List.mem_of_getElem? (i := 3) rfl)) (hG.1 _ (List.mem_of_getElem? (i := 168) rfl)) (lenOf pd_33 rfl) (by simp) (W := 0) rfl (by decide) (by decide) (by decide) (by decide)
  rw [hh] at c
  replace c := c [] (by simp)
  replace c : OAt G K M_pfx [] 2 48 h_p 147 #[.val (.ref t), .val (.ref p)] [.int 32] := c
  replace c := c.aloadN 148 d_pfx_147 rfl rfl
  replace c := c.bipush 150 d_pfx_148 10 (by decide)
  obtain ⟨v, h1, sf, ⟨rfl, hh⟩, c⟩ := c.callV (y := (⟨"java/lang/String", "charAt", "(I)C"⟩ : MethodName)) (z := y_cha) (C := "java/lang/String") (a := p) (argsL := [.int 10]) (rest := [.int 32]) 153 d_pfx_150 (con_cha hG (i := 10) (x := 32) (cs := lit1) rfl (by decide) Sp) rfl Sp.exa (hG.1 _ (List.mem_of_getElem? (i := 164) rfl)) (hG.1 _ (List.mem_of_getElem? (i := 165) rfl)) (own_nf (hG.1 _ (List.mem_of_getElem? (i := 167) rfl))) (hG.1 _ (List.mem_of_getElem? (i := 167) rfl)) (hG.1 _ (List.mem_of_getElem? (i := 166) rfl)) (hG.1 _ (List.mem_of_getElem? (i := 3) rfl)) (hG.1 _ (List.mem_of_getElem? (i := 168) rfl)) (lenOf pd_33 rfl) (by simp) (W := 1) rfl (by decide) (by decide) (by decide) (by decide)
  rw [hh] at c
  replace c := c [] (by simp)
  replace c : OAt G K M_pfx [] 2 48 h_p 153 #[.val (.ref t), .val (.ref p)] [.int 32, .int 32] := c
  replace c := c.icF 156 d_pfx_153 (own_ic_ne_f rfl)
  replace c := c.iconst 157 d_pfx_156 1 (by decide)
  replace c := c.goto 161 d_pfx_157
  exact c.reti (t := .boolean) d_pfx_161 rfl rfl (by simp) (fun sf hs => ⟨rfl, (Keep.refl h0 []).ext x_p⟩) (by decide) (by decide)
abbrev ic (x : Int32) : Int32 := x.toUInt32.toUInt16.toUInt32.toInt32
theorem own_and3 (x : Int32) : ∃ k : Nat, x &&& 3 = Int32.ofNat k ∧ (k = 0 ∨ k = 1 ∨ k = 2 ∨ k = 3) := by
  have h := c_mask x 3 2 (by decide) (by decide)
  have h3 := Int.emod_nonneg x.toInt (show (4 : Int) ≠ 0 by decide)
  have h4 := Int.emod_lt_of_pos x.toInt (show (0 : Int) < 4 by decide)
  refine ⟨(x &&& 3).toInt.toNat, ?_, by omega⟩
  apply Int32.toInt_inj.mp
  rw [own_toInt (by omega)]; omega
theorem pd_34 : parseMethodDescriptor "([C)V" = some ⟨[(.array .char)], none⟩ := by decide +kernel
theorem pd_35 : parseMethodDescriptor "(Ljava/lang/String;)Lcom/example/wegweiser/wegweiser/directory/Author;" = some ⟨[(.object "java/lang/String")], some (.object "com/example/wegweiser/wegweiser/directory/Author")⟩ := by decide +kernel
theorem pd_36 : parseMethodDescriptor "(Ljava/lang/String;)Z" = some ⟨[(.object "java/lang/String")], some .boolean⟩ := by decide +kernel
abbrev rm_law : Room := room_1
abbrev M_law : Mx := (code, x.cls, ret, x.name, maxLocals, rm_law)
theorem ef_law (m : MethodId) (x0 : Int32) (x1 : Int32) (x2 : Int32) (x3 : Int32) : entryFrame m #[.int x0, .int x1, .int x2, .int x3] maxLocals = mkF m 0 #[.val (.int x0), .val (.int x1), .val (.int x2), .val (.int x3), .unset, .unset, .unset, .unset, .unset] [] := by first | (simp [entryFrame, mkF, argsToLocals, Value.category, maxLocals]; done) | rfl
set_option maxRecDepth 65536 in
set_option maxHeartbeats 4000000 in
theorem con_law {G : Gx} (hG : OGood G) {h0 : Heap} {x0 x1 x2 x3 : Int32} : OCon G x code maxLocals ret tables_1 rm_law #[.int x0, .int x1, .int x2, .int x3] [] h0 (fun v h' _ => v = some (.int 1)) := by
  refine OCon.intro (plainFor_of_name pn_9) (own_ew hG) #[.val (.int x0), .val (.int x1), .val (.int x2), .val (.int x3), .unset, .unset, .unset, .unset, .unset] (fun m => ef_law m x0 x1 x2 x3) ?_
  intro K c
  replace c : OAt G K M_law [] 0 0 h0 0 #[.val (.int x0), .val (.int x1), .val (.int x2), .val (.int x3), .unset, .unset, .unset, .unset, .unset] [] := c
  obtain ⟨k, ek, hk⟩ := own_and3 x0
  have n00 := c.n0le
  have z00 := c.old.1
  replace c := c.iloadN 1 at_0 rfl
  replace c := c.iconst 2 at_1 3 (by decide)
  replace c := c.iand 3 at_2
  rw [ek] at c
  replace c := c.istore 5 at_3 #[.val (.int x0), .val (.int x1), .val (.int x2), .val (.int x3), .val (.int (Int32.ofNat k)), .unset, .unset, .unset, .unset] rfl
  replace c := c.iload 7 at_5 rfl
  obtain ⟨ca, h1, KA, Yc, c⟩ : ∃ (ca : Addr) (h1 : Heap), Keep h0 h1 [] ∧ Ary G.Z h1 ca .char ((List.take k [ic x1, ic x2, ic x3]).map Value.int) ∧ OAt G K M_law [] 1 3 h1 81 #[.val (.int x0), .val (.int x1), .val (.int x2), .val (.int x3), .val (.int (Int32.ofNat k)), .val (.ref ca), .unset, .unset, .unset] [] := by
    rcases hk with rfl | rfl | rfl | rfl
    · skip
      replace c := c.ifF 10 at_7 (own_if_ne_f rfl)
      replace c := c.iconst 11 at_10 0 (by decide)
      obtain ⟨ca, h_ca, s_ca, x_ca, g_ca, Y_ca, c⟩ := c.newarr 13 at_11 .char rfl (hG.1 _ (List.mem_of_getElem? (i := 0) rfl)) (0) (by decide) 3 (by decide) (by decide) (by decide) (by decide)
      have hca : h0.size ≤ ca := Nat.le_of_eq s_ca.symm
      replace c := c.astore 15 at_13 rfl #[.val (.int x0), .val (.int x1), .val (.int x2), .val (.int x3), .val (.int (Int32.ofNat 0)), .val (.ref ca), .unset, .unset, .unset] rfl
      replace c := c.goto 81 at_15
      exact ⟨ca, _, ((Keep.refl h0 []).ext x_ca), by have := Y_ca; simpa using this, (c.drop (by simp)).more (by decide) (by decide)⟩
    · skip
      replace c := c.ifT 18 at_7 (own_if_ne_t (by decide))
      replace c := c.iload 20 at_18 rfl
      replace c := c.iconst 21 at_20 1 (by decide)
      replace c := c.icF 24 at_21 (own_ic_ne_f rfl)
      replace c := c.iconst 25 at_24 1 (by decide)
      obtain ⟨ca, h_ca, s_ca, x_ca, g_ca, Y_ca, c⟩ := c.newarr 27 at_25 .char rfl (hG.1 _ (List.mem_of_getElem? (i := 0) rfl)) (1) (by decide) 3 (by decide) (by decide) (by decide) (by decide)
      have hca : h0.size ≤ ca := Nat.le_of_eq s_ca.symm
      replace c := c.dup 28 at_27 rfl
      replace c := c.iconst 29 at_28 0 (by decide)
      replace c := c.iloadN 30 at_29 rfl
      replace c := c.i2c 31 at_30
      obtain ⟨hs0, Ws0, Ys0, c⟩ := c.castore 32 at_31 Y_ca (0) rfl (by simp) g_ca (ic x1) (own_narc (c_i2c x1).2)
      replace c := c.astore 34 at_32 rfl #[.val (.int x0), .val (.int x1), .val (.int x2), .val (.int x3), .val (.int (Int32.ofNat 1)), .val (.ref ca), .unset, .unset, .unset] rfl
      replace c := c.goto 81 at_34
      exact ⟨ca, _, (((Keep.refl h0 []).ext x_ca).wr Ws0 (Or.inr hca)), by have := Ys0; simpa using this, (c.drop (by simp)).more (by decide) (by decide)⟩
    · skip
      replace c := c.ifT 18 at_7 (own_if_ne_t (by decide))
      replace c := c.iload 20 at_18 rfl
      replace c := c.iconst 21 at_20 1 (by decide)
      replace c := c.icT 37 at_21 (own_ic_ne_t (by decide))
      replace c := c.iload 39 at_37 rfl
      replace c := c.iconst 40 at_39 2 (by decide)
      replace c := c.icF 43 at_40 (own_ic_ne_f rfl)
      replace c := c.iconst 44 at_43 2 (by decide)
      obtain ⟨ca, h_ca, s_ca, x_ca, g_ca, Y_ca, c⟩ := c.newarr 46 at_44 .char rfl (hG.1 _ (List.mem_of_getElem? (i := 0) rfl)) (2) (by decide) 3 (by decide) (by decide) (by decide) (by decide)
      have hca : h0.size ≤ ca := Nat.le_of_eq s_ca.symm
      replace c := c.dup 47 at_46 rfl
      replace c := c.iconst 48 at_47 0 (by decide)
      replace c := c.iloadN 49 at_48 rfl
      replace c := c.i2c 50 at_49
      obtain ⟨hs0, Ws0, Ys0, c⟩ := c.castore 51 at_50 Y_ca (0) rfl (by simp) g_ca (ic x1) (own_narc (c_i2c x1).2)
      replace c := c.dup 52 at_51 rfl
      replace c := c.iconst 53 at_52 1 (by decide)
      replace c := c.iloadN 54 at_53 rfl
      replace c := c.i2c 55 at_54
      obtain ⟨hs1, Ws1, Ys1, c⟩ := c.castore 56 at_55 Ys0 (1) rfl (by simp) g_ca (ic x2) (own_narc (c_i2c x2).2)
      replace c := c.astore 58 at_56 rfl #[.val (.int x0), .val (.int x1), .val (.int x2), .val (.int x3), .val (.int (Int32.ofNat 2)), .val (.ref ca), .unset, .unset, .unset] rfl
      replace c := c.goto 81 at_58
      exact ⟨ca, _, ((((Keep.refl h0 []).ext x_ca).wr Ws0 (Or.inr hca)).wr Ws1 (Or.inr hca)), by have := Ys1; simpa using this, (c.drop (by simp)).more (by decide) (by decide)⟩
    · skip
      replace c := c.ifT 18 at_7 (own_if_ne_t (by decide))
      replace c := c.iload 20 at_18 rfl
      replace c := c.iconst 21 at_20 1 (by decide)
      replace c := c.icT 37 at_21 (own_ic_ne_t (by decide))
      replace c := c.iload 39 at_37 rfl
      replace c := c.iconst 40 at_39 2 (by decide)
      replace c := c.icT 61 at_40 (own_ic_ne_t (by decide))
      replace c := c.iconst 62 at_61 3 (by decide)
      obtain ⟨ca, h_ca, s_ca, x_ca, g_ca, Y_ca, c⟩ := c.newarr 64 at_62 .char rfl (hG.1 _ (List.mem_of_getElem? (i := 0) rfl)) (3) (by decide) 3 (by decide) (by decide) (by decide) (by decide)
      have hca : h0.size ≤ ca := Nat.le_of_eq s_ca.symm
      replace c := c.dup 65 at_64 rfl
      replace c := c.iconst 66 at_65 0 (by decide)
      replace c := c.iloadN 67 at_66 rfl
      replace c := c.i2c 68 at_67
      obtain ⟨hs0, Ws0, Ys0, c⟩ := c.castore 69 at_68 Y_ca (0) rfl (by simp) g_ca (ic x1) (own_narc (c_i2c x1).2)
      replace c := c.dup 70 at_69 rfl
      replace c := c.iconst 71 at_70 1 (by decide)
      replace c := c.iloadN 72 at_71 rfl
      replace c := c.i2c 73 at_72
      obtain ⟨hs1, Ws1, Ys1, c⟩ := c.castore 74 at_73 Ys0 (1) rfl (by simp) g_ca (ic x2) (own_narc (c_i2c x2).2)
      replace c := c.dup 75 at_74 rfl
      replace c := c.iconst 76 at_75 2 (by decide)
      replace c := c.iloadN 77 at_76 rfl
      replace c := c.i2c 78 at_77
      obtain ⟨hs2, Ws2, Ys2, c⟩ := c.castore 79 at_78 Ys1 (2) rfl (by simp) g_ca (ic x3) (own_narc (c_i2c x3).2)
      replace c := c.astore 81 at_79 rfl #[.val (.int x0), .val (.int x1), .val (.int x2), .val (.int x3), .val (.int (Int32.ofNat 3)), .val (.ref ca), .unset, .unset, .unset] rfl
      exact ⟨ca, _, (((((Keep.refl h0 []).ext x_ca).wr Ws0 (Or.inr hca)).wr Ws1 (Or.inr hca)).wr Ws2 (Or.inr hca)), by have := Ys2; simpa using this, (c.drop (by simp)).more (by decide) (by decide)⟩
  have hl3 : k ≤ 3 := by omega
  have hcl : (List.take k [ic x1, ic x2, ic x3]).length = k := by rw [List.length_take]; simp; omega
  generalize hcs : List.take k [ic x1, ic x2, ic x3] = cs at Yc hcl
  obtain ⟨a, h_a, s_a, x_a, g_a, E_a, D_a, U_a, c⟩ := c.newO 84 at_81 (C := "java/lang/String") (hG.1 _ (List.mem_of_getElem? (i := 1) rfl)) (hG.1 _ (List.mem_of_getElem? (i := 2) rfl)) (hG.1 _ (List.mem_of_getElem? (i := 3) rfl)) (by decide) (by decide)
  replace c := c.dup 85 at_84 rfl
  replace c := c.aload 87 at_85 rfl rfl
  have V_a : Fld G.Z h_a a "java/lang/String" "value" "[B" .null := D_a (Or.inr (hG.1 _ (List.mem_of_getElem? (i := 16) rfl))) (ty := .array .byte) (by decide)
  have C_a : Fld G.Z h_a a "java/lang/String" "coder" "B" (.int 0) := D_a (Or.inr (hG.1 _ (List.mem_of_getElem? (i := 17) rfl))) (ty := .byte) (by decide)
  obtain ⟨v, h2, sf, ⟨rfl, K1, S1⟩, c⟩ := c.callI (y := y_si1) (a := a) (argsL := [.ref ca]) (rest := [.ref a]) 90 at_87 (con_si1 hG (cs := cs) (by omega) g_a E_a V_a C_a (Yc.ext x_a)) rfl (hG.1 _ (List.mem_of_getElem? (i := 4) rfl)) (hG.1 _ (List.mem_of_getElem? (i := 5) rfl)) (hG.1 _ (List.mem_of_getElem? (i := 3) rfl)) (hG.1 _ (List.mem_of_getElem? (i := 6) rfl)) (lenOf pd_34 rfl) (by simp) (W := 1) rfl (by decide) (by decide) (by decide) (by decide)
  replace c := c [] (by simp)
  replace c : OAt G K M_law [a] 6 55 h2 90 #[.val (.int x0), .val (.int x1), .val (.int x2), .val (.int x3), .val (.int (Int32.ofNat k)), .val (.ref ca), .unset, .unset, .unset] [.ref a] := c
  replace c := c.astore 92 at_90 rfl #[.val (.int x0), .val (.int x1), .val (.int x2), .val (.int x3), .val (.int (Int32.ofNat k)), .val (.ref ca), .val (.ref a), .unset, .unset] rfl
  replace c := c.aload 94 at_92 rfl rfl
  obtain ⟨v, h3, sf, ⟨q, rfl, s_q, K2, E2, F2⟩, c⟩ := c.callS (y := y_cli) (argsL := [.ref a]) (rest := []) 97 at_94 (con_cli hG S1.exa) rfl (hG.1 _ (List.mem_of_getElem? (i := 22) rfl)) (hG.1 _ (List.mem_of_getElem? (i := 23) rfl)) (hG.1 _ (List.mem_of_getElem? (i := 24) rfl)) (hG.1 _ (List.mem_of_getElem? (i := 25) rfl)) (lenOf pd_35 rfl) (by simp) (W := 0) rfl (by decide) (by decide) (by decide) (by decide)
  replace c := c [] (by simp)
  replace c : OAt G K M_law [a] 7 56 h3 97 #[.val (.int x0), .val (.int x1), .val (.int x2), .val (.int x3), .val (.int (Int32.ofNat k)), .val (.ref ca), .val (.ref a), .unset, .unset] [.ref q] := c
  have S2 := S1.keep K2 (fun x hx => by cases hx)
  obtain ⟨o, So, lo⟩ := hG.2.2.2.2.2.2.2.1
  have nqo : q ≠ o := Nat.ne_of_gt (Nat.lt_of_lt_of_le lo (by have h3 := K1.1; have h4 := x_a.1; have h5 := KA.1; omega))
  replace c := c.astore 99 at_97 rfl #[.val (.int x0), .val (.int x1), .val (.int x2), .val (.int x3), .val (.int (Int32.ofNat k)), .val (.ref ca), .val (.ref a), .val (.ref q), .unset] rfl
  replace c := c.aload 101 at_99 rfl rfl
  replace c := c.nullF 104 at_101
  replace c := c.aload 106 at_104 rfl rfl
  replace c := c.getS 109 at_106 (hG.1 _ (List.mem_of_getElem? (i := 39) rfl)) So
  replace c := c.acT 114 at_109 rfl rfl (by simp [Jvm.Free.XT.acmp, nqo, nqo.symm])
  replace c := c.aload 116 at_114 rfl rfl
  obtain ⟨v, h4, sf, ⟨s, rfl, K3, S3⟩, c⟩ := c.callV (y := (⟨"com/example/wegweiser/wegweiser/directory/Author", "toString", "()Ljava/lang/String;"⟩ : MethodName)) (z := y_ats) (C := "com/example/wegweiser/wegweiser/directory/Author") (a := q) (argsL := []) (rest := []) 119 at_116 (con_ats hG F2 S2 (by omega)) rfl E2 (hG.1 _ (List.mem_of_getElem? (i := 41) rfl)) (hG.1 _ (List.mem_of_getElem? (i := 42) rfl)) (own_nf (hG.1 _ (List.mem_of_getElem? (i := 44) rfl))) (hG.1 _ (List.mem_of_getElem? (i := 44) rfl)) (hG.1 _ (List.mem_of_getElem? (i := 43) rfl)) (hG.1 _ (List.mem_of_getElem? (i := 24) rfl)) (hG.1 _ (List.mem_of_getElem? (i := 45) rfl)) (lenOf pd_32 rfl) (by simp) (W := 0) rfl (by decide) (by decide) (by decide) (by decide)
  replace c := c [] (by simp)
  replace c : OAt G K M_law [a] 15 224 h4 119 #[.val (.int x0), .val (.int x1), .val (.int x2), .val (.int x3), .val (.int (Int32.ofNat k)), .val (.ref ca), .val (.ref a), .val (.ref q), .unset] [.ref s] := c
  replace c := c.astore 121 at_119 rfl #[.val (.int x0), .val (.int x1), .val (.int x2), .val (.int x3), .val (.int (Int32.ofNat k)), .val (.ref ca), .val (.ref a), .val (.ref q), .val (.ref s)] rfl
  replace c := c.aload 123 at_121 rfl rfl
  replace c := c.nullF 126 at_123
  replace c := c.aload 128 at_126 rfl rfl
  have hln : (lit1 ++ cs).length = 11 + k := by rw [List.length_append, lit1_len, hcl]
  obtain ⟨v, h5, sf, ⟨rfl, hh⟩, c⟩ := c.callV (y := (⟨"java/lang/String", "length", "()I"⟩ : MethodName)) (z := y_slen) (C := "java/lang/String") (a := s) (argsL := []) (rest := []) 131 at_128 (own_slen hG S3 (by omega)) rfl S3.exa (hG.1 _ (List.mem_of_getElem? (i := 158) rfl)) (hG.1 _ (List.mem_of_getElem? (i := 76) rfl)) (own_nf (hG.1 _ (List.mem_of_getElem? (i := 78) rfl))) (hG.1 _ (List.mem_of_getElem? (i := 78) rfl)) (hG.1 _ (List.mem_of_getElem? (i := 77) rfl)) (hG.1 _ (List.mem_of_getElem? (i := 3) rfl)) (hG.1 _ (List.mem_of_getElem? (i := 79) rfl)) (lenOf pd_10 rfl) (by simp) (W := 0) rfl (by decide) (by decide) (by decide) (by decide)
  rw [hh] at c
  replace c := c [] (by simp)
  replace c : OAt G K M_law [a] 15 224 h4 131 #[.val (.int x0), .val (.int x1), .val (.int x2), .val (.int x3), .val (.int (Int32.ofNat k)), .val (.ref ca), .val (.ref a), .val (.ref q), .val (.ref s)] [.int (Int32.ofNat (lit1 ++ cs).length)] := c
  rw [hln] at c
  replace c := c.bipush 133 at_131 11 (by decide)
  replace c := c.iload 135 at_133 rfl
  replace c := c.iadd 136 at_135
  have e11 : (11 : Int32) + Int32.ofNat k = Int32.ofNat (11 + k) := own_addn 11 k
  rw [e11] at c
  replace c := c.icT 141 at_136 (own_ic_eq_t rfl)
  replace c := c.aload 143 at_141 rfl rfl
  obtain ⟨v, h5, sf, ⟨rfl, K4⟩, c⟩ := c.callS (y := y_pfx) (argsL := [.ref s]) (rest := []) 146 at_143 (con_pfx hG S3 (by omega)) rfl (hG.1 _ (List.mem_of_getElem? (i := 159) rfl)) (hG.1 _ (List.mem_of_getElem? (i := 160) rfl)) (hG.1 _ (List.mem_of_getElem? (i := 161) rfl)) (hG.1 _ (List.mem_of_getElem? (i := 162) rfl)) (lenOf pd_36 rfl) (by simp) (W := 0) rfl (by decide) (by decide) (by decide) (by decide)
  replace c := c [] (by simp)
  replace c : OAt G K M_law [a] 17 272 h5 146 #[.val (.int x0), .val (.int x1), .val (.int x2), .val (.int x3), .val (.int (Int32.ofNat k)), .val (.ref ca), .val (.ref a), .val (.ref q), .val (.ref s)] [.int 1] := c
  have S4 := S3.keep K4 (fun x hx => by cases hx)
  replace c := c.ifT 151 at_146 (own_if_ne_t (by decide))
  replace c := c.iload 153 at_151 rfl
  replace c := c.iconst 154 at_153 1 (by decide)
  subst hcs
  clear hcl hl3 hln e11
  rcases hk with rfl | rfl | rfl | rfl
  · skip
    replace c : OAt G K M_law [a] 17 272 h5 154 #[.val (.int x0), .val (.int x1), .val (.int x2), .val (.int x3), .val (.int (Int32.ofNat 0)), .val (.ref ca), .val (.ref a), .val (.ref q), .val (.ref s)] [.int 1, .int (Int32.ofNat 0)] := c
    replace c := c.icT 171 at_154 (own_ic_lt_t (by decide))
    replace c := c.iload 173 at_171 rfl
    replace c := c.iconst 174 at_173 2 (by decide)
    replace c := c.icT 191 at_174 (own_ic_lt_t (by decide))
    replace c := c.iload 193 at_191 rfl
    replace c := c.iconst 194 at_193 3 (by decide)
    replace c := c.icT 211 at_194 (own_ic_lt_t (by decide))
    replace c := c.iconst 212 at_211 1 (by decide)
    exact c.reti (t := .boolean) at_212 rfl rfl (by simp) (fun sf hs => rfl) (by decide) (by decide)
  · skip
    replace c : OAt G K M_law [a] 17 272 h5 154 #[.val (.int x0), .val (.int x1), .val (.int x2), .val (.int x3), .val (.int (Int32.ofNat 1)), .val (.ref ca), .val (.ref a), .val (.ref q), .val (.ref s)] [.int 1, .int (Int32.ofNat 1)] := c
    replace c := c.icF 157 at_154 (own_ic_lt_f (by decide))
    replace c := c.aload 159 at_157 rfl rfl
    replace c := c.bipush 161 at_159 11 (by decide)
    obtain ⟨v, h6, sf, ⟨rfl, hh⟩, c⟩ := c.callV (y := (⟨"java/lang/String", "charAt", "(I)C"⟩ : MethodName)) (z := y_cha) (C := "java/lang/String") (a := s) (argsL := [.int 11]) (rest := []) 164 at_161 (con_cha hG (i := 11) (x := ic x1) (cs := lit1 ++ List.take 1 [ic x1, ic x2, ic x3]) rfl (by rw [List.length_append, lit1_len]; simp) S4) rfl S4.exa (hG.1 _ (List.mem_of_getElem? (i := 164) rfl)) (hG.1 _ (List.mem_of_getElem? (i := 165) rfl)) (own_nf (hG.1 _ (List.mem_of_getElem? (i := 167) rfl))) (hG.1 _ (List.mem_of_getElem? (i := 167) rfl)) (hG.1 _ (List.mem_of_getElem? (i := 166) rfl)) (hG.1 _ (List.mem_of_getElem? (i := 3) rfl)) (hG.1 _ (List.mem_of_getElem? (i := 168) rfl)) (lenOf pd_33 rfl) (by simp) (W := 0) rfl (by decide) (by decide) (by decide) (by decide)
    rw [hh] at c
    replace c := c [] (by simp)
    replace c : OAt G K M_law [a] 17 272 h5 164 #[.val (.int x0), .val (.int x1), .val (.int x2), .val (.int x3), .val (.int (Int32.ofNat 1)), .val (.ref ca), .val (.ref a), .val (.ref q), .val (.ref s)] [.int (ic x1)] := c
    replace c := c.iloadN 165 at_164 rfl
    replace c := c.i2c 166 at_165
    replace c := c.icT 171 at_166 (own_ic_eq_t rfl)
    replace c := c.iload 173 at_171 rfl
    replace c := c.iconst 174 at_173 2 (by decide)
    replace c := c.icT 191 at_174 (own_ic_lt_t (by decide))
    replace c := c.iload 193 at_191 rfl
    replace c := c.iconst 194 at_193 3 (by decide)
    replace c := c.icT 211 at_194 (own_ic_lt_t (by decide))
    replace c := c.iconst 212 at_211 1 (by decide)
    exact c.reti (t := .boolean) at_212 rfl rfl (by simp) (fun sf hs => rfl) (by decide) (by decide)
  · skip
    replace c : OAt G K M_law [a] 17 272 h5 154 #[.val (.int x0), .val (.int x1), .val (.int x2), .val (.int x3), .val (.int (Int32.ofNat 2)), .val (.ref ca), .val (.ref a), .val (.ref q), .val (.ref s)] [.int 1, .int (Int32.ofNat 2)] := c
    replace c := c.icF 157 at_154 (own_ic_lt_f (by decide))
    replace c := c.aload 159 at_157 rfl rfl
    replace c := c.bipush 161 at_159 11 (by decide)
    obtain ⟨v, h6, sf, ⟨rfl, hh⟩, c⟩ := c.callV (y := (⟨"java/lang/String", "charAt", "(I)C"⟩ : MethodName)) (z := y_cha) (C := "java/lang/String") (a := s) (argsL := [.int 11]) (rest := []) 164 at_161 (con_cha hG (i := 11) (x := ic x1) (cs := lit1 ++ List.take 2 [ic x1, ic x2, ic x3]) rfl (by rw [List.length_append, lit1_len]; simp) S4) rfl S4.exa (hG.1 _ (List.mem_of_getElem? (i := 164) rfl)) (hG.1 _ (List.mem_of_getElem? (i := 165) rfl)) (own_nf (hG.1 _ (List.mem_of_getElem? (i := 167) rfl))) (hG.1 _ (List.mem_of_getElem? (i := 167) rfl)) (hG.1 _ (List.mem_of_getElem? (i := 166) rfl)) (hG.1 _ (List.mem_of_getElem? (i := 3) rfl)) (hG.1 _ (List.mem_of_getElem? (i := 168) rfl)) (lenOf pd_33 rfl) (by simp) (W := 0) rfl (by decide) (by decide) (by decide) (by decide)
    rw [hh] at c
    replace c := c [] (by simp)
    replace c : OAt G K M_law [a] 17 272 h5 164 #[.val (.int x0), .val (.int x1), .val (.int x2), .val (.int x3), .val (.int (Int32.ofNat 2)), .val (.ref ca), .val (.ref a), .val (.ref q), .val (.ref s)] [.int (ic x1)] := c
    replace c := c.iloadN 165 at_164 rfl
    replace c := c.i2c 166 at_165
    replace c := c.icT 171 at_166 (own_ic_eq_t rfl)
    replace c := c.iload 173 at_171 rfl
    replace c := c.iconst 174 at_173 2 (by decide)
    replace c := c.icF 177 at_174 (own_ic_lt_f (by decide))
    replace c := c.aload 179 at_177 rfl rfl
    replace c := c.bipush 181 at_179 12 (by decide)
    obtain ⟨v, h6, sf, ⟨rfl, hh⟩, c⟩ := c.callV (y := (⟨"java/lang/String", "charAt", "(I)C"⟩ : MethodName)) (z := y_cha) (C := "java/lang/String") (a := s) (argsL := [.int 12]) (rest := []) 184 at_181 (con_cha hG (i := 12) (x := ic x2) (cs := lit1 ++ List.take 2 [ic x1, ic x2, ic x3]) rfl (by rw [List.length_append, lit1_len]; simp) S4) rfl S4.exa (hG.1 _ (List.mem_of_getElem? (i := 164) rfl)) (hG.1 _ (List.mem_of_getElem? (i := 165) rfl)) (own_nf (hG.1 _ (List.mem_of_getElem? (i := 167) rfl))) (hG.1 _ (List.mem_of_getElem? (i := 167) rfl)) (hG.1 _ (List.mem_of_getElem? (i := 166) rfl)) (hG.1 _ (List.mem_of_getElem? (i := 3) rfl)) (hG.1 _ (List.mem_of_getElem? (i := 168) rfl)) (lenOf pd_33 rfl) (by simp) (W := 0) rfl (by decide) (by decide) (by decide) (by decide)
    rw [hh] at c
    replace c := c [] (by simp)
    replace c : OAt G K M_law [a] 17 272 h5 184 #[.val (.int x0), .val (.int x1), .val (.int x2), .val (.int x3), .val (.int (Int32.ofNat 2)), .val (.ref ca), .val (.ref a), .val (.ref q), .val (.ref s)] [.int (ic x2)] := c
    replace c := c.iloadN 185 at_184 rfl
    replace c := c.i2c 186 at_185
    replace c := c.icT 191 at_186 (own_ic_eq_t rfl)
    replace c := c.iload 193 at_191 rfl
    replace c := c.iconst 194 at_193 3 (by decide)
    replace c := c.icT 211 at_194 (own_ic_lt_t (by decide))
    replace c := c.iconst 212 at_211 1 (by decide)
    exact c.reti (t := .boolean) at_212 rfl rfl (by simp) (fun sf hs => rfl) (by decide) (by decide)
  · skip
    replace c : OAt G K M_law [a] 17 272 h5 154 #[.val (.int x0), .val (.int x1), .val (.int x2), .val (.int x3), .val (.int (Int32.ofNat 3)), .val (.ref ca), .val (.ref a), .val (.ref q), .val (.ref s)] [.int 1, .int (Int32.ofNat 3)] := c
    replace c := c.icF 157 at_154 (own_ic_lt_f (by decide))
    replace c := c.aload 159 at_157 rfl rfl
    replace c := c.bipush 161 at_159 11 (by decide)
    obtain ⟨v, h6, sf, ⟨rfl, hh⟩, c⟩ := c.callV (y := (⟨"java/lang/String", "charAt", "(I)C"⟩ : MethodName)) (z := y_cha) (C := "java/lang/String") (a := s) (argsL := [.int 11]) (rest := []) 164 at_161 (con_cha hG (i := 11) (x := ic x1) (cs := lit1 ++ List.take 3 [ic x1, ic x2, ic x3]) rfl (by rw [List.length_append, lit1_len]; simp) S4) rfl S4.exa (hG.1 _ (List.mem_of_getElem? (i := 164) rfl)) (hG.1 _ (List.mem_of_getElem? (i := 165) rfl)) (own_nf (hG.1 _ (List.mem_of_getElem? (i := 167) rfl))) (hG.1 _ (List.mem_of_getElem? (i := 167) rfl)) (hG.1 _ (List.mem_of_getElem? (i := 166) rfl)) (hG.1 _ (List.mem_of_getElem? (i := 3) rfl)) (hG.1 _ (List.mem_of_getElem? (i := 168) rfl)) (lenOf pd_33 rfl) (by simp) (W := 0) rfl (by decide) (by decide) (by decide) (by decide)
    rw [hh] at c
    replace c := c [] (by simp)
    replace c : OAt G K M_law [a] 17 272 h5 164 #[.val (.int x0), .val (.int x1), .val (.int x2), .val (.int x3), .val (.int (Int32.ofNat 3)), .val (.ref ca), .val (.ref a), .val (.ref q), .val (.ref s)] [.int (ic x1)] := c
    replace c := c.iloadN 165 at_164 rfl
    replace c := c.i2c 166 at_165
    replace c := c.icT 171 at_166 (own_ic_eq_t rfl)
    replace c := c.iload 173 at_171 rfl
    replace c := c.iconst 174 at_173 2 (by decide)
    replace c := c.icF 177 at_174 (own_ic_lt_f (by decide))
    replace c := c.aload 179 at_177 rfl rfl
    replace c := c.bipush 181 at_179 12 (by decide)
    obtain ⟨v, h6, sf, ⟨rfl, hh⟩, c⟩ := c.callV (y := (⟨"java/lang/String", "charAt", "(I)C"⟩ : MethodName)) (z := y_cha) (C := "java/lang/String") (a := s) (argsL := [.int 12]) (rest := []) 184 at_181 (con_cha hG (i := 12) (x := ic x2) (cs := lit1 ++ List.take 3 [ic x1, ic x2, ic x3]) rfl (by rw [List.length_append, lit1_len]; simp) S4) rfl S4.exa (hG.1 _ (List.mem_of_getElem? (i := 164) rfl)) (hG.1 _ (List.mem_of_getElem? (i := 165) rfl)) (own_nf (hG.1 _ (List.mem_of_getElem? (i := 167) rfl))) (hG.1 _ (List.mem_of_getElem? (i := 167) rfl)) (hG.1 _ (List.mem_of_getElem? (i := 166) rfl)) (hG.1 _ (List.mem_of_getElem? (i := 3) rfl)) (hG.1 _ (List.mem_of_getElem? (i := 168) rfl)) (lenOf pd_33 rfl) (by simp) (W := 0) rfl (by decide) (by decide) (by decide) (by decide)
    rw [hh] at c
    replace c := c [] (by simp)
    replace c : OAt G K M_law [a] 17 272 h5 184 #[.val (.int x0), .val (.int x1), .val (.int x2), .val (.int x3), .val (.int (Int32.ofNat 3)), .val (.ref ca), .val (.ref a), .val (.ref q), .val (.ref s)] [.int (ic x2)] := c
    replace c := c.iloadN 185 at_184 rfl
    replace c := c.i2c 186 at_185
    replace c := c.icT 191 at_186 (own_ic_eq_t rfl)
    replace c := c.iload 193 at_191 rfl
    replace c := c.iconst 194 at_193 3 (by decide)
    replace c := c.icF 197 at_194 (own_ic_lt_f (by decide))
    replace c := c.aload 199 at_197 rfl rfl
    replace c := c.bipush 201 at_199 13 (by decide)
    obtain ⟨v, h6, sf, ⟨rfl, hh⟩, c⟩ := c.callV (y := (⟨"java/lang/String", "charAt", "(I)C"⟩ : MethodName)) (z := y_cha) (C := "java/lang/String") (a := s) (argsL := [.int 13]) (rest := []) 204 at_201 (con_cha hG (i := 13) (x := ic x3) (cs := lit1 ++ List.take 3 [ic x1, ic x2, ic x3]) rfl (by rw [List.length_append, lit1_len]; simp) S4) rfl S4.exa (hG.1 _ (List.mem_of_getElem? (i := 164) rfl)) (hG.1 _ (List.mem_of_getElem? (i := 165) rfl)) (own_nf (hG.1 _ (List.mem_of_getElem? (i := 167) rfl))) (hG.1 _ (List.mem_of_getElem? (i := 167) rfl)) (hG.1 _ (List.mem_of_getElem? (i := 166) rfl)) (hG.1 _ (List.mem_of_getElem? (i := 3) rfl)) (hG.1 _ (List.mem_of_getElem? (i := 168) rfl)) (lenOf pd_33 rfl) (by simp) (W := 0) rfl (by decide) (by decide) (by decide) (by decide)
    rw [hh] at c
    replace c := c [] (by simp)
    replace c : OAt G K M_law [a] 17 272 h5 204 #[.val (.int x0), .val (.int x1), .val (.int x2), .val (.int x3), .val (.int (Int32.ofNat 3)), .val (.ref ca), .val (.ref a), .val (.ref q), .val (.ref s)] [.int (ic x3)] := c
    replace c := c.iloadN 205 at_204 rfl
    replace c := c.i2c 206 at_205
    replace c := c.icT 211 at_206 (own_ic_eq_t rfl)
    replace c := c.iconst 212 at_211 1 (by decide)
    exact c.reti (t := .boolean) at_212 rfl rfl (by simp) (fun sf hs => rfl) (by decide) (by decide)
set_option maxRecDepth 65536 in
set_option maxHeartbeats 4000000 in
theorem comes_1 {Post : Tables → Env → Array Value → State → Outcome → State → Prop} (hpost : ∀ tb e args s v u, (limb_1_1.after args s (.returned v) u = true ∧ limb_1_2.after args s (.returned v) u = true ∧ True) → ReturnedEndW s (.returned v) u (Jvm.fieldLocs frame_1_writes args s ++ Jvm.arrayLocs frame_1_arrays args s ++ Jvm.staticLocs frame_1_statics s) 40 3392 → Post tb e args s (.returned v) u) :
    ArmFor flags0 classFile x code maxLocals ret World_1 tables_1 room_1 Calls_1 rest_1 Pre_1 Post := by
  intro l hfl _ _ p e ha hc hk s m args below hf hA hF happ hP
  obtain ⟨hcalls, hrest, hpre⟩ := hP
  obtain ⟨-, -, -, hnamed, -, -, -, hat⟩ := (Spec.applies_iff hf).mp happ
  obtain ⟨hg, hn⟩ := and_e (Cond.before_iff.mp (show (Jvm.Cond.and given_1 narrow_1).before args s = true from hpre))
  obtain ⟨hc0, hr0⟩ := and_e hg
  obtain ⟨ha0, hr1⟩ := and_e hr0
  obtain ⟨ha1, hr2⟩ := and_e hr1
  obtain ⟨ha2, hr3⟩ := and_e hr2
  have ha3 := hr3
  obtain ⟨w0, w1, w2, w3, rfl⟩ : ∃ w0 w1 w2 w3 : Value, args = #[w0, w1, w2, w3] := by
    have hs : args.size = 4 := by simpa [Cond.value, given_1] using hc0
    obtain ⟨L⟩ := args
    match L, hs with
    | [w0, w1, w2, w3], _ => exact ⟨w0, w1, w2, w3, rfl⟩
  have hw := fun d (hd : d ∈ tables_1) => atoms_spec (ws := Jvm.Cond.code x code maxLocals ret :: tables_1) hat d (List.mem_cons_of_mem _ hd)
  obtain ⟨hsets, hown0⟩ := atoms_of _ (rest_1_c_eq ▸ (show rest_1_c.before _ s = true from hrest))
  have hfit : Fit s := fun {y c} hc i hi => by
    obtain ⟨ha, rfl⟩ := Array.getElem?_eq_some_iff.mp hc
    have q := List.all_eq_true.mp ((Array.all_eq_true_iff_forall_mem.mp hF) _ (Array.getElem_mem ha)) i (List.mem_range.mpr hi)
    simpa [Array.getElem?_eq_getElem hi] using q
  obtain ⟨i0, e0⟩ := is_v ha0
  obtain rfl : w0 = (.int i0) := Option.some.inj e0
  obtain ⟨i1, e1⟩ := is_v ha1
  obtain rfl : w1 = (.int i1) := Option.some.inj e1
  obtain ⟨i2, e2⟩ := is_v ha2
  obtain rfl : w2 = (.int i2) := Option.some.inj e2
  obtain ⟨i3, e3⟩ := is_v ha3
  obtain rfl : w3 = (.int i3) := Option.some.inj e3
  obtain ⟨iz, ez⟩ := is_v (Cond.before_iff.mp (hsets _ (List.mem_of_getElem? (i := 1) rfl)))
  have Sz : Sta s s.heap "java/lang/String" "COMPACT_STRINGS" "Z" (.int iz) := Sta.start ez (Or.inl (hsets _ (List.mem_of_getElem? (i := 0) rfl)))
  have nz : ¬ (iz = (0 : Int32)) := gotF (Cond.eq_ints ez (Term.int_eval (0))) (not_v (Cond.before_iff.mp (hsets _ (List.mem_of_getElem? (i := 2) rfl))))
  obtain ⟨vf, ef, rf⟩ := isR_v (Cond.before_iff.mp (hsets _ (List.mem_of_getElem? (i := 8) rfl)))
  have Sf : Sta s s.heap "jdk/internal/util/Preconditions" "SIOOBE_FORMATTER" "Ljava/util/function/BiFunction;" vf := Sta.start ef (Or.inl (hsets _ (List.mem_of_getElem? (i := 7) rfl)))
  obtain ⟨ao, eo⟩ := exa_v hn
  have Eo := Exa.start eo hn
  have hG : OGood (l, s, #[.int i0, .int i1, .int i2, .int i3], consts_1, s.heap.size) := ⟨hw, rfl, ⟨iz, Sz, nz⟩, Sta.start (Cond.eq_int (hsets _ (List.mem_of_getElem? (i := 12) rfl)) rfl) (Or.inl (hsets _ (List.mem_of_getElem? (i := 11) rfl))), Sta.start (Cond.eq_int (hsets _ (List.mem_of_getElem? (i := 15) rfl)) rfl) (Or.inl (hsets _ (List.mem_of_getElem? (i := 14) rfl))), Sta.start (Cond.eq_int (hsets _ (List.mem_of_getElem? (i := 18) rfl)) rfl) (Or.inl (hsets _ (List.mem_of_getElem? (i := 17) rfl))), ⟨vf, Sf, rf⟩, ⟨ao, Sta.start eo (Or.inr ⟨(hw _ (List.mem_of_getElem? (i := 24) rfl)), (hw _ (List.mem_of_getElem? (i := 40) rfl))⟩), Eo.lt⟩, trivial⟩
  obtain ⟨n, o, h1, h2, h3, _, L, rfl, rfl, N, -, -, hq⟩ := con_law (G := (l, s, #[.int i0, .int i1, .int i2, .int i3], consts_1, s.heap.size)) hG  p e ha hc hk s m _ below hf ((Spec.applies_iff_loose hf).mp happ).1 ⟨rfl, State.Warmed39.refl s, rfl, CHv.start (own_ew hG) (fun p hp => hcalls.1 p hp) (hsets _ (List.mem_of_getElem? (i := 2) rfl)) (hw _ (List.mem_of_getElem? (i := 15) rfl)) (hw _ (List.mem_of_getElem? (i := 2) rfl)), (fun x hx => (by cases hx)), Old.start s⟩ trivial
  refine ⟨n, _, h1, h2, h3, hpost _ _ _ _ _ _ ⟨Cond.after_iff.mpr rfl, Cond.after_iff.mpr (eq_i res_at (Term.int_eval (1)) rfl), trivial⟩ ⟨hq.1, hq.2.1, hq.2.2.1, (hq.2.2.2.sift fun y hy => Or.inr (N y hy)).mono (by decide) (by decide)⟩⟩
theorem main_1_1 : Claimed_1_1 := comes_1 fun _ _ _ _ _ _ h hF => ⟨h.1, hF⟩
theorem main_1_2 : Claimed_1_2 := comes_1 fun _ _ _ _ _ _ h hF => ⟨h.2.1, hF⟩
end Jvm.Pilot.@@N@@
namespace Jvm.Pilot.@@N@@
open Jvm Jvm.ClassFile Sem Op Lib Jvm.Free Jvm.Stand Jvm.Pilot.@@N@@.Jvm.D
/-! MADE BY PROGRAM (witnessworld.py) out of the Statement's table words and the real class files: 27 classes; the members and pool entries that the words name. The judged class is class 1, her method 1. -/
namespace start1
open Jvm.ClassFile
def u (s : String) : CpInfo := .utf8 (stringToUtf16 s)
/-- a pool by its gaps: so many unusable entries, then the entry; so many at the end -/
def gap : Nat → List CpInfo → List CpInfo
  | 0, r => r
  | n + 1, r => .unusable :: gap n r
def poolList (es : List (Nat × CpInfo)) (last : Nat) : List CpInfo := es.foldr (fun e r => gap e.1 (e.2 :: r)) (gap last [])
def pool (es : List (Nat × CpInfo)) (last : Nat) : Array CpInfo := ⟨poolList es last⟩
def fileOf (pool : Array CpInfo) (this : Nat) (attrs : Array Attribute := #[]) (ms : Array MethodInfo := #[]) (fl : Nat := 33) (sup : Nat := 0) (ifs : Array Nat := #[]) (fds : Array FieldInfo := #[]) : ClassFile where
  minorVersion := 0
  majorVersion := 65
  constantPool := pool
  accessFlags := fl
  thisClass := this
  superClass := sup
  interfaces := ifs
  fields := fds
  methods := ms
  attributes := attrs
def plain (name : String) (sup : Option ClassId) : Class where
  name := name
  kind := .ordinary
  loader := none
  accessFlags := 33
  super := sup
  interfaces := #[]
  cf := none
  fields := #[]
  methods := #[]
  instanceTypes := #[]
  staticTypes := #[]
  resolved := #[]
  callSites := []
  init := .initialized
  statics := none
  mirror := none

def pool0 : Array CpInfo := pool [(5, u "<init>"), (0, u "()V"), (1, .class_ 10), (1, u "java/lang/Object")] 113

def k0c0 : Code := { maxStack := 0, maxLocals := 1, code := object_method_1_code, exceptionTable := #[], attributes := #[] }
def k0m0 : Method := { name := "<init>", desc := "()V", sig := { parameters := [], returnType := none }, accessFlags := 1, code := some k0c0 }
/-- java/lang/Object -/
def k0 : Class := { plain "java/lang/Object" none with
  accessFlags := 33
  interfaces := #[]
  cf := some (fileOf pool0 8 #[] #[{ accessFlags := 1, nameIndex := 5, descriptorIndex := 6, attributes := #[] }] 33 0 #[] #[])
  fields := #[]
  methods := #[k0m0]
  instanceTypes := #[]
  staticTypes := #[]
  resolved := Array.replicate 124 none
  statics := none }

def pool1 : Array CpInfo := pool [(2, .class_ 4), (1, u "java/lang/Object"), (0, u "<init>"), (0, u "()V"), (0, .class_ 8), (0, u "java/lang/String"), (0, .methodref 7 10), (0, .nameAndType 5 11), (0, u "([C)V"), (0, .methodref 13 14), (0, .class_ 15), (0, .nameAndType 16 17), (0, u "com/example/wegweiser/wegweiser/directory/Author"), (0, u "client"), (0, u "(Ljava/lang/String;)Lcom/example/wegweiser/wegweiser/directory/Author;"), (0, .fieldref 13 19), (0, .nameAndType 20 21), (0, u "OPERATOR"), (0, u "Lcom/example/wegweiser/wegweiser/directory/Author;"), (0, .methodref 13 23), (0, .nameAndType 24 25), (0, u "toString"), (0, u "()Ljava/lang/String;"), (0, .methodref 7 27), (0, .nameAndType 28 29), (0, u "length"), (0, u "()I"), (0, .methodref 31 32), (0, .class_ 33), (0, .nameAndType 34 35), (0, u "com/example/wegweiser/wegweiser/directory/AuthorClientPinLaw"), (0, u "prefixOk"), (0, u "(Ljava/lang/String;)Z"), (0, .methodref 7 37), (0, .nameAndType 38 39), (0, u "charAt"), (0, u "(I)C"), (0, .string 41), (0, u "the client "), (2, u "law"), (0, u "(IIII)Z")] 5

def k1m0 : Method := { name := "<init>", desc := "()V", sig := { parameters := [], returnType := none }, accessFlags := 1, code := none }
def k1c1 : Code := { maxStack := 4, maxLocals := 9, code := code, exceptionTable := #[], attributes := #[] }
def k1m1 : Method := { name := "law", desc := "(IIII)Z", sig := { parameters := [.int, .int, .int, .int], returnType := some .boolean }, accessFlags := 9, code := some k1c1 }
def k1c2 : Code := { maxStack := 3, maxLocals := 2, code := method_3_code, exceptionTable := #[], attributes := #[] }
def k1m2 : Method := { name := "prefixOk", desc := "(Ljava/lang/String;)Z", sig := { parameters := [(.object "java/lang/String")], returnType := some .boolean }, accessFlags := 10, code := some k1c2 }
/-- com/example/wegweiser/wegweiser/directory/AuthorClientPinLaw -/
def k1 : Class := { plain "com/example/wegweiser/wegweiser/directory/AuthorClientPinLaw" (some 0) with
  accessFlags := 49
  interfaces := #[]
  cf := some (fileOf pool1 31 #[] #[{ accessFlags := 1, nameIndex := 5, descriptorIndex := 6, attributes := #[] }, { accessFlags := 9, nameIndex := 44, descriptorIndex := 45, attributes := #[] }, { accessFlags := 10, nameIndex := 34, descriptorIndex := 35, attributes := #[] }] 49 2 #[] #[])
  fields := #[]
  methods := #[k1m0, k1m1, k1m2]
  instanceTypes := #[]
  staticTypes := #[]
  resolved := Array.replicate 51 none
  statics := none }

def pool2 : Array CpInfo := pool [(1, .class_ 2), (0, u "java/io/Serializable"), (0, .class_ 4), (0, u "java/lang/Object")] 2

/-- java/io/Serializable -/
def k2 : Class := { plain "java/io/Serializable" (some 0) with
  accessFlags := 1537
  interfaces := #[]
  cf := some (fileOf pool2 1 #[] #[] 1537 3 #[] #[])
  fields := #[]
  methods := #[]
  instanceTypes := #[]
  staticTypes := #[]
  resolved := Array.replicate 7 none
  statics := none }

def pool3 : Array CpInfo := pool [(1, .class_ 2), (0, u "java/lang/Comparable"), (0, .class_ 4), (0, u "java/lang/Object")] 7

/-- java/lang/Comparable -/
def k3 : Class := { plain "java/lang/Comparable" (some 0) with
  accessFlags := 1537
  interfaces := #[]
  cf := some (fileOf pool3 1 #[] #[] 1537 3 #[] #[])
  fields := #[]
  methods := #[]
  instanceTypes := #[]
  staticTypes := #[]
  resolved := Array.replicate 12 none
  statics := none }

def pool4 : Array CpInfo := pool [(2, .class_ 4), (1, u "java/lang/CharSequence"), (42, .class_ 48), (0, u "java/lang/CharSequence$1CodePointIterator"), (10, .class_ 60), (0, u "java/lang/CharSequence$1CharIterator"), (5, .class_ 67), (0, u "java/lang/Object")] 63

/-- java/lang/CharSequence -/
def k4 : Class := { plain "java/lang/CharSequence" (some 0) with
  accessFlags := 1537
  interfaces := #[]
  cf := some (fileOf pool4 2 #[.nestMembers #[47, 59]] #[] 1537 66 #[] #[])
  fields := #[]
  methods := #[]
  instanceTypes := #[]
  staticTypes := #[]
  resolved := Array.replicate 131 none
  statics := none }

def pool5 : Array CpInfo := pool [(1, .class_ 2), (0, u "java/lang/constant/Constable"), (0, .class_ 4), (0, u "java/lang/Object")] 6

/-- java/lang/constant/Constable -/
def k5 : Class := { plain "java/lang/constant/Constable" (some 0) with
  accessFlags := 1537
  interfaces := #[]
  cf := some (fileOf pool5 1 #[] #[] 1537 3 #[] #[])
  fields := #[]
  methods := #[]
  instanceTypes := #[]
  staticTypes := #[]
  resolved := Array.replicate 11 none
  statics := none }

def pool6 : Array CpInfo := pool [(1, .class_ 2), (0, u "java/lang/constant/ConstantDesc"), (0, .class_ 4), (0, u "java/lang/Object")] 32

/-- java/lang/constant/ConstantDesc -/
def k6 : Class := { plain "java/lang/constant/ConstantDesc" (some 0) with
  accessFlags := 1537
  interfaces := #[]
  cf := some (fileOf pool6 1 #[] #[] 1537 3 #[] #[])
  fields := #[]
  methods := #[]
  instanceTypes := #[]
  staticTypes := #[]
  resolved := Array.replicate 37 none
  statics := none }

def pool7 : Array CpInfo := pool [(1, .methodref 2 3), (0, .class_ 4), (0, .nameAndType 5 6), (0, u "java/lang/Object"), (0, u "<init>"), (0, u "()V"), (0, .string 8), (0, u ""), (0, .fieldref 10 11), (0, .class_ 12), (0, .nameAndType 13 14), (0, u "java/lang/String"), (0, u "value"), (0, u "[B"), (0, .fieldref 10 16), (0, .nameAndType 17 18), (0, u "coder"), (0, u "B"), (2, u "hash"), (0, u "I"), (2, u "hashIsZero"), (0, u "Z"), (0, .methodref 10 28), (0, .nameAndType 5 29), (0, u "([CIILjava/lang/Void;)V"), (6, u "checkBoundsOffCount"), (0, u "(III)I"), (0, .fieldref 10 39), (0, .nameAndType 40 26), (0, u "COMPACT_STRINGS"), (1, .class_ 44), (1, u "java/lang/StringUTF16"), (0, u "compress"), (1, .methodref 42 48), (0, .nameAndType 49 50), (0, u "coderFromArrayLen"), (0, u "([BI)B"), (3, .methodref 55 56), (0, .class_ 57), (0, .nameAndType 58 59), (0, u "java/util/Arrays"), (0, u "copyOfRange"), (0, u "([BII)[B"), (47, .class_ 109), (1, u "java/lang/StringLatin1"), (32, u "()Z"), (34, .methodref 42 178), (0, .nameAndType 45 179), (0, u "([CII)[B"), (13, .class_ 195), (1, u "java/lang/System"), (16, .methodref 193 213), (0, .nameAndType 214 215), (0, u "arraycopy"), (0, u "(Ljava/lang/Object;ILjava/lang/Object;II)V"), (118, u "()I"), (0, .methodref 10 336), (0, .nameAndType 17 337), (0, u "()B"), (2, u "()[B"), (22, u "([BI)C"), (27, u "(II)V"), (35, u "(I)C"), (61, .methodref 10 490), (0, .nameAndType 5 491), (0, u "(Ljava/lang/AbstractStringBuilder;Ljava/lang/Void;)V"), (0, .methodref 10 493), (0, .nameAndType 494 142), (0, u "isLatin1"), (0, .methodref 107 496), (0, .nameAndType 497 363), (0, u "charAt"), (0, .methodref 42 496), (2, u "checkIndex"), (4, .nameAndType 507 334), (0, u "length"), (24, u "getBytes"), (16, .methodref 550 506), (0, .class_ 551), (0, u "java/lang/AbstractStringBuilder"), (0, .methodref 550 553), (0, .nameAndType 554 340), (0, u "getValue"), (20, .class_ 576), (0, u "java/lang/CharSequence"), (22, u "CASE_INSENSITIVE_ORDER"), (0, u "Ljava/util/Comparator;"), (220, u "([BIB)V"), (188, u "([C)V"), (36, .methodref 550 493), (0, .fieldref 550 1049), (0, .nameAndType 1050 26), (0, u "maybeLatin1"), (2, .fieldref 1054 1055), (0, .class_ 1056), (0, .nameAndType 1057 1058), (0, u "jdk/internal/util/Preconditions"), (0, u "SIOOBE_FORMATTER"), (0, u "Ljava/util/function/BiFunction;"), (0, .methodref 1054 1060), (0, .nameAndType 501 1061), (0, u "(IILjava/util/function/BiFunction;)I"), (2, u "(IIILjava/util/function/BiFunction;)I"), (0, .methodref 1054 1066), (0, .nameAndType 1067 1064), (0, u "checkFromIndexSize"), (33, u "serialPersistentFields"), (0, u "[Ljava/io/ObjectStreamField;"), (0, .class_ 1104), (0, u "java/lang/String$CaseInsensitiveComparator"), (1, .class_ 1107), (0, u "java/io/Serializable"), (0, .class_ 1109), (0, u "java/lang/Comparable"), (0, .class_ 1111), (0, u "java/lang/constant/Constable"), (0, .class_ 1113), (0, u "java/lang/constant/ConstantDesc"), (2, u "serialVersionUID"), (0, u "J"), (3, u "REPL"), (0, u "C"), (2, u "LATIN1"), (1, u "UTF16"), (105, u "(Ljava/lang/StringBuilder;)V")] 217

def k7m0 : Method := { name := "<init>", desc := "()V", sig := { parameters := [], returnType := none }, accessFlags := 1, code := none }
def k7c1 : Code := { maxStack := 5, maxLocals := 2, code := jdk_42_method_3_code, exceptionTable := #[], attributes := #[] }
def k7m1 : Method := { name := "<init>", desc := "([C)V", sig := { parameters := [(.array .char)], returnType := none }, accessFlags := 1, code := some k7c1 }
def k7c2 : Code := { maxStack := 3, maxLocals := 2, code := jdk_42_method_53_code, exceptionTable := #[], attributes := #[] }
def k7m2 : Method := { name := "<init>", desc := "(Ljava/lang/StringBuilder;)V", sig := { parameters := [(.object "java/lang/StringBuilder")], returnType := none }, accessFlags := 1, code := some k7c2 }
def k7c3 : Code := { maxStack := 2, maxLocals := 1, code := jdk_42_method_54_code, exceptionTable := #[], attributes := #[] }
def k7m3 : Method := { name := "length", desc := "()I", sig := { parameters := [], returnType := some .int }, accessFlags := 1, code := some k7c3 }
def k7c4 : Code := { maxStack := 2, maxLocals := 2, code := jdk_42_method_56_code, exceptionTable := #[], attributes := #[] }
def k7m4 : Method := { name := "charAt", desc := "(I)C", sig := { parameters := [.int], returnType := some .char }, accessFlags := 1, code := some k7c4 }
def k7c5 : Code := { maxStack := 5, maxLocals := 4, code := jdk_42_method_147_code, exceptionTable := #[], attributes := #[] }
def k7m5 : Method := { name := "getBytes", desc := "([BIB)V", sig := { parameters := [(.array .byte), .int, .byte], returnType := none }, accessFlags := 0, code := some k7c5 }
def k7c6 : Code := { maxStack := 4, maxLocals := 6, code := jdk_42_method_149_code, exceptionTable := #[], attributes := #[] }
def k7m6 : Method := { name := "<init>", desc := "([CIILjava/lang/Void;)V", sig := { parameters := [(.array .char), .int, .int, (.object "java/lang/Void")], returnType := none }, accessFlags := 2, code := some k7c6 }
def k7c7 : Code := { maxStack := 5, maxLocals := 5, code := jdk_42_method_150_code, exceptionTable := #[], attributes := #[] }
def k7m7 : Method := { name := "<init>", desc := "(Ljava/lang/AbstractStringBuilder;Ljava/lang/Void;)V", sig := { parameters := [(.object "java/lang/AbstractStringBuilder"), (.object "java/lang/Void")], returnType := none }, accessFlags := 0, code := some k7c7 }
def k7c8 : Code := { maxStack := 1, maxLocals := 1, code := jdk_42_method_152_code, exceptionTable := #[], attributes := #[] }
def k7m8 : Method := { name := "coder", desc := "()B", sig := { parameters := [], returnType := some .byte }, accessFlags := 0, code := some k7c8 }
def k7c9 : Code := { maxStack := 1, maxLocals := 1, code := jdk_42_method_154_code, exceptionTable := #[], attributes := #[] }
def k7m9 : Method := { name := "isLatin1", desc := "()Z", sig := { parameters := [], returnType := some .boolean }, accessFlags := 0, code := some k7c9 }
def k7c10 : Code := { maxStack := 3, maxLocals := 2, code := jdk_42_method_155_code, exceptionTable := #[], attributes := #[] }
def k7m10 : Method := { name := "checkIndex", desc := "(II)V", sig := { parameters := [.int, .int], returnType := none }, accessFlags := 8, code := some k7c10 }
def k7c11 : Code := { maxStack := 4, maxLocals := 3, code := jdk_42_method_157_code, exceptionTable := #[], attributes := #[] }
def k7m11 : Method := { name := "checkBoundsOffCount", desc := "(III)I", sig := { parameters := [.int, .int, .int], returnType := some .int }, accessFlags := 8, code := some k7c11 }
/-- java/lang/String -/
def k7 : Class := { plain "java/lang/String" (some 0) with
  accessFlags := 49
  interfaces := #[2, 3, 4, 5, 6]
  cf := some (fileOf pool7 10 #[.nestMembers #[1103]] #[{ accessFlags := 1, nameIndex := 5, descriptorIndex := 6, attributes := #[] }, { accessFlags := 1, nameIndex := 5, descriptorIndex := 1010, attributes := #[] }, { accessFlags := 1, nameIndex := 5, descriptorIndex := 1233, attributes := #[] }, { accessFlags := 1, nameIndex := 507, descriptorIndex := 334, attributes := #[] }, { accessFlags := 1, nameIndex := 497, descriptorIndex := 427, attributes := #[] }, { accessFlags := 0, nameIndex := 532, descriptorIndex := 821, attributes := #[] }, { accessFlags := 2, nameIndex := 5, descriptorIndex := 29, attributes := #[] }, { accessFlags := 0, nameIndex := 5, descriptorIndex := 491, attributes := #[] }, { accessFlags := 0, nameIndex := 17, descriptorIndex := 337, attributes := #[] }, { accessFlags := 0, nameIndex := 494, descriptorIndex := 142, attributes := #[] }, { accessFlags := 8, nameIndex := 501, descriptorIndex := 391, attributes := #[] }, { accessFlags := 8, nameIndex := 36, descriptorIndex := 37, attributes := #[] }] 49 2 #[1106, 1108, 575, 1110, 1112] #[{ accessFlags := 18, nameIndex := 13, descriptorIndex := 14, attributes := #[] }, { accessFlags := 18, nameIndex := 17, descriptorIndex := 18, attributes := #[] }, { accessFlags := 2, nameIndex := 21, descriptorIndex := 22, attributes := #[] }, { accessFlags := 2, nameIndex := 25, descriptorIndex := 26, attributes := #[] }, { accessFlags := 26, nameIndex := 1116, descriptorIndex := 1117, attributes := #[] }, { accessFlags := 24, nameIndex := 40, descriptorIndex := 26, attributes := #[] }, { accessFlags := 26, nameIndex := 1101, descriptorIndex := 1102, attributes := #[] }, { accessFlags := 26, nameIndex := 1121, descriptorIndex := 1122, attributes := #[] }, { accessFlags := 25, nameIndex := 599, descriptorIndex := 600, attributes := #[] }, { accessFlags := 24, nameIndex := 1125, descriptorIndex := 18, attributes := #[] }, { accessFlags := 24, nameIndex := 1127, descriptorIndex := 18, attributes := #[] }])
  fields := #[{ name := "value", type := (.array .byte), accessFlags := 18, slot := 0, constantValue := 0 }, { name := "coder", type := .byte, accessFlags := 18, slot := 1, constantValue := 0 }, { name := "hash", type := .int, accessFlags := 2, slot := 2, constantValue := 0 }, { name := "hashIsZero", type := .boolean, accessFlags := 2, slot := 3, constantValue := 0 }, { name := "serialVersionUID", type := .long, accessFlags := 26, slot := 0, constantValue := 0 }, { name := "COMPACT_STRINGS", type := .boolean, accessFlags := 24, slot := 1, constantValue := 0 }, { name := "serialPersistentFields", type := (.array (.object "java/io/ObjectStreamField")), accessFlags := 26, slot := 2, constantValue := 0 }, { name := "REPL", type := .char, accessFlags := 26, slot := 3, constantValue := 0 }, { name := "CASE_INSENSITIVE_ORDER", type := (.object "java/util/Comparator"), accessFlags := 25, slot := 4, constantValue := 0 }, { name := "LATIN1", type := .byte, accessFlags := 24, slot := 5, constantValue := 0 }, { name := "UTF16", type := .byte, accessFlags := 24, slot := 6, constantValue := 0 }]
  methods := #[k7m0, k7m1, k7m2, k7m3, k7m4, k7m5, k7m6, k7m7, k7m8, k7m9, k7m10, k7m11]
  instanceTypes := #[(.array .byte), .byte, .int, .boolean]
  staticTypes := #[.long, .boolean, (.array (.object "java/io/ObjectStreamField")), .char, (.object "java/util/Comparator"), .byte, .byte]
  resolved := Array.replicate 1451 none
  statics := some 0 }

def pool8 : Array CpInfo := pool [(1, .methodref 2 3), (0, .class_ 4), (0, .nameAndType 5 6), (0, u "java/lang/Object"), (0, u "<init>"), (0, u "()V"), (0, .fieldref 8 9), (0, .class_ 10), (0, .nameAndType 11 12), (0, u "com/example/wegweiser/wegweiser/directory/Author"), (0, u "clientId"), (0, u "Ljava/lang/String;"), (0, .methodref 14 15), (0, .class_ 16), (0, .nameAndType 17 18), (0, u "java/util/Objects"), (0, u "requireNonNull"), (0, u "(Ljava/lang/Object;)Ljava/lang/Object;"), (0, .class_ 20), (0, u "java/lang/String"), (0, .methodref 8 22), (0, .nameAndType 5 23), (0, u "(Ljava/lang/String;)V"), (8, .class_ 33), (0, u "java/lang/StringBuilder"), (0, .methodref 32 3), (0, .string 36), (0, u "the client "), (0, .methodref 32 38), (0, .nameAndType 39 40), (0, u "append"), (0, u "(Ljava/lang/String;)Ljava/lang/StringBuilder;"), (0, .methodref 32 42), (0, .nameAndType 43 44), (0, u "toString"), (0, u "()Ljava/lang/String;"), (2, u "OPERATOR"), (0, u "Lcom/example/wegweiser/wegweiser/directory/Author;"), (2, u "client"), (0, u "(Ljava/lang/String;)Lcom/example/wegweiser/wegweiser/directory/Author;")] 7

def k8c0 : Code := { maxStack := 2, maxLocals := 2, code := prog_6_method_1_code, exceptionTable := #[], attributes := #[] }
def k8m0 : Method := { name := "<init>", desc := "(Ljava/lang/String;)V", sig := { parameters := [(.object "java/lang/String")], returnType := none }, accessFlags := 2, code := some k8c0 }
def k8c1 : Code := { maxStack := 3, maxLocals := 1, code := prog_6_method_2_code, exceptionTable := #[], attributes := #[] }
def k8m1 : Method := { name := "client", desc := "(Ljava/lang/String;)Lcom/example/wegweiser/wegweiser/directory/Author;", sig := { parameters := [(.object "java/lang/String")], returnType := some (.object "com/example/wegweiser/wegweiser/directory/Author") }, accessFlags := 9, code := some k8c1 }
def k8c2 : Code := { maxStack := 2, maxLocals := 1, code := prog_6_method_4_code, exceptionTable := #[], attributes := #[] }
def k8m2 : Method := { name := "toString", desc := "()Ljava/lang/String;", sig := { parameters := [], returnType := some (.object "java/lang/String") }, accessFlags := 1, code := some k8c2 }
/-- com/example/wegweiser/wegweiser/directory/Author -/
def k8 : Class := { plain "com/example/wegweiser/wegweiser/directory/Author" (some 0) with
  accessFlags := 49
  interfaces := #[]
  cf := some (fileOf pool8 8 #[] #[{ accessFlags := 2, nameIndex := 5, descriptorIndex := 23, attributes := #[] }, { accessFlags := 9, nameIndex := 51, descriptorIndex := 52, attributes := #[] }, { accessFlags := 1, nameIndex := 43, descriptorIndex := 44, attributes := #[] }] 49 2 #[] #[{ accessFlags := 25, nameIndex := 47, descriptorIndex := 48, attributes := #[] }, { accessFlags := 18, nameIndex := 11, descriptorIndex := 12, attributes := #[] }])
  fields := #[{ name := "OPERATOR", type := (.object "com/example/wegweiser/wegweiser/directory/Author"), accessFlags := 25, slot := 0, constantValue := 0 }, { name := "clientId", type := (.object "java/lang/String"), accessFlags := 18, slot := 0, constantValue := 0 }]
  methods := #[k8m0, k8m1, k8m2]
  instanceTypes := #[(.object "java/lang/String")]
  staticTypes := #[(.object "com/example/wegweiser/wegweiser/directory/Author")]
  resolved := Array.replicate 60 none
  statics := some 1 }

def pool9 : Array CpInfo := pool [(2, .class_ 4), (1, u "java/lang/Object"), (0, u "<init>"), (0, u "()V"), (35, .class_ 44), (1, u "java/util/Objects"), (0, u "requireNonNull"), (0, u "(Ljava/lang/Object;)Ljava/lang/Object;")] 137

def k9m0 : Method := { name := "<init>", desc := "()V", sig := { parameters := [], returnType := none }, accessFlags := 2, code := none }
def k9c1 : Code := { maxStack := 2, maxLocals := 1, code := jdk_31_method_10_code, exceptionTable := #[], attributes := #[] }
def k9m1 : Method := { name := "requireNonNull", desc := "(Ljava/lang/Object;)Ljava/lang/Object;", sig := { parameters := [(.object "java/lang/Object")], returnType := some (.object "java/lang/Object") }, accessFlags := 9, code := some k9c1 }
/-- java/util/Objects -/
def k9 : Class := { plain "java/util/Objects" (some 0) with
  accessFlags := 49
  interfaces := #[]
  cf := some (fileOf pool9 42 #[] #[{ accessFlags := 2, nameIndex := 5, descriptorIndex := 6, attributes := #[] }, { accessFlags := 9, nameIndex := 45, descriptorIndex := 46, attributes := #[] }] 49 2 #[] #[])
  fields := #[]
  methods := #[k9m0, k9m1]
  instanceTypes := #[]
  staticTypes := #[]
  resolved := Array.replicate 184 none
  statics := none }

def pool10 : Array CpInfo := pool [(1, .class_ 2), (0, u "java/lang/Appendable"), (0, .class_ 4), (0, u "java/lang/Object")] 9

/-- java/lang/Appendable -/
def k10 : Class := { plain "java/lang/Appendable" (some 0) with
  accessFlags := 1537
  interfaces := #[]
  cf := some (fileOf pool10 1 #[] #[] 1537 3 #[] #[])
  fields := #[]
  methods := #[]
  instanceTypes := #[]
  staticTypes := #[]
  resolved := Array.replicate 14 none
  statics := none }

def pool11 : Array CpInfo := pool [(1, .class_ 2), (0, u "java/lang/String"), (0, .methodref 4 5), (0, .class_ 6), (0, .nameAndType 7 8), (0, u "java/lang/Object"), (0, u "<init>"), (0, u "()V"), (1, .class_ 12), (1, u "java/lang/AbstractStringBuilder"), (0, u "EMPTYVALUE"), (0, u "[B"), (0, .fieldref 10 16), (0, .nameAndType 17 14), (0, u "value"), (0, .fieldref 1 19), (0, .nameAndType 20 21), (0, u "COMPACT_STRINGS"), (0, u "Z"), (0, .fieldref 10 23), (0, .nameAndType 24 25), (0, u "coder"), (0, u "B"), (0, .methodref 27 28), (0, .class_ 29), (0, .nameAndType 30 31), (0, u "java/lang/StringUTF16"), (0, u "newBytesFor"), (0, u "(I)[B"), (0, .methodref 1 33), (0, .nameAndType 34 35), (0, u "length"), (0, u "()I"), (4, .methodref 1 41), (0, .nameAndType 24 42), (0, u "()B"), (2, u "append"), (0, u "(Ljava/lang/String;)Ljava/lang/AbstractStringBuilder;"), (1, .class_ 49), (0, u "java/lang/CharSequence"), (19, u "(Ljava/lang/String;)V"), (5, u "maybeLatin1"), (3, .fieldref 10 80), (0, .nameAndType 81 82), (0, u "count"), (0, u "I"), (0, .methodref 10 84), (0, .nameAndType 85 86), (0, u "isLatin1"), (0, u "()Z"), (1, .class_ 90), (1, u "java/lang/StringLatin1"), (9, .methodref 10 101), (0, .nameAndType 102 103), (0, u "ensureCapacityInternal"), (0, u "(I)V"), (21, .methodref 88 126), (0, .nameAndType 127 128), (0, u "inflate"), (0, u "([BI[BII)V"), (66, .methodref 10 196), (0, .nameAndType 127 8), (11, .methodref 10 209), (0, .nameAndType 210 211), (0, u "putStringAt"), (0, u "(ILjava/lang/String;)V"), (5, u "inflateIfNeededFor"), (2, .nameAndType 221 222), (0, u "getBytes"), (0, u "([BIB)V"), (174, .methodref 10 398), (0, .nameAndType 217 69), (0, .methodref 1 220), (3, u "()[B"), (40, .class_ 445), (0, u "java/lang/Appendable"), (106, u "getValue")] 56

def k11m0 : Method := { name := "<init>", desc := "()V", sig := { parameters := [], returnType := none }, accessFlags := 0, code := none }
def k11c1 : Code := { maxStack := 2, maxLocals := 2, code := jdk_68_method_2_code, exceptionTable := #[], attributes := #[] }
def k11m1 : Method := { name := "<init>", desc := "(I)V", sig := { parameters := [.int], returnType := none }, accessFlags := 0, code := some k11c1 }
def k11c2 : Code := { maxStack := 1, maxLocals := 1, code := jdk_68_method_6_code, exceptionTable := #[], attributes := #[] }
def k11m2 : Method := { name := "length", desc := "()I", sig := { parameters := [], returnType := some .int }, accessFlags := 1, code := some k11c2 }
def k11c3 : Code := { maxStack := 4, maxLocals := 3, code := jdk_68_method_9_code, exceptionTable := #[], attributes := #[] }
def k11m3 : Method := { name := "ensureCapacityInternal", desc := "(I)V", sig := { parameters := [.int], returnType := none }, accessFlags := 2, code := some k11c3 }
def k11c4 : Code := { maxStack := 5, maxLocals := 2, code := jdk_68_method_11_code, exceptionTable := #[], attributes := #[] }
def k11m4 : Method := { name := "inflate", desc := "()V", sig := { parameters := [], returnType := none }, accessFlags := 2, code := some k11c4 }
def k11c5 : Code := { maxStack := 3, maxLocals := 3, code := jdk_68_method_22_code, exceptionTable := #[], attributes := #[] }
def k11m5 : Method := { name := "append", desc := "(Ljava/lang/String;)Ljava/lang/AbstractStringBuilder;", sig := { parameters := [(.object "java/lang/String")], returnType := some (.object "java/lang/AbstractStringBuilder") }, accessFlags := 1, code := some k11c5 }
def k11c6 : Code := { maxStack := 1, maxLocals := 1, code := jdk_68_method_64_code, exceptionTable := #[], attributes := #[] }
def k11m6 : Method := { name := "getValue", desc := "()[B", sig := { parameters := [], returnType := some (.array .byte) }, accessFlags := 16, code := some k11c6 }
def k11c7 : Code := { maxStack := 1, maxLocals := 1, code := jdk_68_method_68_code, exceptionTable := #[], attributes := #[] }
def k11m7 : Method := { name := "isLatin1", desc := "()Z", sig := { parameters := [], returnType := some .boolean }, accessFlags := 16, code := some k11c7 }
def k11c8 : Code := { maxStack := 2, maxLocals := 2, code := jdk_68_method_71_code, exceptionTable := #[], attributes := #[] }
def k11m8 : Method := { name := "inflateIfNeededFor", desc := "(Ljava/lang/String;)V", sig := { parameters := [(.object "java/lang/String")], returnType := none }, accessFlags := 2, code := some k11c8 }
def k11c9 : Code := { maxStack := 4, maxLocals := 3, code := jdk_68_method_73_code, exceptionTable := #[], attributes := #[] }
def k11m9 : Method := { name := "putStringAt", desc := "(ILjava/lang/String;)V", sig := { parameters := [.int, (.object "java/lang/String")], returnType := none }, accessFlags := 2, code := some k11c9 }
/-- java/lang/AbstractStringBuilder -/
def k11 : Class := { plain "java/lang/AbstractStringBuilder" (some 0) with
  accessFlags := 1056
  interfaces := #[10, 4]
  cf := some (fileOf pool11 10 #[] #[{ accessFlags := 0, nameIndex := 7, descriptorIndex := 8, attributes := #[] }, { accessFlags := 0, nameIndex := 7, descriptorIndex := 103, attributes := #[] }, { accessFlags := 1, nameIndex := 34, descriptorIndex := 35, attributes := #[] }, { accessFlags := 2, nameIndex := 102, descriptorIndex := 103, attributes := #[] }, { accessFlags := 2, nameIndex := 127, descriptorIndex := 8, attributes := #[] }, { accessFlags := 1, nameIndex := 45, descriptorIndex := 46, attributes := #[] }, { accessFlags := 16, nameIndex := 552, descriptorIndex := 403, attributes := #[] }, { accessFlags := 16, nameIndex := 85, descriptorIndex := 86, attributes := #[] }, { accessFlags := 2, nameIndex := 217, descriptorIndex := 69, attributes := #[] }, { accessFlags := 2, nameIndex := 210, descriptorIndex := 211, attributes := #[] }] 1056 4 #[444, 48] #[{ accessFlags := 0, nameIndex := 17, descriptorIndex := 14, attributes := #[] }, { accessFlags := 0, nameIndex := 24, descriptorIndex := 25, attributes := #[] }, { accessFlags := 0, nameIndex := 75, descriptorIndex := 21, attributes := #[] }, { accessFlags := 0, nameIndex := 81, descriptorIndex := 82, attributes := #[] }, { accessFlags := 26, nameIndex := 13, descriptorIndex := 14, attributes := #[] }])
  fields := #[{ name := "value", type := (.array .byte), accessFlags := 0, slot := 0, constantValue := 0 }, { name := "coder", type := .byte, accessFlags := 0, slot := 1, constantValue := 0 }, { name := "maybeLatin1", type := .boolean, accessFlags := 0, slot := 2, constantValue := 0 }, { name := "count", type := .int, accessFlags := 0, slot := 3, constantValue := 0 }, { name := "EMPTYVALUE", type := (.array .byte), accessFlags := 26, slot := 0, constantValue := 0 }]
  methods := #[k11m0, k11m1, k11m2, k11m3, k11m4, k11m5, k11m6, k11m7, k11m8, k11m9]
  instanceTypes := #[(.array .byte), .byte, .boolean, .int]
  staticTypes := #[(.array .byte)]
  resolved := Array.replicate 609 none
  statics := none }

def pool12 : Array CpInfo := pool [(1, .methodref 2 3), (0, .class_ 4), (0, .nameAndType 5 6), (0, u "java/lang/AbstractStringBuilder"), (0, u "<init>"), (0, u "(I)V"), (11, .class_ 20), (1, u "java/lang/String"), (3, .class_ 26), (1, u "java/lang/StringBuilder"), (0, u "append"), (0, u "(Ljava/lang/String;)Ljava/lang/StringBuilder;"), (0, .methodref 2 30), (0, .nameAndType 27 31), (0, u "(Ljava/lang/String;)Ljava/lang/AbstractStringBuilder;"), (105, .methodref 18 138), (0, .nameAndType 5 139), (0, u "(Ljava/lang/StringBuilder;)V"), (5, u "()V"), (10, u "()I"), (186, .methodref 2 344), (0, .nameAndType 345 156), (0, u "length"), (3, .class_ 350), (0, u "java/lang/Appendable"), (0, .class_ 352), (0, u "java/io/Serializable"), (0, .class_ 354), (0, u "java/lang/Comparable"), (0, .class_ 356), (0, u "java/lang/CharSequence"), (0, u "serialVersionUID"), (0, u "J"), (40, u "toString"), (0, u "()Ljava/lang/String;")] 21

def k12c0 : Code := { maxStack := 2, maxLocals := 1, code := jdk_67_method_1_code, exceptionTable := #[], attributes := #[] }
def k12m0 : Method := { name := "<init>", desc := "()V", sig := { parameters := [], returnType := none }, accessFlags := 1, code := some k12c0 }
def k12c1 : Code := { maxStack := 2, maxLocals := 2, code := jdk_67_method_7_code, exceptionTable := #[], attributes := #[] }
def k12m1 : Method := { name := "append", desc := "(Ljava/lang/String;)Ljava/lang/StringBuilder;", sig := { parameters := [(.object "java/lang/String")], returnType := some (.object "java/lang/StringBuilder") }, accessFlags := 1, code := some k12c1 }
def k12c2 : Code := { maxStack := 3, maxLocals := 1, code := jdk_67_method_42_code, exceptionTable := #[], attributes := #[] }
def k12m2 : Method := { name := "toString", desc := "()Ljava/lang/String;", sig := { parameters := [], returnType := some (.object "java/lang/String") }, accessFlags := 1, code := some k12c2 }
def k12c3 : Code := { maxStack := 1, maxLocals := 1, code := jdk_67_method_93_code, exceptionTable := #[], attributes := #[] }
def k12m3 : Method := { name := "length", desc := "()I", sig := { parameters := [], returnType := some .int }, accessFlags := 4161, code := some k12c3 }
/-- java/lang/StringBuilder -/
def k12 : Class := { plain "java/lang/StringBuilder" (some 11) with
  accessFlags := 49
  interfaces := #[10, 2, 3, 4]
  cf := some (fileOf pool12 24 #[] #[{ accessFlags := 1, nameIndex := 5, descriptorIndex := 145, attributes := #[] }, { accessFlags := 1, nameIndex := 27, descriptorIndex := 28, attributes := #[] }, { accessFlags := 1, nameIndex := 399, descriptorIndex := 400, attributes := #[] }, { accessFlags := 4161, nameIndex := 345, descriptorIndex := 156, attributes := #[] }] 49 2 #[349, 351, 353, 355] #[{ accessFlags := 24, nameIndex := 357, descriptorIndex := 358, attributes := #[] }])
  fields := #[{ name := "serialVersionUID", type := .long, accessFlags := 24, slot := 0, constantValue := 0 }]
  methods := #[k12m0, k12m1, k12m2, k12m3]
  instanceTypes := #[(.array .byte), .byte, .boolean, .int]
  staticTypes := #[.long]
  resolved := Array.replicate 422 none
  statics := none }

def pool13 : Array CpInfo := pool [(2, .class_ 4), (1, u "java/lang/Object"), (0, u "<init>"), (0, u "()V"), (1, .class_ 10), (1, u "java/lang/System"), (0, u "allowSecurityManager"), (0, u "I"), (16, u "cons"), (0, u "Ljava/io/Console;"), (77, .class_ 110), (1, u "java/lang/System$CallersHolder"), (43, u "initialErrStream"), (0, u "Ljava/io/PrintStream;"), (19, u "security"), (0, u "Ljava/lang/SecurityManager;"), (31, .class_ 209), (0, u "java/lang/System$1"), (7, u "props"), (0, u "Ljava/util/Properties;"), (2, u "lineSeparator"), (0, u "Ljava/lang/String;"), (96, .class_ 321), (1, u "java/lang/System$LoggerFinder"), (5, .class_ 328), (0, u "java/lang/System$Logger"), (67, u "err"), (2, u "out"), (91, u "notSupportedJnuEncoding"), (15, u "in"), (17, u "initialIn"), (0, u "Ljava/io/InputStream;"), (35, u "bootLayer"), (0, u "Ljava/lang/ModuleLayer;"), (99, .class_ 664), (0, u "java/lang/System$2"), (9, u "NEVER"), (2, u "MAYBE"), (49, u "arraycopy"), (0, u "(Ljava/lang/Object;ILjava/lang/Object;II)V"), (72, .class_ 802), (0, u "java/lang/System$Logger$Level")] 31

def k13m0 : Method := { name := "<init>", desc := "()V", sig := { parameters := [], returnType := none }, accessFlags := 2, code := none }
def k13m1 : Method := { name := "arraycopy", desc := "(Ljava/lang/Object;ILjava/lang/Object;II)V", sig := { parameters := [(.object "java/lang/Object"), .int, (.object "java/lang/Object"), .int, .int], returnType := none }, accessFlags := 265, code := none }
/-- java/lang/System -/
def k13 : Class := { plain "java/lang/System" (some 0) with
  accessFlags := 49
  interfaces := #[]
  cf := some (fileOf pool13 8 #[.nestMembers #[319, 327, 801, 108, 663, 208]] #[{ accessFlags := 2, nameIndex := 5, descriptorIndex := 6, attributes := #[] }, { accessFlags := 265, nameIndex := 727, descriptorIndex := 728, attributes := #[] }] 49 2 #[] #[{ accessFlags := 25, nameIndex := 507, descriptorIndex := 526, attributes := #[] }, { accessFlags := 25, nameIndex := 399, descriptorIndex := 155, attributes := #[] }, { accessFlags := 25, nameIndex := 396, descriptorIndex := 155, attributes := #[] }, { accessFlags := 10, nameIndex := 525, descriptorIndex := 526, attributes := #[] }, { accessFlags := 26, nameIndex := 674, descriptorIndex := 12, attributes := #[] }, { accessFlags := 26, nameIndex := 677, descriptorIndex := 12, attributes := #[] }, { accessFlags := 10, nameIndex := 11, descriptorIndex := 12, attributes := #[] }, { accessFlags := 74, nameIndex := 175, descriptorIndex := 176, attributes := #[] }, { accessFlags := 10, nameIndex := 491, descriptorIndex := 222, attributes := #[] }, { accessFlags := 74, nameIndex := 29, descriptorIndex := 30, attributes := #[] }, { accessFlags := 74, nameIndex := 154, descriptorIndex := 155, attributes := #[] }, { accessFlags := 10, nameIndex := 217, descriptorIndex := 218, attributes := #[] }, { accessFlags := 10, nameIndex := 221, descriptorIndex := 222, attributes := #[] }, { accessFlags := 8, nameIndex := 562, descriptorIndex := 563, attributes := #[] }])
  fields := #[{ name := "in", type := (.object "java/io/InputStream"), accessFlags := 25, slot := 0, constantValue := 0 }, { name := "out", type := (.object "java/io/PrintStream"), accessFlags := 25, slot := 1, constantValue := 0 }, { name := "err", type := (.object "java/io/PrintStream"), accessFlags := 25, slot := 2, constantValue := 0 }, { name := "initialIn", type := (.object "java/io/InputStream"), accessFlags := 10, slot := 3, constantValue := 0 }, { name := "NEVER", type := .int, accessFlags := 26, slot := 4, constantValue := 0 }, { name := "MAYBE", type := .int, accessFlags := 26, slot := 5, constantValue := 0 }, { name := "allowSecurityManager", type := .int, accessFlags := 10, slot := 6, constantValue := 0 }, { name := "security", type := (.object "java/lang/SecurityManager"), accessFlags := 74, slot := 7, constantValue := 0 }, { name := "notSupportedJnuEncoding", type := (.object "java/lang/String"), accessFlags := 10, slot := 8, constantValue := 0 }, { name := "cons", type := (.object "java/io/Console"), accessFlags := 74, slot := 9, constantValue := 0 }, { name := "initialErrStream", type := (.object "java/io/PrintStream"), accessFlags := 74, slot := 10, constantValue := 0 }, { name := "props", type := (.object "java/util/Properties"), accessFlags := 10, slot := 11, constantValue := 0 }, { name := "lineSeparator", type := (.object "java/lang/String"), accessFlags := 10, slot := 12, constantValue := 0 }, { name := "bootLayer", type := (.object "java/lang/ModuleLayer"), accessFlags := 8, slot := 13, constantValue := 0 }]
  methods := #[k13m0, k13m1]
  instanceTypes := #[]
  staticTypes := #[(.object "java/io/InputStream"), (.object "java/io/PrintStream"), (.object "java/io/PrintStream"), (.object "java/io/InputStream"), .int, .int, .int, (.object "java/lang/SecurityManager"), (.object "java/lang/String"), (.object "java/io/Console"), (.object "java/io/PrintStream"), (.object "java/util/Properties"), (.object "java/lang/String"), (.object "java/lang/ModuleLayer")]
  resolved := Array.replicate 834 none
  statics := none }

def pool14 : Array CpInfo := pool [(2, .class_ 4), (1, u "java/lang/Object"), (0, u "<init>"), (0, u "()V"), (7, .class_ 16), (1, u "java/util/Arrays"), (57, .class_ 76), (1, u "java/util/Arrays$NaturalOrder"), (36, .class_ 115), (1, u "java/util/Arrays$LegacyMergeSort"), (1, u "Z"), (21, u "copyOfRange"), (10, .methodref 151 152), (0, .class_ 153), (0, .nameAndType 154 155), (0, u "java/lang/System"), (0, u "arraycopy"), (0, u "(Ljava/lang/Object;ILjava/lang/Object;II)V"), (148, .methodref 305 306), (0, .class_ 307), (0, .nameAndType 308 309), (0, u "java/lang/Math"), (0, u "min"), (0, u "(II)I"), (29, .methodref 14 340), (0, .nameAndType 341 342), (0, u "copyOfRangeByte"), (0, u "([BII)[B"), (0, .methodref 14 344), (0, .nameAndType 345 346), (0, u "checkLength"), (0, u "(II)V"), (28, .class_ 376), (0, u "java/util/Arrays$ArrayList"), (68, u "$assertionsDisabled"), (269, u "MIN_ARRAY_SORT_GRAN"), (0, u "I"), (2, u "INSERTIONSORT_THRESHOLD"), (255, .class_ 976), (0, u "java/util/Arrays$ArrayItr")] 52

def k14m0 : Method := { name := "<init>", desc := "()V", sig := { parameters := [], returnType := none }, accessFlags := 2, code := none }
def k14c1 : Code := { maxStack := 4, maxLocals := 2, code := jdk_65_method_131_code, exceptionTable := #[], attributes := #[] }
def k14m1 : Method := { name := "checkLength", desc := "(II)V", sig := { parameters := [.int, .int], returnType := none }, accessFlags := 10, code := some k14c1 }
def k14c2 : Code := { maxStack := 3, maxLocals := 3, code := jdk_65_method_132_code, exceptionTable := #[], attributes := #[] }
def k14m2 : Method := { name := "copyOfRange", desc := "([BII)[B", sig := { parameters := [(.array .byte), .int, .int], returnType := some (.array .byte) }, accessFlags := 9, code := some k14c2 }
def k14c3 : Code := { maxStack := 6, maxLocals := 5, code := jdk_65_method_133_code, exceptionTable := #[], attributes := #[] }
def k14m3 : Method := { name := "copyOfRangeByte", desc := "([BII)[B", sig := { parameters := [(.array .byte), .int, .int], returnType := some (.array .byte) }, accessFlags := 10, code := some k14c3 }
/-- java/util/Arrays -/
def k14 : Class := { plain "java/util/Arrays" (some 0) with
  accessFlags := 49
  interfaces := #[]
  cf := some (fileOf pool14 14 #[.nestMembers #[975, 375, 113, 74]] #[{ accessFlags := 2, nameIndex := 5, descriptorIndex := 6, attributes := #[] }, { accessFlags := 10, nameIndex := 345, descriptorIndex := 346, attributes := #[] }, { accessFlags := 9, nameIndex := 139, descriptorIndex := 342, attributes := #[] }, { accessFlags := 10, nameIndex := 341, descriptorIndex := 342, attributes := #[] }] 49 2 #[] #[{ accessFlags := 26, nameIndex := 715, descriptorIndex := 716, attributes := #[] }, { accessFlags := 26, nameIndex := 719, descriptorIndex := 716, attributes := #[] }, { accessFlags := 4120, nameIndex := 445, descriptorIndex := 117, attributes := #[] }])
  fields := #[{ name := "MIN_ARRAY_SORT_GRAN", type := .int, accessFlags := 26, slot := 0, constantValue := 0 }, { name := "INSERTIONSORT_THRESHOLD", type := .int, accessFlags := 26, slot := 1, constantValue := 0 }, { name := "$assertionsDisabled", type := .boolean, accessFlags := 4120, slot := 2, constantValue := 0 }]
  methods := #[k14m0, k14m1, k14m2, k14m3]
  instanceTypes := #[]
  staticTypes := #[.int, .int, .boolean]
  resolved := Array.replicate 1029 none
  statics := none }

def pool15 : Array CpInfo := pool [(1, .class_ 2), (0, u "java/lang/Math"), (1, .class_ 6), (1, u "java/lang/Object"), (0, u "<init>"), (0, u "()V"), (89, .class_ 100), (1, u "java/lang/Math$RandomNumberGeneratorHolder"), (71, u "negativeZeroFloatBits"), (0, u "J"), (2, u "negativeZeroDoubleBits"), (24, u "min"), (43, u "$assertionsDisabled"), (0, u "Z"), (88, u "(II)I"), (2, u "twoToTheDoubleScaleDown"), (0, u "D"), (4, u "twoToTheDoubleScaleUp"), (9, u "E"), (3, u "PI"), (2, u "TAU"), (2, u "DEGREES_TO_RADIANS"), (0, u "RADIANS_TO_DEGREES")] 94

def k15m0 : Method := { name := "<init>", desc := "()V", sig := { parameters := [], returnType := none }, accessFlags := 2, code := none }
def k15c1 : Code := { maxStack := 2, maxLocals := 2, code := jdk_29_method_69_code, exceptionTable := #[], attributes := #[] }
def k15m1 : Method := { name := "min", desc := "(II)I", sig := { parameters := [.int, .int], returnType := some .int }, accessFlags := 9, code := some k15c1 }
/-- java/lang/Math -/
def k15 : Class := { plain "java/lang/Math" (some 0) with
  accessFlags := 49
  interfaces := #[]
  cf := some (fileOf pool15 1 #[.nestMembers #[98]] #[{ accessFlags := 2, nameIndex := 7, descriptorIndex := 8, attributes := #[] }, { accessFlags := 9, nameIndex := 201, descriptorIndex := 335, attributes := #[] }] 49 4 #[] #[{ accessFlags := 25, nameIndex := 354, descriptorIndex := 339, attributes := #[] }, { accessFlags := 25, nameIndex := 358, descriptorIndex := 339, attributes := #[] }, { accessFlags := 25, nameIndex := 361, descriptorIndex := 339, attributes := #[] }, { accessFlags := 26, nameIndex := 364, descriptorIndex := 339, attributes := #[] }, { accessFlags := 26, nameIndex := 365, descriptorIndex := 339, attributes := #[] }, { accessFlags := 26, nameIndex := 172, descriptorIndex := 173, attributes := #[] }, { accessFlags := 26, nameIndex := 176, descriptorIndex := 173, attributes := #[] }, { accessFlags := 8, nameIndex := 344, descriptorIndex := 339, attributes := #[] }, { accessFlags := 8, nameIndex := 338, descriptorIndex := 339, attributes := #[] }, { accessFlags := 4120, nameIndex := 245, descriptorIndex := 246, attributes := #[] }])
  fields := #[{ name := "E", type := .double, accessFlags := 25, slot := 0, constantValue := 0 }, { name := "PI", type := .double, accessFlags := 25, slot := 1, constantValue := 0 }, { name := "TAU", type := .double, accessFlags := 25, slot := 2, constantValue := 0 }, { name := "DEGREES_TO_RADIANS", type := .double, accessFlags := 26, slot := 3, constantValue := 0 }, { name := "RADIANS_TO_DEGREES", type := .double, accessFlags := 26, slot := 4, constantValue := 0 }, { name := "negativeZeroFloatBits", type := .long, accessFlags := 26, slot := 5, constantValue := 0 }, { name := "negativeZeroDoubleBits", type := .long, accessFlags := 26, slot := 6, constantValue := 0 }, { name := "twoToTheDoubleScaleUp", type := .double, accessFlags := 8, slot := 7, constantValue := 0 }, { name := "twoToTheDoubleScaleDown", type := .double, accessFlags := 8, slot := 8, constantValue := 0 }, { name := "$assertionsDisabled", type := .boolean, accessFlags := 4120, slot := 9, constantValue := 0 }]
  methods := #[k15m0, k15m1]
  instanceTypes := #[]
  staticTypes := #[.double, .double, .double, .double, .double, .long, .long, .double, .double, .boolean]
  resolved := Array.replicate 460 none
  statics := none }

def pool16 : Array CpInfo := pool [(1, .class_ 2), (0, u "java/lang/String"), (1, .class_ 6), (1, u "java/lang/Object"), (0, u "<init>"), (0, u "()V"), (0, .methodref 1 10), (0, .nameAndType 11 12), (0, u "checkIndex"), (0, u "(II)V"), (1, .class_ 16), (1, u "java/lang/StringLatin1"), (0, u "inflate"), (2, .class_ 22), (1, u "java/lang/StringUTF16"), (3, .nameAndType 17 27), (0, u "([BI[BII)V"), (25, u "([BI)C"), (67, u "$assertionsDisabled"), (0, u "Z"), (98, .class_ 223), (1, u "java/lang/StringLatin1$LinesSpliterator"), (16, .methodref 20 26), (11, u "charAt"), (137, .class_ 391), (0, u "java/lang/StringLatin1$CharsSpliterator")] 3

def k16m0 : Method := { name := "<init>", desc := "()V", sig := { parameters := [], returnType := none }, accessFlags := 0, code := none }
def k16c1 : Code := { maxStack := 2, maxLocals := 2, code := jdk_43_method_2_code, exceptionTable := #[], attributes := #[] }
def k16m1 : Method := { name := "charAt", desc := "([BI)C", sig := { parameters := [(.array .byte), .int], returnType := some .char }, accessFlags := 9, code := some k16c1 }
def k16c2 : Code := { maxStack := 5, maxLocals := 5, code := jdk_43_method_50_code, exceptionTable := #[], attributes := #[] }
def k16m2 : Method := { name := "inflate", desc := "([BI[BII)V", sig := { parameters := [(.array .byte), .int, (.array .byte), .int, .int], returnType := none }, accessFlags := 9, code := some k16c2 }
/-- java/lang/StringLatin1 -/
def k16 : Class := { plain "java/lang/StringLatin1" (some 0) with
  accessFlags := 48
  interfaces := #[]
  cf := some (fileOf pool16 14 #[.nestMembers #[390, 221]] #[{ accessFlags := 0, nameIndex := 7, descriptorIndex := 8, attributes := #[] }, { accessFlags := 9, nameIndex := 252, descriptorIndex := 53, attributes := #[] }, { accessFlags := 9, nameIndex := 17, descriptorIndex := 27, attributes := #[] }] 48 4 #[] #[{ accessFlags := 4120, nameIndex := 121, descriptorIndex := 122, attributes := #[] }])
  fields := #[{ name := "$assertionsDisabled", type := .boolean, accessFlags := 4120, slot := 0, constantValue := 0 }]
  methods := #[k16m0, k16m1, k16m2]
  instanceTypes := #[]
  staticTypes := #[.boolean]
  resolved := Array.replicate 395 none
  statics := none }

def pool17 : Array CpInfo := pool [(2, .class_ 4), (1, u "java/lang/Object"), (0, u "<init>"), (0, u "()V"), (17, .class_ 26), (1, u "jdk/internal/util/Preconditions"), (6, u "checkIndex"), (15, u "checkFromIndexSize"), (5, .class_ 56), (0, u "jdk/internal/util/Preconditions$4"), (57, .class_ 115), (0, u "jdk/internal/util/Preconditions$1"), (7, u "SIOOBE_FORMATTER"), (0, u "Ljava/util/function/BiFunction;"), (0, .class_ 126), (0, u "jdk/internal/util/Preconditions$2"), (3, u "AIOOBE_FORMATTER"), (0, .class_ 132), (0, u "jdk/internal/util/Preconditions$3"), (3, u "IOOBE_FORMATTER"), (41, u "(IILjava/util/function/BiFunction;)I"), (4, u "(IIILjava/util/function/BiFunction;)I")] 10

def k17m0 : Method := { name := "<init>", desc := "()V", sig := { parameters := [], returnType := none }, accessFlags := 1, code := none }
def k17c1 : Code := { maxStack := 3, maxLocals := 3, code := jdk_41_method_11_code, exceptionTable := #[], attributes := #[] }
def k17m1 : Method := { name := "checkIndex", desc := "(IILjava/util/function/BiFunction;)I", sig := { parameters := [.int, .int, (.object "java/util/function/BiFunction")], returnType := some .int }, accessFlags := 9, code := some k17c1 }
def k17c2 : Code := { maxStack := 4, maxLocals := 4, code := jdk_41_method_13_code, exceptionTable := #[], attributes := #[] }
def k17m2 : Method := { name := "checkFromIndexSize", desc := "(IIILjava/util/function/BiFunction;)I", sig := { parameters := [.int, .int, .int, (.object "java/util/function/BiFunction")], returnType := some .int }, accessFlags := 9, code := some k17c2 }
/-- jdk/internal/util/Preconditions -/
def k17 : Class := { plain "jdk/internal/util/Preconditions" (some 0) with
  accessFlags := 33
  interfaces := #[]
  cf := some (fileOf pool17 24 #[.nestMembers #[55, 131, 125, 114]] #[{ accessFlags := 1, nameIndex := 5, descriptorIndex := 6, attributes := #[] }, { accessFlags := 9, nameIndex := 33, descriptorIndex := 178, attributes := #[] }, { accessFlags := 9, nameIndex := 49, descriptorIndex := 183, attributes := #[] }] 33 2 #[] #[{ accessFlags := 25, nameIndex := 123, descriptorIndex := 124, attributes := #[] }, { accessFlags := 25, nameIndex := 130, descriptorIndex := 124, attributes := #[] }, { accessFlags := 25, nameIndex := 136, descriptorIndex := 124, attributes := #[] }])
  fields := #[{ name := "SIOOBE_FORMATTER", type := (.object "java/util/function/BiFunction"), accessFlags := 25, slot := 0, constantValue := 0 }, { name := "AIOOBE_FORMATTER", type := (.object "java/util/function/BiFunction"), accessFlags := 25, slot := 1, constantValue := 0 }, { name := "IOOBE_FORMATTER", type := (.object "java/util/function/BiFunction"), accessFlags := 25, slot := 2, constantValue := 0 }]
  methods := #[k17m0, k17m1, k17m2]
  instanceTypes := #[]
  staticTypes := #[(.object "java/util/function/BiFunction"), (.object "java/util/function/BiFunction"), (.object "java/util/function/BiFunction")]
  resolved := Array.replicate 194 none
  statics := some 2 }

def pool18 : Array CpInfo := pool [(3, .class_ 4), (0, u "java/lang/String"), (1, .class_ 8), (1, u "java/lang/Object"), (0, u "<init>"), (0, u "()V"), (0, .methodref 12 13), (0, .class_ 14), (0, .nameAndType 15 16), (0, u "java/lang/StringUTF16"), (0, u "newBytesLength"), (0, u "(I)I"), (3, .integer 1073741823), (23, .fieldref 12 45), (0, .nameAndType 46 47), (0, u "$assertionsDisabled"), (0, u "Z"), (0, .methodref 12 49), (0, .nameAndType 50 51), (0, u "length"), (0, u "([B)I"), (7, .fieldref 12 60), (0, .nameAndType 61 62), (0, u "HI_BYTE_SHIFT"), (0, u "I"), (0, .fieldref 12 64), (0, .nameAndType 65 62), (0, u "LO_BYTE_SHIFT"), (1, .methodref 12 68), (0, .nameAndType 69 70), (0, u "checkIndex"), (0, u "(I[B)V"), (0, .methodref 12 72), (0, .nameAndType 73 74), (0, u "getChar"), (0, u "([BI)C"), (24, u "(II[B)V"), (7, .methodref 12 108), (0, .nameAndType 109 110), (0, u "newBytesFor"), (0, u "(I)[B"), (0, .methodref 12 112), (0, .nameAndType 113 114), (0, u "putChar"), (0, u "([BII)V"), (0, .methodref 12 116), (0, .nameAndType 117 118), (0, u "compress"), (0, u "([CI[BII)I"), (0, .methodref 12 120), (0, .nameAndType 121 122), (0, u "toBytes"), (0, u "([CII)[B"), (17, u "inflate"), (0, u "([BI[BII)V"), (31, .methodref 12 174), (0, .nameAndType 175 99), (0, u "checkBoundsOffCount"), (85, u "coderFromArrayLen"), (0, u "([BI)B"), (18, u "(III)I"), (87, .class_ 371), (1, u "java/lang/StringUTF16$LinesSpliterator"), (20, u "charAt"), (21, .methodref 3 415), (0, .nameAndType 69 416), (0, u "(II)V"), (2, .methodref 3 420), (0, .nameAndType 175 281), (9, u "MAX_LENGTH"), (196, .class_ 628), (0, u "java/lang/StringUTF16$CodePointsSpliterator"), (0, .class_ 630), (0, u "java/lang/StringUTF16$CharsSpliterator")] 4

def k18m0 : Method := { name := "<init>", desc := "()V", sig := { parameters := [], returnType := none }, accessFlags := 0, code := none }
def k18c1 : Code := { maxStack := 1, maxLocals := 1, code := jdk_52_method_2_code, exceptionTable := #[], attributes := #[] }
def k18m1 : Method := { name := "newBytesFor", desc := "(I)[B", sig := { parameters := [.int], returnType := some (.array .byte) }, accessFlags := 9, code := some k18c1 }
def k18c2 : Code := { maxStack := 4, maxLocals := 1, code := jdk_52_method_3_code, exceptionTable := #[], attributes := #[] }
def k18m2 : Method := { name := "newBytesLength", desc := "(I)I", sig := { parameters := [.int], returnType := some .int }, accessFlags := 9, code := some k18c2 }
def k18c3 : Code := { maxStack := 4, maxLocals := 3, code := jdk_52_method_4_code, exceptionTable := #[], attributes := #[] }
def k18m3 : Method := { name := "putChar", desc := "([BII)V", sig := { parameters := [(.array .byte), .int, .int], returnType := none }, accessFlags := 8, code := some k18c3 }
def k18c4 : Code := { maxStack := 3, maxLocals := 2, code := jdk_52_method_5_code, exceptionTable := #[], attributes := #[] }
def k18m4 : Method := { name := "getChar", desc := "([BI)C", sig := { parameters := [(.array .byte), .int], returnType := some .char }, accessFlags := 8, code := some k18c4 }
def k18c5 : Code := { maxStack := 2, maxLocals := 1, code := jdk_52_method_6_code, exceptionTable := #[], attributes := #[] }
def k18m5 : Method := { name := "length", desc := "([B)I", sig := { parameters := [(.array .byte)], returnType := some .int }, accessFlags := 9, code := some k18c5 }
def k18c6 : Code := { maxStack := 4, maxLocals := 5, code := jdk_52_method_14_code, exceptionTable := #[], attributes := #[] }
def k18m6 : Method := { name := "toBytes", desc := "([CII)[B", sig := { parameters := [(.array .char), .int, .int], returnType := some (.array .byte) }, accessFlags := 9, code := some k18c6 }
def k18c7 : Code := { maxStack := 2, maxLocals := 2, code := jdk_52_method_15_code, exceptionTable := #[], attributes := #[] }
def k18m7 : Method := { name := "coderFromArrayLen", desc := "([BI)B", sig := { parameters := [(.array .byte), .int], returnType := some .byte }, accessFlags := 8, code := some k18c7 }
def k18c8 : Code := { maxStack := 5, maxLocals := 6, code := jdk_52_method_16_code, exceptionTable := #[], attributes := #[] }
def k18m8 : Method := { name := "compress", desc := "([CII)[B", sig := { parameters := [(.array .char), .int, .int], returnType := some (.array .byte) }, accessFlags := 9, code := some k18c8 }
def k18c9 : Code := { maxStack := 3, maxLocals := 7, code := jdk_52_method_21_code, exceptionTable := #[], attributes := #[] }
def k18m9 : Method := { name := "compress", desc := "([CI[BII)I", sig := { parameters := [(.array .char), .int, (.array .byte), .int, .int], returnType := some .int }, accessFlags := 9, code := some k18c9 }
def k18c10 : Code := { maxStack := 2, maxLocals := 2, code := jdk_52_method_83_code, exceptionTable := #[], attributes := #[] }
def k18m10 : Method := { name := "charAt", desc := "([BI)C", sig := { parameters := [(.array .byte), .int], returnType := some .char }, accessFlags := 9, code := some k18c10 }
def k18c11 : Code := { maxStack := 4, maxLocals := 6, code := jdk_52_method_86_code, exceptionTable := #[], attributes := #[] }
def k18m11 : Method := { name := "inflate", desc := "([BI[BII)V", sig := { parameters := [(.array .byte), .int, (.array .byte), .int, .int], returnType := none }, accessFlags := 9, code := some k18c11 }
def k18c12 : Code := { maxStack := 2, maxLocals := 2, code := jdk_52_method_91_code, exceptionTable := #[], attributes := #[] }
def k18m12 : Method := { name := "checkIndex", desc := "(I[B)V", sig := { parameters := [.int, (.array .byte)], returnType := none }, accessFlags := 9, code := some k18c12 }
def k18c13 : Code := { maxStack := 3, maxLocals := 3, code := jdk_52_method_94_code, exceptionTable := #[], attributes := #[] }
def k18m13 : Method := { name := "checkBoundsOffCount", desc := "(II[B)V", sig := { parameters := [.int, .int, (.array .byte)], returnType := none }, accessFlags := 9, code := some k18c13 }
/-- java/lang/StringUTF16 -/
def k18 : Class := { plain "java/lang/StringUTF16" (some 0) with
  accessFlags := 48
  interfaces := #[]
  cf := some (fileOf pool18 12 #[.nestMembers #[627, 629, 369]] #[{ accessFlags := 0, nameIndex := 9, descriptorIndex := 10, attributes := #[] }, { accessFlags := 9, nameIndex := 109, descriptorIndex := 110, attributes := #[] }, { accessFlags := 9, nameIndex := 15, descriptorIndex := 16, attributes := #[] }, { accessFlags := 8, nameIndex := 113, descriptorIndex := 114, attributes := #[] }, { accessFlags := 8, nameIndex := 73, descriptorIndex := 74, attributes := #[] }, { accessFlags := 9, nameIndex := 50, descriptorIndex := 51, attributes := #[] }, { accessFlags := 9, nameIndex := 121, descriptorIndex := 122, attributes := #[] }, { accessFlags := 8, nameIndex := 261, descriptorIndex := 262, attributes := #[] }, { accessFlags := 9, nameIndex := 117, descriptorIndex := 122, attributes := #[] }, { accessFlags := 9, nameIndex := 117, descriptorIndex := 118, attributes := #[] }, { accessFlags := 9, nameIndex := 392, descriptorIndex := 74, attributes := #[] }, { accessFlags := 9, nameIndex := 140, descriptorIndex := 141, attributes := #[] }, { accessFlags := 9, nameIndex := 69, descriptorIndex := 70, attributes := #[] }, { accessFlags := 9, nameIndex := 175, descriptorIndex := 99, attributes := #[] }] 48 6 #[] #[{ accessFlags := 26, nameIndex := 61, descriptorIndex := 62, attributes := #[] }, { accessFlags := 26, nameIndex := 65, descriptorIndex := 62, attributes := #[] }, { accessFlags := 24, nameIndex := 430, descriptorIndex := 62, attributes := #[] }, { accessFlags := 4120, nameIndex := 46, descriptorIndex := 47, attributes := #[] }])
  fields := #[{ name := "HI_BYTE_SHIFT", type := .int, accessFlags := 26, slot := 0, constantValue := 0 }, { name := "LO_BYTE_SHIFT", type := .int, accessFlags := 26, slot := 1, constantValue := 0 }, { name := "MAX_LENGTH", type := .int, accessFlags := 24, slot := 2, constantValue := 0 }, { name := "$assertionsDisabled", type := .boolean, accessFlags := 4120, slot := 3, constantValue := 0 }]
  methods := #[k18m0, k18m1, k18m2, k18m3, k18m4, k18m5, k18m6, k18m7, k18m8, k18m9, k18m10, k18m11, k18m12, k18m13]
  instanceTypes := #[]
  staticTypes := #[.int, .int, .int, .boolean]
  resolved := Array.replicate 635 none
  statics := some 3 }

def pool19 : Array CpInfo := pool [(9, u "<init>"), (6, .class_ 18), (1, u "java/lang/Object"), (0, u "()V"), (1, .class_ 23), (1, u "jdk/internal/util/ArraysSupport"), (0, u "LOG2_ARRAY_LONG_INDEX_SCALE"), (0, u "I"), (2, u "U"), (0, u "Ljdk/internal/misc/Unsafe;"), (8, u "BIG_ENDIAN"), (0, u "Z"), (8, u "LOG2_BYTE_BIT_SIZE"), (4, u "LOG2_ARRAY_INT_INDEX_SCALE"), (54, u "JLA"), (0, u "Ljdk/internal/access/JavaLangAccess;"), (11, u "LOG2_ARRAY_BOOLEAN_INDEX_SCALE"), (9, u "LOG2_ARRAY_BYTE_INDEX_SCALE"), (5, u "LOG2_ARRAY_CHAR_INDEX_SCALE"), (5, u "LOG2_ARRAY_SHORT_INDEX_SCALE"), (18, u "LOG2_ARRAY_FLOAT_INDEX_SCALE"), (24, u "LOG2_ARRAY_DOUBLE_INDEX_SCALE"), (89, u "T_BOOLEAN"), (2, u "T_CHAR"), (1, u "T_FLOAT"), (1, u "T_DOUBLE"), (1, u "T_BYTE"), (1, u "T_SHORT"), (1, u "T_INT"), (1, u "T_LONG"), (1, u "SOFT_MAX_ARRAY_LENGTH")] 83

def k19m0 : Method := { name := "<init>", desc := "()V", sig := { parameters := [], returnType := none }, accessFlags := 2, code := none }
/-- jdk/internal/util/ArraysSupport -/
def k19 : Class := { plain "jdk/internal/util/ArraysSupport" (some 0) with
  accessFlags := 33
  interfaces := #[]
  cf := some (fileOf pool19 21 #[] #[{ accessFlags := 2, nameIndex := 9, descriptorIndex := 19, attributes := #[] }] 33 16 #[] #[{ accessFlags := 24, nameIndex := 28, descriptorIndex := 29, attributes := #[] }, { accessFlags := 26, nameIndex := 38, descriptorIndex := 39, attributes := #[] }, { accessFlags := 25, nameIndex := 121, descriptorIndex := 25, attributes := #[] }, { accessFlags := 25, nameIndex := 131, descriptorIndex := 25, attributes := #[] }, { accessFlags := 25, nameIndex := 137, descriptorIndex := 25, attributes := #[] }, { accessFlags := 25, nameIndex := 143, descriptorIndex := 25, attributes := #[] }, { accessFlags := 25, nameIndex := 53, descriptorIndex := 25, attributes := #[] }, { accessFlags := 25, nameIndex := 24, descriptorIndex := 25, attributes := #[] }, { accessFlags := 25, nameIndex := 162, descriptorIndex := 25, attributes := #[] }, { accessFlags := 25, nameIndex := 187, descriptorIndex := 25, attributes := #[] }, { accessFlags := 26, nameIndex := 48, descriptorIndex := 25, attributes := #[] }, { accessFlags := 25, nameIndex := 277, descriptorIndex := 25, attributes := #[] }, { accessFlags := 25, nameIndex := 280, descriptorIndex := 25, attributes := #[] }, { accessFlags := 25, nameIndex := 282, descriptorIndex := 25, attributes := #[] }, { accessFlags := 25, nameIndex := 284, descriptorIndex := 25, attributes := #[] }, { accessFlags := 25, nameIndex := 286, descriptorIndex := 25, attributes := #[] }, { accessFlags := 25, nameIndex := 288, descriptorIndex := 25, attributes := #[] }, { accessFlags := 25, nameIndex := 290, descriptorIndex := 25, attributes := #[] }, { accessFlags := 25, nameIndex := 292, descriptorIndex := 25, attributes := #[] }, { accessFlags := 26, nameIndex := 108, descriptorIndex := 109, attributes := #[] }, { accessFlags := 25, nameIndex := 294, descriptorIndex := 25, attributes := #[] }])
  fields := #[{ name := "U", type := (.object "jdk/internal/misc/Unsafe"), accessFlags := 24, slot := 0, constantValue := 0 }, { name := "BIG_ENDIAN", type := .boolean, accessFlags := 26, slot := 1, constantValue := 0 }, { name := "LOG2_ARRAY_BOOLEAN_INDEX_SCALE", type := .int, accessFlags := 25, slot := 2, constantValue := 0 }, { name := "LOG2_ARRAY_BYTE_INDEX_SCALE", type := .int, accessFlags := 25, slot := 3, constantValue := 0 }, { name := "LOG2_ARRAY_CHAR_INDEX_SCALE", type := .int, accessFlags := 25, slot := 4, constantValue := 0 }, { name := "LOG2_ARRAY_SHORT_INDEX_SCALE", type := .int, accessFlags := 25, slot := 5, constantValue := 0 }, { name := "LOG2_ARRAY_INT_INDEX_SCALE", type := .int, accessFlags := 25, slot := 6, constantValue := 0 }, { name := "LOG2_ARRAY_LONG_INDEX_SCALE", type := .int, accessFlags := 25, slot := 7, constantValue := 0 }, { name := "LOG2_ARRAY_FLOAT_INDEX_SCALE", type := .int, accessFlags := 25, slot := 8, constantValue := 0 }, { name := "LOG2_ARRAY_DOUBLE_INDEX_SCALE", type := .int, accessFlags := 25, slot := 9, constantValue := 0 }, { name := "LOG2_BYTE_BIT_SIZE", type := .int, accessFlags := 26, slot := 10, constantValue := 0 }, { name := "T_BOOLEAN", type := .int, accessFlags := 25, slot := 11, constantValue := 0 }, { name := "T_CHAR", type := .int, accessFlags := 25, slot := 12, constantValue := 0 }, { name := "T_FLOAT", type := .int, accessFlags := 25, slot := 13, constantValue := 0 }, { name := "T_DOUBLE", type := .int, accessFlags := 25, slot := 14, constantValue := 0 }, { name := "T_BYTE", type := .int, accessFlags := 25, slot := 15, constantValue := 0 }, { name := "T_SHORT", type := .int, accessFlags := 25, slot := 16, constantValue := 0 }, { name := "T_INT", type := .int, accessFlags := 25, slot := 17, constantValue := 0 }, { name := "T_LONG", type := .int, accessFlags := 25, slot := 18, constantValue := 0 }, { name := "JLA", type := (.object "jdk/internal/access/JavaLangAccess"), accessFlags := 26, slot := 19, constantValue := 0 }, { name := "SOFT_MAX_ARRAY_LENGTH", type := .int, accessFlags := 25, slot := 20, constantValue := 0 }]
  methods := #[k19m0]
  instanceTypes := #[]
  staticTypes := #[(.object "jdk/internal/misc/Unsafe"), .boolean, .int, .int, .int, .int, .int, .int, .int, .int, .int, .int, .int, .int, .int, .int, .int, .int, .int, (.object "jdk/internal/access/JavaLangAccess"), .int]
  resolved := Array.replicate 378 none
  statics := none }

def pool20 : Array CpInfo := pool [(1, u "java/lang/Cloneable"), (0, .class_ 1), (0, u "java/lang/Object"), (0, .class_ 3)] 3

/-- java/lang/Cloneable -/
def k20 : Class := { plain "java/lang/Cloneable" (some 0) with
  accessFlags := 1537
  interfaces := #[]
  cf := some (fileOf pool20 2 #[] #[] 1537 4 #[] #[])
  fields := #[]
  methods := #[]
  instanceTypes := #[]
  staticTypes := #[]
  resolved := Array.replicate 8 none
  statics := none }

/-- the primitive byte -/
def k21 : Class := { plain "byte" none with kind := .primitive 'B', accessFlags := 0x411 }
/-- [B -/
def k22 : Class := { plain "[B" (some 0) with kind := .array 21 .byte, interfaces := #[20, 2], accessFlags := 1041 }

/-- the primitive char -/
def k23 : Class := { plain "char" none with kind := .primitive 'C', accessFlags := 0x411 }
/-- [C -/
def k24 : Class := { plain "[C" (some 0) with kind := .array 23 .char, interfaces := #[20, 2], accessFlags := 1041 }

/-- the primitive int -/
def k25 : Class := { plain "int" none with kind := .primitive 'I', accessFlags := 0x411 }
/-- [I -/
def k26 : Class := { plain "[I" (some 0) with kind := .array 25 .int, interfaces := #[20, 2], accessFlags := 1041 }

def heap : Heap := #[{ cls := 7, slots := #[.long 0, .int 1, .null, .int 0, .null, .int 0, .int 0], vm := .statics 7 },
  { cls := 8, slots := #[.ref 4], vm := .statics 8 },
  { cls := 17, slots := #[.null, .null, .null], vm := .statics 17 },
  { cls := 18, slots := #[.int 0, .int 8, .int 0, .int 1], vm := .statics 18 },
  { cls := 8, slots := #[.null], vm := .none }]
def classes : Array Class := #[k0, k1, k2, k3, k4, k5, k6, k7, k8, k9, k10, k11, k12, k13, k14, k15, k16, k17, k18, k19, k20, k21, k22, k23, k24, k25, k26]
def interned : List (Array UInt16 × Addr) := []
def slotsUsed : Nat := 16
def theMethod : MethodId := ⟨1, 1⟩
def args0 : Array Value := #[.int 3, .int 97, .int 8364, .int 98]
def aboutOver (below : List Frame) : State where
  vm := { classes := classes, interned := interned.toArray }
  heap := heap
  slotsUsed := slotsUsed
  threads := #[{ frames := .invoking theMethod args0 :: below }]
def below0 : List Frame := [.native { method := ⟨0, 0⟩, args := #[] }]
def about1 : State := aboutOver below0
def p0 : Program := .bare "" "" ""
def e0 : Env := launch0.env 0 0 0
theorem w_frames : about1.frames = Frame.invoking theMethod args0 :: below0 := rfl
set_option maxRecDepth 65536 in
theorem w_args : argsFit about1.vm theMethod args0 = true := by decide +kernel
set_option maxRecDepth 65536 in
theorem w_heap : heapFits about1 = true := by decide +kernel
set_option maxRecDepth 65536 in
theorem w_runnable : about1.curStatus? = some .runnable := by decide +kernel
set_option maxRecDepth 65536 in
theorem w_alone : about1.alone = true := by decide +kernel
set_option maxRecDepth 65536 in
theorem w_named : about1.methodNamed? x = some theMethod := by decide +kernel
set_option maxRecDepth 65536 in
theorem w_hears : about1.hears theMethod below0 = true := by decide +kernel
set_option maxRecDepth 65536 in
theorem w_ripe : about1.ripe theMethod args0 below0 = true := by decide +kernel
theorem w_running : about1.status = .running := rfl
set_option maxRecDepth 65536 in
theorem w_room : about1.hasRoom e0.platform room_1 = true :=
  launch0.hasRoom_least _ room_1 (by decide +kernel) (by decide +kernel) (by decide +kernel) (by decide +kernel) (by decide +kernel) (by decide +kernel)
theorem allAtoms_all (ts : List Jvm.Cond) (a : Array Jvm.Value) (st : Jvm.State) : (allAtoms ts).before a st = ts.all (fun c => c.before a st) := by
  induction ts with
  | nil => rfl
  | cons c t ih =>
    show (Jvm.Cond.and c (allAtoms t)).before a st = _
    rw [Jvm.Cond.before_and, ih, List.all_cons]
def words1 : List Jvm.Cond := Jvm.Cond.code x code maxLocals ret :: tables_1
/-- a 'code' word, met by the world's own term for the bytes: nothing is compared byte by byte -/
theorem code_word {y : MethodName} {bytes : ByteArray} {mx : Nat} {rt : Option FieldType} {a : Array Value} {s : State} {m : MethodId} {meth : Method} {c : Code} (h1 : s.methodNamed? y = some m) (h2 : s.vm.method? m = some meth) (h3 : meth.code = some c) (h4 : c.code = bytes)
    (h5 : (c.maxLocals == mx && c.exceptionTable.isEmpty && decide (c.maxStack ≤ mostOperands) && decide (meth.sig.returnType = rt) && !meth.locks && decide (parseMethodDescriptor y.desc = some meth.sig)) = true) : (Jvm.Cond.code y bytes mx rt).before a s = true := by
  simp only [Bool.and_eq_true, beq_iff_eq, Bool.not_eq_true', decide_eq_true_eq] at h5
  obtain ⟨⟨⟨⟨⟨g1, g2⟩, g3⟩, g4⟩, g5⟩, g6⟩ := h5
  simp [Cond.before, Cond.holds, Cond.value, h1, h2, h3, h4, g1, g2, g3, g4, g5, g6]
def isCode : Jvm.Cond → Bool
  | .code _ _ _ _ => true
  | _ => false
theorem all_split {L : List Jvm.Cond} {P : Jvm.Cond → Bool} (h1 : L.all (fun c => isCode c || P c) = true) (h2 : ∀ c ∈ L.filter isCode, P c = true) : L.all P = true := by
  refine List.all_eq_true.mpr fun c hc => ?_
  have h := List.all_eq_true.mp h1 c hc
  rcases Bool.eq_false_or_eq_true (isCode c) with hi | hi
  · exact h2 c (List.mem_filter.mpr ⟨hc, hi⟩)
  · simpa [hi] using h
set_option maxRecDepth 65536 in
theorem w_c0 : (Jvm.Cond.code x code maxLocals ret).before args0 about1 = true := code_word (m := ⟨1, 1⟩) (meth := k1m1) (c := k1c1) (by decide +kernel) rfl rfl rfl (by decide +kernel)
set_option maxRecDepth 65536 in
theorem w_c1 : (Jvm.Cond.code ({ cls := "java/lang/String", name := "<init>", desc := "([C)V" } : Jvm.MethodName) jdk_42_method_3_code (2 : Nat) (Option.none : Option Jvm.ClassFile.FieldType)).before args0 about1 = true := code_word (m := ⟨7, 1⟩) (meth := k7m1) (c := k7c1) (by decide +kernel) rfl rfl rfl (by decide +kernel)
set_option maxRecDepth 65536 in
theorem w_c2 : (Jvm.Cond.code ({ cls := "java/lang/String", name := "<init>", desc := "([CIILjava/lang/Void;)V" } : Jvm.MethodName) jdk_42_method_149_code (6 : Nat) (Option.none : Option Jvm.ClassFile.FieldType)).before args0 about1 = true := code_word (m := ⟨7, 6⟩) (meth := k7m6) (c := k7c6) (by decide +kernel) rfl rfl rfl (by decide +kernel)
set_option maxRecDepth 65536 in
theorem w_c3 : (Jvm.Cond.code ({ cls := "java/lang/Object", name := "<init>", desc := "()V" } : Jvm.MethodName) object_method_1_code (1 : Nat) (Option.none : Option Jvm.ClassFile.FieldType)).before args0 about1 = true := code_word (m := ⟨0, 0⟩) (meth := k0m0) (c := k0c0) (by decide +kernel) rfl rfl rfl (by decide +kernel)
set_option maxRecDepth 65536 in
theorem w_c4 : (Jvm.Cond.code ({ cls := "com/example/wegweiser/wegweiser/directory/Author", name := "client", desc := "(Ljava/lang/String;)Lcom/example/wegweiser/wegweiser/directory/Author;" } : Jvm.MethodName) prog_6_method_2_code (1 : Nat) (Option.some (Jvm.ClassFile.FieldType.object "com/example/wegweiser/wegweiser/directory/Author"))).before args0 about1 = true := code_word (m := ⟨8, 1⟩) (meth := k8m1) (c := k8c1) (by decide +kernel) rfl rfl rfl (by decide +kernel)
set_option maxRecDepth 65536 in
theorem w_c5 : (Jvm.Cond.code ({ cls := "java/util/Objects", name := "requireNonNull", desc := "(Ljava/lang/Object;)Ljava/lang/Object;" } : Jvm.MethodName) jdk_31_method_10_code (1 : Nat) (Option.some (Jvm.ClassFile.FieldType.object "java/lang/Object"))).before args0 about1 = true := code_word (m := ⟨9, 1⟩) (meth := k9m1) (c := k9c1) (by decide +kernel) rfl rfl rfl (by decide +kernel)
set_option maxRecDepth 65536 in
theorem w_c6 : (Jvm.Cond.code ({ cls := "com/example/wegweiser/wegweiser/directory/Author", name := "<init>", desc := "(Ljava/lang/String;)V" } : Jvm.MethodName) prog_6_method_1_code (2 : Nat) (Option.none : Option Jvm.ClassFile.FieldType)).before args0 about1 = true := code_word (m := ⟨8, 0⟩) (meth := k8m0) (c := k8c0) (by decide +kernel) rfl rfl rfl (by decide +kernel)
set_option maxRecDepth 65536 in
theorem w_c7 : (Jvm.Cond.code ({ cls := "com/example/wegweiser/wegweiser/directory/Author", name := "toString", desc := "()Ljava/lang/String;" } : Jvm.MethodName) prog_6_method_4_code (1 : Nat) (Option.some (Jvm.ClassFile.FieldType.object "java/lang/String"))).before args0 about1 = true := code_word (m := ⟨8, 2⟩) (meth := k8m2) (c := k8c2) (by decide +kernel) rfl rfl rfl (by decide +kernel)
set_option maxRecDepth 65536 in
theorem w_c8 : (Jvm.Cond.code ({ cls := "java/lang/StringBuilder", name := "<init>", desc := "()V" } : Jvm.MethodName) jdk_67_method_1_code (1 : Nat) (Option.none : Option Jvm.ClassFile.FieldType)).before args0 about1 = true := code_word (m := ⟨12, 0⟩) (meth := k12m0) (c := k12c0) (by decide +kernel) rfl rfl rfl (by decide +kernel)
set_option maxRecDepth 65536 in
theorem w_c9 : (Jvm.Cond.code ({ cls := "java/lang/AbstractStringBuilder", name := "<init>", desc := "(I)V" } : Jvm.MethodName) jdk_68_method_2_code (2 : Nat) (Option.none : Option Jvm.ClassFile.FieldType)).before args0 about1 = true := code_word (m := ⟨11, 1⟩) (meth := k11m1) (c := k11c1) (by decide +kernel) rfl rfl rfl (by decide +kernel)
set_option maxRecDepth 65536 in
theorem w_c10 : (Jvm.Cond.code ({ cls := "java/lang/StringBuilder", name := "append", desc := "(Ljava/lang/String;)Ljava/lang/StringBuilder;" } : Jvm.MethodName) jdk_67_method_7_code (2 : Nat) (Option.some (Jvm.ClassFile.FieldType.object "java/lang/StringBuilder"))).before args0 about1 = true := code_word (m := ⟨12, 1⟩) (meth := k12m1) (c := k12c1) (by decide +kernel) rfl rfl rfl (by decide +kernel)
set_option maxRecDepth 65536 in
theorem w_c11 : (Jvm.Cond.code ({ cls := "java/lang/AbstractStringBuilder", name := "append", desc := "(Ljava/lang/String;)Ljava/lang/AbstractStringBuilder;" } : Jvm.MethodName) jdk_68_method_22_code (3 : Nat) (Option.some (Jvm.ClassFile.FieldType.object "java/lang/AbstractStringBuilder"))).before args0 about1 = true := code_word (m := ⟨11, 5⟩) (meth := k11m5) (c := k11c5) (by decide +kernel) rfl rfl rfl (by decide +kernel)
set_option maxRecDepth 65536 in
theorem w_c12 : (Jvm.Cond.code ({ cls := "java/lang/String", name := "length", desc := "()I" } : Jvm.MethodName) jdk_42_method_54_code (1 : Nat) (Option.some Jvm.ClassFile.FieldType.int)).before args0 about1 = true := code_word (m := ⟨7, 3⟩) (meth := k7m3) (c := k7c3) (by decide +kernel) rfl rfl rfl (by decide +kernel)
set_option maxRecDepth 65536 in
theorem w_c13 : (Jvm.Cond.code ({ cls := "java/lang/String", name := "coder", desc := "()B" } : Jvm.MethodName) jdk_42_method_152_code (1 : Nat) (Option.some Jvm.ClassFile.FieldType.byte)).before args0 about1 = true := code_word (m := ⟨7, 8⟩) (meth := k7m8) (c := k7c8) (by decide +kernel) rfl rfl rfl (by decide +kernel)
set_option maxRecDepth 65536 in
theorem w_c14 : (Jvm.Cond.code ({ cls := "java/lang/AbstractStringBuilder", name := "ensureCapacityInternal", desc := "(I)V" } : Jvm.MethodName) jdk_68_method_9_code (3 : Nat) (Option.none : Option Jvm.ClassFile.FieldType)).before args0 about1 = true := code_word (m := ⟨11, 3⟩) (meth := k11m3) (c := k11c3) (by decide +kernel) rfl rfl rfl (by decide +kernel)
set_option maxRecDepth 65536 in
theorem w_c15 : (Jvm.Cond.code ({ cls := "java/lang/AbstractStringBuilder", name := "putStringAt", desc := "(ILjava/lang/String;)V" } : Jvm.MethodName) jdk_68_method_73_code (3 : Nat) (Option.none : Option Jvm.ClassFile.FieldType)).before args0 about1 = true := code_word (m := ⟨11, 9⟩) (meth := k11m9) (c := k11c9) (by decide +kernel) rfl rfl rfl (by decide +kernel)
set_option maxRecDepth 65536 in
theorem w_c16 : (Jvm.Cond.code ({ cls := "java/lang/AbstractStringBuilder", name := "inflateIfNeededFor", desc := "(Ljava/lang/String;)V" } : Jvm.MethodName) jdk_68_method_71_code (2 : Nat) (Option.none : Option Jvm.ClassFile.FieldType)).before args0 about1 = true := code_word (m := ⟨11, 8⟩) (meth := k11m8) (c := k11c8) (by decide +kernel) rfl rfl rfl (by decide +kernel)
set_option maxRecDepth 65536 in
theorem w_c17 : (Jvm.Cond.code ({ cls := "java/lang/String", name := "getBytes", desc := "([BIB)V" } : Jvm.MethodName) jdk_42_method_147_code (4 : Nat) (Option.none : Option Jvm.ClassFile.FieldType)).before args0 about1 = true := code_word (m := ⟨7, 5⟩) (meth := k7m5) (c := k7c5) (by decide +kernel) rfl rfl rfl (by decide +kernel)
set_option maxRecDepth 65536 in
theorem w_c18 : (Jvm.Cond.code ({ cls := "java/lang/StringBuilder", name := "toString", desc := "()Ljava/lang/String;" } : Jvm.MethodName) jdk_67_method_42_code (1 : Nat) (Option.some (Jvm.ClassFile.FieldType.object "java/lang/String"))).before args0 about1 = true := code_word (m := ⟨12, 2⟩) (meth := k12m2) (c := k12c2) (by decide +kernel) rfl rfl rfl (by decide +kernel)
set_option maxRecDepth 65536 in
theorem w_c19 : (Jvm.Cond.code ({ cls := "java/lang/String", name := "<init>", desc := "(Ljava/lang/StringBuilder;)V" } : Jvm.MethodName) jdk_42_method_53_code (2 : Nat) (Option.none : Option Jvm.ClassFile.FieldType)).before args0 about1 = true := code_word (m := ⟨7, 2⟩) (meth := k7m2) (c := k7c2) (by decide +kernel) rfl rfl rfl (by decide +kernel)
set_option maxRecDepth 65536 in
theorem w_c20 : (Jvm.Cond.code ({ cls := "java/lang/String", name := "<init>", desc := "(Ljava/lang/AbstractStringBuilder;Ljava/lang/Void;)V" } : Jvm.MethodName) jdk_42_method_150_code (5 : Nat) (Option.none : Option Jvm.ClassFile.FieldType)).before args0 about1 = true := code_word (m := ⟨7, 7⟩) (meth := k7m7) (c := k7c7) (by decide +kernel) rfl rfl rfl (by decide +kernel)
set_option maxRecDepth 65536 in
theorem w_c21 : (Jvm.Cond.code ({ cls := "java/lang/AbstractStringBuilder", name := "getValue", desc := "()[B" } : Jvm.MethodName) jdk_68_method_64_code (1 : Nat) (Option.some (Jvm.ClassFile.FieldType.array Jvm.ClassFile.FieldType.byte))).before args0 about1 = true := code_word (m := ⟨11, 6⟩) (meth := k11m6) (c := k11c6) (by decide +kernel) rfl rfl rfl (by decide +kernel)
set_option maxRecDepth 65536 in
theorem w_c22 : (Jvm.Cond.code ({ cls := "java/lang/StringBuilder", name := "length", desc := "()I" } : Jvm.MethodName) jdk_67_method_93_code (1 : Nat) (Option.some Jvm.ClassFile.FieldType.int)).before args0 about1 = true := code_word (m := ⟨12, 3⟩) (meth := k12m3) (c := k12c3) (by decide +kernel) rfl rfl rfl (by decide +kernel)
set_option maxRecDepth 65536 in
theorem w_c23 : (Jvm.Cond.code ({ cls := "java/lang/AbstractStringBuilder", name := "length", desc := "()I" } : Jvm.MethodName) jdk_68_method_6_code (1 : Nat) (Option.some Jvm.ClassFile.FieldType.int)).before args0 about1 = true := code_word (m := ⟨11, 2⟩) (meth := k11m2) (c := k11c2) (by decide +kernel) rfl rfl rfl (by decide +kernel)
set_option maxRecDepth 65536 in
theorem w_c24 : (Jvm.Cond.code ({ cls := "java/lang/AbstractStringBuilder", name := "isLatin1", desc := "()Z" } : Jvm.MethodName) jdk_68_method_68_code (1 : Nat) (Option.some Jvm.ClassFile.FieldType.boolean)).before args0 about1 = true := code_word (m := ⟨11, 7⟩) (meth := k11m7) (c := k11c7) (by decide +kernel) rfl rfl rfl (by decide +kernel)
set_option maxRecDepth 65536 in
theorem w_c25 : (Jvm.Cond.code ({ cls := "java/util/Arrays", name := "copyOfRange", desc := "([BII)[B" } : Jvm.MethodName) jdk_65_method_132_code (3 : Nat) (Option.some (Jvm.ClassFile.FieldType.array Jvm.ClassFile.FieldType.byte))).before args0 about1 = true := code_word (m := ⟨14, 2⟩) (meth := k14m2) (c := k14c2) (by decide +kernel) rfl rfl rfl (by decide +kernel)
set_option maxRecDepth 65536 in
theorem w_c26 : (Jvm.Cond.code ({ cls := "java/util/Arrays", name := "copyOfRangeByte", desc := "([BII)[B" } : Jvm.MethodName) jdk_65_method_133_code (5 : Nat) (Option.some (Jvm.ClassFile.FieldType.array Jvm.ClassFile.FieldType.byte))).before args0 about1 = true := code_word (m := ⟨14, 3⟩) (meth := k14m3) (c := k14c3) (by decide +kernel) rfl rfl rfl (by decide +kernel)
set_option maxRecDepth 65536 in
theorem w_c27 : (Jvm.Cond.code ({ cls := "java/util/Arrays", name := "checkLength", desc := "(II)V" } : Jvm.MethodName) jdk_65_method_131_code (2 : Nat) (Option.none : Option Jvm.ClassFile.FieldType)).before args0 about1 = true := code_word (m := ⟨14, 1⟩) (meth := k14m1) (c := k14c1) (by decide +kernel) rfl rfl rfl (by decide +kernel)
set_option maxRecDepth 65536 in
theorem w_c28 : (Jvm.Cond.code ({ cls := "java/lang/Math", name := "min", desc := "(II)I" } : Jvm.MethodName) jdk_29_method_69_code (2 : Nat) (Option.some Jvm.ClassFile.FieldType.int)).before args0 about1 = true := code_word (m := ⟨15, 1⟩) (meth := k15m1) (c := k15c1) (by decide +kernel) rfl rfl rfl (by decide +kernel)
set_option maxRecDepth 65536 in
theorem w_c29 : (Jvm.Cond.code ({ cls := "com/example/wegweiser/wegweiser/directory/AuthorClientPinLaw", name := "prefixOk", desc := "(Ljava/lang/String;)Z" } : Jvm.MethodName) method_3_code (2 : Nat) (Option.some Jvm.ClassFile.FieldType.boolean)).before args0 about1 = true := code_word (m := ⟨1, 2⟩) (meth := k1m2) (c := k1c2) (by decide +kernel) rfl rfl rfl (by decide +kernel)
set_option maxRecDepth 65536 in
theorem w_c30 : (Jvm.Cond.code ({ cls := "java/lang/String", name := "charAt", desc := "(I)C" } : Jvm.MethodName) jdk_42_method_56_code (2 : Nat) (Option.some Jvm.ClassFile.FieldType.char)).before args0 about1 = true := code_word (m := ⟨7, 4⟩) (meth := k7m4) (c := k7c4) (by decide +kernel) rfl rfl rfl (by decide +kernel)
set_option maxRecDepth 65536 in
theorem w_c31 : (Jvm.Cond.code ({ cls := "java/lang/String", name := "isLatin1", desc := "()Z" } : Jvm.MethodName) jdk_42_method_154_code (1 : Nat) (Option.some Jvm.ClassFile.FieldType.boolean)).before args0 about1 = true := code_word (m := ⟨7, 9⟩) (meth := k7m9) (c := k7c9) (by decide +kernel) rfl rfl rfl (by decide +kernel)
set_option maxRecDepth 65536 in
theorem w_c32 : (Jvm.Cond.code ({ cls := "java/lang/StringLatin1", name := "charAt", desc := "([BI)C" } : Jvm.MethodName) jdk_43_method_2_code (2 : Nat) (Option.some Jvm.ClassFile.FieldType.char)).before args0 about1 = true := code_word (m := ⟨16, 1⟩) (meth := k16m1) (c := k16c1) (by decide +kernel) rfl rfl rfl (by decide +kernel)
set_option maxRecDepth 65536 in
theorem w_c33 : (Jvm.Cond.code ({ cls := "java/lang/String", name := "checkIndex", desc := "(II)V" } : Jvm.MethodName) jdk_42_method_155_code (2 : Nat) (Option.none : Option Jvm.ClassFile.FieldType)).before args0 about1 = true := code_word (m := ⟨7, 10⟩) (meth := k7m10) (c := k7c10) (by decide +kernel) rfl rfl rfl (by decide +kernel)
set_option maxRecDepth 65536 in
theorem w_c34 : (Jvm.Cond.code ({ cls := "jdk/internal/util/Preconditions", name := "checkIndex", desc := "(IILjava/util/function/BiFunction;)I" } : Jvm.MethodName) jdk_41_method_11_code (3 : Nat) (Option.some Jvm.ClassFile.FieldType.int)).before args0 about1 = true := code_word (m := ⟨17, 1⟩) (meth := k17m1) (c := k17c1) (by decide +kernel) rfl rfl rfl (by decide +kernel)
set_option maxRecDepth 65536 in
theorem w_c35 : (Jvm.Cond.code ({ cls := "java/lang/StringUTF16", name := "compress", desc := "([CII)[B" } : Jvm.MethodName) jdk_52_method_16_code (6 : Nat) (Option.some (Jvm.ClassFile.FieldType.array Jvm.ClassFile.FieldType.byte))).before args0 about1 = true := code_word (m := ⟨18, 8⟩) (meth := k18m8) (c := k18c8) (by decide +kernel) rfl rfl rfl (by decide +kernel)
set_option maxRecDepth 65536 in
theorem w_c36 : (Jvm.Cond.code ({ cls := "java/lang/StringUTF16", name := "compress", desc := "([CI[BII)I" } : Jvm.MethodName) jdk_52_method_21_code (7 : Nat) (Option.some Jvm.ClassFile.FieldType.int)).before args0 about1 = true := code_word (m := ⟨18, 9⟩) (meth := k18m9) (c := k18c9) (by decide +kernel) rfl rfl rfl (by decide +kernel)
set_option maxRecDepth 65536 in
theorem w_c37 : (Jvm.Cond.code ({ cls := "java/lang/StringUTF16", name := "coderFromArrayLen", desc := "([BI)B" } : Jvm.MethodName) jdk_52_method_15_code (2 : Nat) (Option.some Jvm.ClassFile.FieldType.byte)).before args0 about1 = true := code_word (m := ⟨18, 7⟩) (meth := k18m7) (c := k18c7) (by decide +kernel) rfl rfl rfl (by decide +kernel)
set_option maxRecDepth 65536 in
theorem w_c38 : (Jvm.Cond.code ({ cls := "java/lang/StringUTF16", name := "toBytes", desc := "([CII)[B" } : Jvm.MethodName) jdk_52_method_14_code (5 : Nat) (Option.some (Jvm.ClassFile.FieldType.array Jvm.ClassFile.FieldType.byte))).before args0 about1 = true := code_word (m := ⟨18, 6⟩) (meth := k18m6) (c := k18c6) (by decide +kernel) rfl rfl rfl (by decide +kernel)
set_option maxRecDepth 65536 in
theorem w_c39 : (Jvm.Cond.code ({ cls := "java/lang/StringUTF16", name := "newBytesFor", desc := "(I)[B" } : Jvm.MethodName) jdk_52_method_2_code (1 : Nat) (Option.some (Jvm.ClassFile.FieldType.array Jvm.ClassFile.FieldType.byte))).before args0 about1 = true := code_word (m := ⟨18, 1⟩) (meth := k18m1) (c := k18c1) (by decide +kernel) rfl rfl rfl (by decide +kernel)
set_option maxRecDepth 65536 in
theorem w_c40 : (Jvm.Cond.code ({ cls := "java/lang/StringUTF16", name := "newBytesLength", desc := "(I)I" } : Jvm.MethodName) jdk_52_method_3_code (1 : Nat) (Option.some Jvm.ClassFile.FieldType.int)).before args0 about1 = true := code_word (m := ⟨18, 2⟩) (meth := k18m2) (c := k18c2) (by decide +kernel) rfl rfl rfl (by decide +kernel)
set_option maxRecDepth 65536 in
theorem w_c41 : (Jvm.Cond.code ({ cls := "java/lang/StringUTF16", name := "putChar", desc := "([BII)V" } : Jvm.MethodName) jdk_52_method_4_code (3 : Nat) (Option.none : Option Jvm.ClassFile.FieldType)).before args0 about1 = true := code_word (m := ⟨18, 3⟩) (meth := k18m3) (c := k18c3) (by decide +kernel) rfl rfl rfl (by decide +kernel)
set_option maxRecDepth 65536 in
theorem w_c42 : (Jvm.Cond.code ({ cls := "java/lang/StringUTF16", name := "getChar", desc := "([BI)C" } : Jvm.MethodName) jdk_52_method_5_code (2 : Nat) (Option.some Jvm.ClassFile.FieldType.char)).before args0 about1 = true := code_word (m := ⟨18, 4⟩) (meth := k18m4) (c := k18c4) (by decide +kernel) rfl rfl rfl (by decide +kernel)
set_option maxRecDepth 65536 in
theorem w_c43 : (Jvm.Cond.code ({ cls := "java/lang/AbstractStringBuilder", name := "inflate", desc := "()V" } : Jvm.MethodName) jdk_68_method_11_code (2 : Nat) (Option.none : Option Jvm.ClassFile.FieldType)).before args0 about1 = true := code_word (m := ⟨11, 4⟩) (meth := k11m4) (c := k11c4) (by decide +kernel) rfl rfl rfl (by decide +kernel)
set_option maxRecDepth 65536 in
theorem w_c44 : (Jvm.Cond.code ({ cls := "java/lang/StringLatin1", name := "inflate", desc := "([BI[BII)V" } : Jvm.MethodName) jdk_43_method_50_code (5 : Nat) (Option.none : Option Jvm.ClassFile.FieldType)).before args0 about1 = true := code_word (m := ⟨16, 2⟩) (meth := k16m2) (c := k16c2) (by decide +kernel) rfl rfl rfl (by decide +kernel)
set_option maxRecDepth 65536 in
theorem w_c45 : (Jvm.Cond.code ({ cls := "java/lang/StringUTF16", name := "inflate", desc := "([BI[BII)V" } : Jvm.MethodName) jdk_52_method_86_code (6 : Nat) (Option.none : Option Jvm.ClassFile.FieldType)).before args0 about1 = true := code_word (m := ⟨18, 11⟩) (meth := k18m11) (c := k18c11) (by decide +kernel) rfl rfl rfl (by decide +kernel)
set_option maxRecDepth 65536 in
theorem w_c46 : (Jvm.Cond.code ({ cls := "java/lang/StringUTF16", name := "checkBoundsOffCount", desc := "(II[B)V" } : Jvm.MethodName) jdk_52_method_94_code (3 : Nat) (Option.none : Option Jvm.ClassFile.FieldType)).before args0 about1 = true := code_word (m := ⟨18, 13⟩) (meth := k18m13) (c := k18c13) (by decide +kernel) rfl rfl rfl (by decide +kernel)
set_option maxRecDepth 65536 in
theorem w_c47 : (Jvm.Cond.code ({ cls := "java/lang/StringUTF16", name := "length", desc := "([B)I" } : Jvm.MethodName) jdk_52_method_6_code (1 : Nat) (Option.some Jvm.ClassFile.FieldType.int)).before args0 about1 = true := code_word (m := ⟨18, 5⟩) (meth := k18m5) (c := k18c5) (by decide +kernel) rfl rfl rfl (by decide +kernel)
set_option maxRecDepth 65536 in
theorem w_c48 : (Jvm.Cond.code ({ cls := "java/lang/String", name := "checkBoundsOffCount", desc := "(III)I" } : Jvm.MethodName) jdk_42_method_157_code (3 : Nat) (Option.some Jvm.ClassFile.FieldType.int)).before args0 about1 = true := code_word (m := ⟨7, 11⟩) (meth := k7m11) (c := k7c11) (by decide +kernel) rfl rfl rfl (by decide +kernel)
set_option maxRecDepth 65536 in
theorem w_c49 : (Jvm.Cond.code ({ cls := "jdk/internal/util/Preconditions", name := "checkFromIndexSize", desc := "(IIILjava/util/function/BiFunction;)I" } : Jvm.MethodName) jdk_41_method_13_code (4 : Nat) (Option.some Jvm.ClassFile.FieldType.int)).before args0 about1 = true := code_word (m := ⟨17, 2⟩) (meth := k17m2) (c := k17c2) (by decide +kernel) rfl rfl rfl (by decide +kernel)
set_option maxRecDepth 65536 in
theorem w_c50 : (Jvm.Cond.code ({ cls := "java/lang/StringUTF16", name := "charAt", desc := "([BI)C" } : Jvm.MethodName) jdk_52_method_83_code (2 : Nat) (Option.some Jvm.ClassFile.FieldType.char)).before args0 about1 = true := code_word (m := ⟨18, 10⟩) (meth := k18m10) (c := k18c10) (by decide +kernel) rfl rfl rfl (by decide +kernel)
set_option maxRecDepth 65536 in
theorem w_c51 : (Jvm.Cond.code ({ cls := "java/lang/StringUTF16", name := "checkIndex", desc := "(I[B)V" } : Jvm.MethodName) jdk_52_method_91_code (2 : Nat) (Option.none : Option Jvm.ClassFile.FieldType)).before args0 about1 = true := code_word (m := ⟨18, 12⟩) (meth := k18m12) (c := k18c12) (by decide +kernel) rfl rfl rfl (by decide +kernel)
def codes1 : List Jvm.Cond := [Jvm.Cond.code x code maxLocals ret, Jvm.Cond.code ({ cls := "java/lang/String", name := "<init>", desc := "([C)V" } : Jvm.MethodName) jdk_42_method_3_code (2 : Nat) (Option.none : Option Jvm.ClassFile.FieldType), Jvm.Cond.code ({ cls := "java/lang/String", name := "<init>", desc := "([CIILjava/lang/Void;)V" } : Jvm.MethodName) jdk_42_method_149_code (6 : Nat) (Option.none : Option Jvm.ClassFile.FieldType), Jvm.Cond.code ({ cls := "java/lang/Object", name := "<init>", desc := "()V" } : Jvm.MethodName) object_method_1_code (1 : Nat) (Option.none : Option Jvm.ClassFile.FieldType), Jvm.Cond.code ({ cls := "com/example/wegweiser/wegweiser/directory/Author", name := "client", desc := "(Ljava/lang/String;)Lcom/example/wegweiser/wegweiser/directory/Author;" } : Jvm.MethodName) prog_6_method_2_code (1 : Nat) (Option.some (Jvm.ClassFile.FieldType.object "com/example/wegweiser/wegweiser/directory/Author")), Jvm.Cond.code ({ cls := "java/util/Objects", name := "requireNonNull", desc := "(Ljava/lang/Object;)Ljava/lang/Object;" } : Jvm.MethodName) jdk_31_method_10_code (1 : Nat) (Option.some (Jvm.ClassFile.FieldType.object "java/lang/Object")), Jvm.Cond.code ({ cls := "com/example/wegweiser/wegweiser/directory/Author", name := "<init>", desc := "(Ljava/lang/String;)V" } : Jvm.MethodName) prog_6_method_1_code (2 : Nat) (Option.none : Option Jvm.ClassFile.FieldType), Jvm.Cond.code ({ cls := "com/example/wegweiser/wegweiser/directory/Author", name := "toString", desc := "()Ljava/lang/String;" } : Jvm.MethodName) prog_6_method_4_code (1 : Nat) (Option.some (Jvm.ClassFile.FieldType.object "java/lang/String")), Jvm.Cond.code ({ cls := "java/lang/StringBuilder", name := "<init>", desc := "()V" } : Jvm.MethodName) jdk_67_method_1_code (1 : Nat) (Option.none : Option Jvm.ClassFile.FieldType), Jvm.Cond.code ({ cls := "java/lang/AbstractStringBuilder", name := "<init>", desc := "(I)V" } : Jvm.MethodName) jdk_68_method_2_code (2 : Nat) (Option.none : Option Jvm.ClassFile.FieldType), Jvm.Cond.code ({ cls := "java/lang/StringBuilder", name := "append", desc := "(Ljava/lang/String;)Ljava/lang/StringBuilder;" } : Jvm.MethodName) jdk_67_method_7_code (2 : Nat) (Option.some (Jvm.ClassFile.FieldType.object "java/lang/StringBuilder")), Jvm.Cond.code ({ cls := "java/lang/AbstractStringBuilder", name := "append", desc := "(Ljava/lang/String;)Ljava/lang/AbstractStringBuilder;" } : Jvm.MethodName) jdk_68_method_22_code (3 : Nat) (Option.some (Jvm.ClassFile.FieldType.object "java/lang/AbstractStringBuilder")), Jvm.Cond.code ({ cls := "java/lang/String", name := "length", desc := "()I" } : Jvm.MethodName) jdk_42_method_54_code (1 : Nat) (Option.some Jvm.ClassFile.FieldType.int), Jvm.Cond.code ({ cls := "java/lang/String", name := "coder", desc := "()B" } : Jvm.MethodName) jdk_42_method_152_code (1 : Nat) (Option.some Jvm.ClassFile.FieldType.byte), Jvm.Cond.code ({ cls := "java/lang/AbstractStringBuilder", name := "ensureCapacityInternal", desc := "(I)V" } : Jvm.MethodName) jdk_68_method_9_code (3 : Nat) (Option.none : Option Jvm.ClassFile.FieldType), Jvm.Cond.code ({ cls := "java/lang/AbstractStringBuilder", name := "putStringAt", desc := "(ILjava/lang/String;)V" } : Jvm.MethodName) jdk_68_method_73_code (3 : Nat) (Option.none : Option Jvm.ClassFile.FieldType), Jvm.Cond.code ({ cls := "java/lang/AbstractStringBuilder", name := "inflateIfNeededFor", desc := "(Ljava/lang/String;)V" } : Jvm.MethodName) jdk_68_method_71_code (2 : Nat) (Option.none : Option Jvm.ClassFile.FieldType), Jvm.Cond.code ({ cls := "java/lang/String", name := "getBytes", desc := "([BIB)V" } : Jvm.MethodName) jdk_42_method_147_code (4 : Nat) (Option.none : Option Jvm.ClassFile.FieldType), Jvm.Cond.code ({ cls := "java/lang/StringBuilder", name := "toString", desc := "()Ljava/lang/String;" } : Jvm.MethodName) jdk_67_method_42_code (1 : Nat) (Option.some (Jvm.ClassFile.FieldType.object "java/lang/String")), Jvm.Cond.code ({ cls := "java/lang/String", name := "<init>", desc := "(Ljava/lang/StringBuilder;)V" } : Jvm.MethodName) jdk_42_method_53_code (2 : Nat) (Option.none : Option Jvm.ClassFile.FieldType), Jvm.Cond.code ({ cls := "java/lang/String", name := "<init>", desc := "(Ljava/lang/AbstractStringBuilder;Ljava/lang/Void;)V" } : Jvm.MethodName) jdk_42_method_150_code (5 : Nat) (Option.none : Option Jvm.ClassFile.FieldType), Jvm.Cond.code ({ cls := "java/lang/AbstractStringBuilder", name := "getValue", desc := "()[B" } : Jvm.MethodName) jdk_68_method_64_code (1 : Nat) (Option.some (Jvm.ClassFile.FieldType.array Jvm.ClassFile.FieldType.byte)), Jvm.Cond.code ({ cls := "java/lang/StringBuilder", name := "length", desc := "()I" } : Jvm.MethodName) jdk_67_method_93_code (1 : Nat) (Option.some Jvm.ClassFile.FieldType.int), Jvm.Cond.code ({ cls := "java/lang/AbstractStringBuilder", name := "length", desc := "()I" } : Jvm.MethodName) jdk_68_method_6_code (1 : Nat) (Option.some Jvm.ClassFile.FieldType.int), Jvm.Cond.code ({ cls := "java/lang/AbstractStringBuilder", name := "isLatin1", desc := "()Z" } : Jvm.MethodName) jdk_68_method_68_code (1 : Nat) (Option.some Jvm.ClassFile.FieldType.boolean), Jvm.Cond.code ({ cls := "java/util/Arrays", name := "copyOfRange", desc := "([BII)[B" } : Jvm.MethodName) jdk_65_method_132_code (3 : Nat) (Option.some (Jvm.ClassFile.FieldType.array Jvm.ClassFile.FieldType.byte)), Jvm.Cond.code ({ cls := "java/util/Arrays", name := "copyOfRangeByte", desc := "([BII)[B" } : Jvm.MethodName) jdk_65_method_133_code (5 : Nat) (Option.some (Jvm.ClassFile.FieldType.array Jvm.ClassFile.FieldType.byte)), Jvm.Cond.code ({ cls := "java/util/Arrays", name := "checkLength", desc := "(II)V" } : Jvm.MethodName) jdk_65_method_131_code (2 : Nat) (Option.none : Option Jvm.ClassFile.FieldType), Jvm.Cond.code ({ cls := "java/lang/Math", name := "min", desc := "(II)I" } : Jvm.MethodName) jdk_29_method_69_code (2 : Nat) (Option.some Jvm.ClassFile.FieldType.int), Jvm.Cond.code ({ cls := "com/example/wegweiser/wegweiser/directory/AuthorClientPinLaw", name := "prefixOk", desc := "(Ljava/lang/String;)Z" } : Jvm.MethodName) method_3_code (2 : Nat) (Option.some Jvm.ClassFile.FieldType.boolean), Jvm.Cond.code ({ cls := "java/lang/String", name := "charAt", desc := "(I)C" } : Jvm.MethodName) jdk_42_method_56_code (2 : Nat) (Option.some Jvm.ClassFile.FieldType.char), Jvm.Cond.code ({ cls := "java/lang/String", name := "isLatin1", desc := "()Z" } : Jvm.MethodName) jdk_42_method_154_code (1 : Nat) (Option.some Jvm.ClassFile.FieldType.boolean), Jvm.Cond.code ({ cls := "java/lang/StringLatin1", name := "charAt", desc := "([BI)C" } : Jvm.MethodName) jdk_43_method_2_code (2 : Nat) (Option.some Jvm.ClassFile.FieldType.char), Jvm.Cond.code ({ cls := "java/lang/String", name := "checkIndex", desc := "(II)V" } : Jvm.MethodName) jdk_42_method_155_code (2 : Nat) (Option.none : Option Jvm.ClassFile.FieldType), Jvm.Cond.code ({ cls := "jdk/internal/util/Preconditions", name := "checkIndex", desc := "(IILjava/util/function/BiFunction;)I" } : Jvm.MethodName) jdk_41_method_11_code (3 : Nat) (Option.some Jvm.ClassFile.FieldType.int), Jvm.Cond.code ({ cls := "java/lang/StringUTF16", name := "compress", desc := "([CII)[B" } : Jvm.MethodName) jdk_52_method_16_code (6 : Nat) (Option.some (Jvm.ClassFile.FieldType.array Jvm.ClassFile.FieldType.byte)), Jvm.Cond.code ({ cls := "java/lang/StringUTF16", name := "compress", desc := "([CI[BII)I" } : Jvm.MethodName) jdk_52_method_21_code (7 : Nat) (Option.some Jvm.ClassFile.FieldType.int), Jvm.Cond.code ({ cls := "java/lang/StringUTF16", name := "coderFromArrayLen", desc := "([BI)B" } : Jvm.MethodName) jdk_52_method_15_code (2 : Nat) (Option.some Jvm.ClassFile.FieldType.byte), Jvm.Cond.code ({ cls := "java/lang/StringUTF16", name := "toBytes", desc := "([CII)[B" } : Jvm.MethodName) jdk_52_method_14_code (5 : Nat) (Option.some (Jvm.ClassFile.FieldType.array Jvm.ClassFile.FieldType.byte)), Jvm.Cond.code ({ cls := "java/lang/StringUTF16", name := "newBytesFor", desc := "(I)[B" } : Jvm.MethodName) jdk_52_method_2_code (1 : Nat) (Option.some (Jvm.ClassFile.FieldType.array Jvm.ClassFile.FieldType.byte)), Jvm.Cond.code ({ cls := "java/lang/StringUTF16", name := "newBytesLength", desc := "(I)I" } : Jvm.MethodName) jdk_52_method_3_code (1 : Nat) (Option.some Jvm.ClassFile.FieldType.int), Jvm.Cond.code ({ cls := "java/lang/StringUTF16", name := "putChar", desc := "([BII)V" } : Jvm.MethodName) jdk_52_method_4_code (3 : Nat) (Option.none : Option Jvm.ClassFile.FieldType), Jvm.Cond.code ({ cls := "java/lang/StringUTF16", name := "getChar", desc := "([BI)C" } : Jvm.MethodName) jdk_52_method_5_code (2 : Nat) (Option.some Jvm.ClassFile.FieldType.char), Jvm.Cond.code ({ cls := "java/lang/AbstractStringBuilder", name := "inflate", desc := "()V" } : Jvm.MethodName) jdk_68_method_11_code (2 : Nat) (Option.none : Option Jvm.ClassFile.FieldType), Jvm.Cond.code ({ cls := "java/lang/StringLatin1", name := "inflate", desc := "([BI[BII)V" } : Jvm.MethodName) jdk_43_method_50_code (5 : Nat) (Option.none : Option Jvm.ClassFile.FieldType), Jvm.Cond.code ({ cls := "java/lang/StringUTF16", name := "inflate", desc := "([BI[BII)V" } : Jvm.MethodName) jdk_52_method_86_code (6 : Nat) (Option.none : Option Jvm.ClassFile.FieldType), Jvm.Cond.code ({ cls := "java/lang/StringUTF16", name := "checkBoundsOffCount", desc := "(II[B)V" } : Jvm.MethodName) jdk_52_method_94_code (3 : Nat) (Option.none : Option Jvm.ClassFile.FieldType), Jvm.Cond.code ({ cls := "java/lang/StringUTF16", name := "length", desc := "([B)I" } : Jvm.MethodName) jdk_52_method_6_code (1 : Nat) (Option.some Jvm.ClassFile.FieldType.int), Jvm.Cond.code ({ cls := "java/lang/String", name := "checkBoundsOffCount", desc := "(III)I" } : Jvm.MethodName) jdk_42_method_157_code (3 : Nat) (Option.some Jvm.ClassFile.FieldType.int), Jvm.Cond.code ({ cls := "jdk/internal/util/Preconditions", name := "checkFromIndexSize", desc := "(IIILjava/util/function/BiFunction;)I" } : Jvm.MethodName) jdk_41_method_13_code (4 : Nat) (Option.some Jvm.ClassFile.FieldType.int), Jvm.Cond.code ({ cls := "java/lang/StringUTF16", name := "charAt", desc := "([BI)C" } : Jvm.MethodName) jdk_52_method_83_code (2 : Nat) (Option.some Jvm.ClassFile.FieldType.char), Jvm.Cond.code ({ cls := "java/lang/StringUTF16", name := "checkIndex", desc := "(I[B)V" } : Jvm.MethodName) jdk_52_method_91_code (2 : Nat) (Option.none : Option Jvm.ClassFile.FieldType)]
set_option maxRecDepth 65536 in
theorem codes_eq : words1.filter isCode = codes1 := rfl
theorem w_codes : ∀ c ∈ words1.filter isCode, c.before args0 about1 = true := by
  rw [codes_eq]
  intro c hc
  simp only [codes1, List.mem_cons, List.not_mem_nil, or_false] at hc
  rcases hc with rfl | rfl | rfl | rfl | rfl | rfl | rfl | rfl | rfl | rfl | rfl | rfl | rfl | rfl | rfl | rfl | rfl | rfl | rfl | rfl | rfl | rfl | rfl | rfl | rfl | rfl | rfl | rfl | rfl | rfl | rfl | rfl | rfl | rfl | rfl | rfl | rfl | rfl | rfl | rfl | rfl | rfl | rfl | rfl | rfl | rfl | rfl | rfl | rfl | rfl | rfl | rfl
  · exact w_c0
  · exact w_c1
  · exact w_c2
  · exact w_c3
  · exact w_c4
  · exact w_c5
  · exact w_c6
  · exact w_c7
  · exact w_c8
  · exact w_c9
  · exact w_c10
  · exact w_c11
  · exact w_c12
  · exact w_c13
  · exact w_c14
  · exact w_c15
  · exact w_c16
  · exact w_c17
  · exact w_c18
  · exact w_c19
  · exact w_c20
  · exact w_c21
  · exact w_c22
  · exact w_c23
  · exact w_c24
  · exact w_c25
  · exact w_c26
  · exact w_c27
  · exact w_c28
  · exact w_c29
  · exact w_c30
  · exact w_c31
  · exact w_c32
  · exact w_c33
  · exact w_c34
  · exact w_c35
  · exact w_c36
  · exact w_c37
  · exact w_c38
  · exact w_c39
  · exact w_c40
  · exact w_c41
  · exact w_c42
  · exact w_c43
  · exact w_c44
  · exact w_c45
  · exact w_c46
  · exact w_c47
  · exact w_c48
  · exact w_c49
  · exact w_c50
  · exact w_c51
set_option maxRecDepth 65536 in
theorem w_t1 : (words1.take 24).all (fun c => isCode c || c.before args0 about1) = true := by decide +kernel
set_option maxRecDepth 65536 in
theorem w_t2 : ((words1.drop 24).take 24).all (fun c => isCode c || c.before args0 about1) = true := by decide +kernel
set_option maxRecDepth 65536 in
theorem w_t3 : (((words1.drop 24).drop 24).take 24).all (fun c => isCode c || c.before args0 about1) = true := by decide +kernel
set_option maxRecDepth 65536 in
theorem w_t4 : ((((words1.drop 24).drop 24).drop 24).take 24).all (fun c => isCode c || c.before args0 about1) = true := by decide +kernel
set_option maxRecDepth 65536 in
theorem w_t5 : (((((words1.drop 24).drop 24).drop 24).drop 24).take 24).all (fun c => isCode c || c.before args0 about1) = true := by decide +kernel
set_option maxRecDepth 65536 in
theorem w_t6 : ((((((words1.drop 24).drop 24).drop 24).drop 24).drop 24).take 24).all (fun c => isCode c || c.before args0 about1) = true := by decide +kernel
set_option maxRecDepth 65536 in
theorem w_t7 : (((((((words1.drop 24).drop 24).drop 24).drop 24).drop 24).drop 24).take 24).all (fun c => isCode c || c.before args0 about1) = true := by decide +kernel
set_option maxRecDepth 65536 in
theorem w_t8 : ((((((((words1.drop 24).drop 24).drop 24).drop 24).drop 24).drop 24).drop 24).take 24).all (fun c => isCode c || c.before args0 about1) = true := by decide +kernel
set_option maxRecDepth 65536 in
theorem w_t9 : (((((((((words1.drop 24).drop 24).drop 24).drop 24).drop 24).drop 24).drop 24).drop 24).take 24).all (fun c => isCode c || c.before args0 about1) = true := by decide +kernel
set_option maxRecDepth 65536 in
theorem w_t10 : ((((((((((words1.drop 24).drop 24).drop 24).drop 24).drop 24).drop 24).drop 24).drop 24).drop 24).take 24).all (fun c => isCode c || c.before args0 about1) = true := by decide +kernel
set_option maxRecDepth 65536 in
theorem w_t11 : ((((((((((words1.drop 24).drop 24).drop 24).drop 24).drop 24).drop 24).drop 24).drop 24).drop 24).drop 24).all (fun c => isCode c || c.before args0 about1) = true := by decide +kernel
theorem w_tables : (allAtoms (Jvm.Cond.code x code maxLocals ret :: tables_1)).before args0 about1 = true := by
  rw [allAtoms_all]
  show words1.all (fun c => c.before args0 about1) = true
  refine all_split ?_ w_codes
  rw [← List.take_append_drop 24 words1, List.all_append, w_t1, ← List.take_append_drop 24 (words1.drop 24), List.all_append, w_t2, ← List.take_append_drop 24 ((words1.drop 24).drop 24), List.all_append, w_t3, ← List.take_append_drop 24 (((words1.drop 24).drop 24).drop 24), List.all_append, w_t4, ← List.take_append_drop 24 ((((words1.drop 24).drop 24).drop 24).drop 24), List.all_append, w_t5, ← List.take_append_drop 24 (((((words1.drop 24).drop 24).drop 24).drop 24).drop 24), List.all_append, w_t6, ← List.take_append_drop 24 ((((((words1.drop 24).drop 24).drop 24).drop 24).drop 24).drop 24), List.all_append, w_t7, ← List.take_append_drop 24 (((((((words1.drop 24).drop 24).drop 24).drop 24).drop 24).drop 24).drop 24), List.all_append, w_t8, ← List.take_append_drop 24 ((((((((words1.drop 24).drop 24).drop 24).drop 24).drop 24).drop 24).drop 24).drop 24), List.all_append, w_t9, ← List.take_append_drop 24 (((((((((words1.drop 24).drop 24).drop 24).drop 24).drop 24).drop 24).drop 24).drop 24).drop 24), List.all_append, w_t10, w_t11]
  rfl
set_option maxRecDepth 65536 in
theorem w_rest : rest_1_c.before args0 about1 = true := by decide +kernel
set_option maxRecDepth 65536 in
theorem w_case : (Jvm.Cond.and given_1 narrow_1).before args0 about1 = true := by decide +kernel
set_option maxRecDepth 65536 in
theorem w_consts : constsHeld consts_1 about1 := Jvm.Lit.constsHeldB_iff.mp (by decide +kernel)
theorem w_applies : (headSpec (Jvm.Cond.code x code maxLocals ret :: tables_1) room_1).applies x e0.platform about1 = true :=
  (Spec.applies_iff w_frames).mpr ⟨w_running, w_runnable, w_alone, w_named, w_hears, w_ripe, w_room, w_tables⟩
theorem atStart : AtStart classFile x code maxLocals ret World_1 tables_1 room_1 Calls_1 rest_1 Pre_1 launch0 p0 e0 about1 theMethod args0 below0 :=
  ⟨lists_1, trivial, launch0.admits_env _ _ _, launch0.least_env, fairChoices_fair.cas, fairChoices_fair.clock, w_frames, w_args, w_heap, w_applies, ⟨w_consts, trivial⟩, w_rest, w_case⟩
end start1
theorem witness_1 : WitnessClaimed_1 := ⟨start1.p0, start1.e0, start1.about1, start1.theMethod, start1.args0, start1.below0, start1.atStart⟩
end Jvm.Pilot.@@N@@
