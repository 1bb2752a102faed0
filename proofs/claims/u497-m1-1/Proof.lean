import JvmDerived
import JvmDerived.Pilot.@@N@@Statement
import JvmDerived.Pilot.@@N@@Code
set_option linter.unusedVariables false
set_option linter.unusedSimpArgs false
namespace Jvm.Pilot.@@N@@
open Jvm Jvm.ClassFile Sem Op Lib Jvm.Free Jvm.Stand Jvm.LawKit Jvm.RoadKit Bundle Jvm.Pilot.@@N@@.Jvm.D
/-! OWN KIT: a small forward machine over the library's Stand: one fact a point of the walk (OAt), one law a step, a contract a method (OCon). -/
abbrev Gx : Type := Launch × State × Array Value × List (String × Nat) × Nat
abbrev Gx.l (G : Gx) : Launch := G.1
abbrev Gx.Z (G : Gx) : State := G.2.1
abbrev Gx.a0 (G : Gx) : Array Value := G.2.2.1
abbrev Gx.EL (G : Gx) : List (String × Nat) := G.2.2.2.1
abbrev Gx.n0 (G : Gx) : Nat := G.2.2.2.2
abbrev Kx : Type := Program × Env × State × MethodId × Array Value × List Frame × Method × Code × State
abbrev Kx.p (K : Kx) : Program := K.1
abbrev Kx.e (K : Kx) : Env := K.2.1
abbrev Kx.s (K : Kx) : State := K.2.2.1
abbrev Kx.m (K : Kx) : MethodId := K.2.2.2.1
abbrev Kx.args (K : Kx) : Array Value := K.2.2.2.2.1
abbrev Kx.below (K : Kx) : List Frame := K.2.2.2.2.2.1
abbrev Kx.meth (K : Kx) : Method := K.2.2.2.2.2.2.1
abbrev Kx.c (K : Kx) : Code := K.2.2.2.2.2.2.2.1
abbrev Kx.s0 (K : Kx) : State := K.2.2.2.2.2.2.2.2
abbrev Mx : Type := ByteArray × String × Option FieldType × String × Nat × Room
abbrev Mx.b (M : Mx) : ByteArray := M.1
abbrev Mx.own (M : Mx) : String := M.2.1
abbrev Mx.rt (M : Mx) : Option FieldType := M.2.2.1
abbrev Mx.nm (M : Mx) : String := M.2.2.2.1
abbrev Mx.ml (M : Mx) : Nat := M.2.2.2.2.1
abbrev Mx.R (M : Mx) : Room := M.2.2.2.2.2
/-- the word w of the sheet holds at the law's start -/
abbrev OW (G : Gx) (w : Jvm.Cond) : Prop := w.before G.a0 G.Z = true
/-- what may be written: it is there, and no literal's cell -/
abbrev OSafe (G : Gx) (vm : Vm) (h : Heap) (x : Addr) : Prop := x < h.size ∧ Safe G.Z G.EL vm h x
def OOk (G : Gx) (K : Kx) (M : Mx) : Prop := K.p.tables.exec = Jvm.exec ∧ K.c.code = M.b ∧ K.meth.sig.returnType = M.rt ∧ K.meth.locks = false ∧ K.meth.name = M.nm ∧ K.c.maxLocals = M.ml ∧ EW G.Z G.a0 G.EL
def OAt (G : Gx) (K : Kx) (M : Mx) (A : List Addr) (cs sl : Nat) (h : Heap) (pc : Nat) (L : Array Slot) (S : List Value) : Prop :=
  OOk G K M ∧ ∃ (vm0 : Vm) (k0 : Nat) (T : State) (locs : List Loc), Stand K.p G.l K.e M.R (K.s.setVm vm0) K.m K.args K.below K.meth K.c T locs cs sl ∧ T.heap = h ∧ K.s.Since vm0 k0 ∧ k0 ≤ h.size ∧ G.Z.Warmed39 (K.s.setVm vm0).vm ∧ (K.s.setVm vm0).vm.findClass M.own = some K.m.cls ∧
    CHr G.Z G.EL K.s.vm K.s.heap vm0 h ∧ (∀ x ∈ A, OSafe G vm0 h x) ∧ Fr G.n0 locs ∧ Old G.Z G.n0 h ∧ Steps K.p.tables K.e K.below K.s0 (T.setTop (mkF K.m pc L S))
/-- the invocation ends: it returns v, and Q v h' sf of the heap then (sf: what may be written) -/
def ODone (G : Gx) (K : Kx) (rm : Room) (Q : Option Value → Heap → (Addr → Prop) → Prop) : Prop :=
  ∃ s₂ o, Steps K.p.tables K.e K.below K.s0 s₂ ∧ s₂.status = .running ∧ Ended s₂ K.below o ∧ ∃ v L, o = .returned v ∧ Q v s₂.heap (OSafe G s₂.vm s₂.heap) ∧ Fr G.n0 L ∧ Old G.Z G.n0 s₂.heap ∧ CHr G.Z G.EL K.s.vm K.s.heap s₂.vm s₂.heap ∧ ReturnedEndW K.s o s₂ L rm.cells rm.slots
/-- a method's contract: called with the values as over the heap h it returns, and Q -/
def OCon (G : Gx) (y : MethodName) (B : ByteArray) (ml : Nat) (rt : Option FieldType) (ws : List Jvm.Cond) (rm : Room) (as : Array Value) (A : List Addr) (h : Heap) (Q : Option Value → Heap → (Addr → Prop) → Prop) : Prop :=
  MetFree G.l y (head1 (Jvm.Cond.code y B ml rt :: ws) rm) (fun a U => a = as ∧ G.Z.Warmed39 U.vm ∧ U.heap = h ∧ CHv G.Z G.EL U.vm h ∧ (∀ x ∈ A, OSafe G U.vm h x) ∧ Old G.Z G.n0 h) (fun _ _ _ _ _ => True)
    (fun _ U o U' => ∃ v L, o = .returned v ∧ Q v U'.heap (OSafe G U'.vm U'.heap) ∧ Fr G.n0 L ∧ Old G.Z G.n0 U'.heap ∧ CHr G.Z G.EL U.vm U.heap U'.vm U'.heap ∧ ReturnedEndW U o U' L rm.cells rm.slots)
/-- y's class is no interface, in whatever tables the run has -/
abbrev ONf (G : Gx) (y : MethodName) : Prop := ∀ s : State, G.Z.Warmed39 s.vm → NotFace s y
theorem own_nf {G : Gx} {y : MethodName} {C : String} (w : OW G (Jvm.Cond.selects C y y)) : ONf G y := fun s hZ => notFace_of_selects (args := #[]) (mvT hZ w)
theorem own_nfs {G : Gx} {y : MethodName} {C : String} (w : OW G (Jvm.Cond.superclass y.cls C)) : ONf G y := fun s hZ => nf_super (args := #[]) (mvT hZ w)
section Machine
variable {G : Gx} {K : Kx} {M : Mx} {A : List Addr} {cs sl : Nat} {h : Heap} {pc : Nat} {L : Array Slot} {S : List Value}
/-- the common form of what a step law is handed -/
abbrev OSt (G : Gx) (K : Kx) (M : Mx) (cs sl : Nat) (h : Heap) (vm0 : Vm) (T : State) (locs : List Loc) : Prop := Stand K.p G.l K.e M.R (K.s.setVm vm0) K.m K.args K.below K.meth K.c T locs cs sl
theorem OAt.pure {pc' : Nat} {L' : Array Slot} {S' : List Value} (c : OAt G K M A cs sl h pc L S)
    (f : ∀ vm0 T locs, OSt G K M cs sl h vm0 T locs → T.heap = h → K.p.tables.exec = Jvm.exec → K.c.code = M.b → G.Z.Warmed39 (K.s.setVm vm0).vm → (K.s.setVm vm0).vm.findClass M.own = some K.m.cls → Old G.Z G.n0 h →
      ∃ T', OSt G K M cs sl h vm0 T' locs ∧ T'.heap = h ∧ ∀ target, Steps K.p.tables K.e K.below (T'.setTop (mkF K.m pc' L' S')) target → Steps K.p.tables K.e K.below (T.setTop (mkF K.m pc L S)) target) : OAt G K M A cs sl h pc' L' S' := by
  obtain ⟨ok, vm0, k0, T, locs, X, hT, hS, hk, hZ, hown, hC, hA, hF, hO, st⟩ := c
  obtain ⟨T', X', hT', f'⟩ := f vm0 T locs X hT ok.1 ok.2.1 hZ hown hO
  exact ⟨ok, vm0, k0, T', locs, X', hT', hS, hk, hZ, hown, hC, hA, hF, hO, st.trans (f' _ (Steps.refl _))⟩
theorem OAt.grow {pc' : Nat} {L' : Array Slot} {S' : List Value} {cs' sl' : Nat} {P : Heap → Prop} (c : OAt G K M A cs sl h pc L S)
    (f : ∀ vm0 T locs, OSt G K M cs sl h vm0 T locs → T.heap = h → K.p.tables.exec = Jvm.exec → K.c.code = M.b → G.Z.Warmed39 (K.s.setVm vm0).vm → (K.s.setVm vm0).vm.findClass M.own = some K.m.cls → 
      ∃ T' h', OSt G K M cs' sl' h vm0 T' locs ∧ T'.heap = h' ∧ Ext h h' ∧ h.size < h'.size ∧ P h' ∧ ∀ target, Steps K.p.tables K.e K.below (T'.setTop (mkF K.m pc' L' S')) target → Steps K.p.tables K.e K.below (T.setTop (mkF K.m pc L S)) target) :
    ∃ h', Ext h h' ∧ G.n0 ≤ h.size ∧ P h' ∧ OAt G K M (h.size :: A) cs' sl' h' pc' L' S' := by
  obtain ⟨ok, vm0, k0, T, locs, X, hT, hS, hk, hZ, hown, hC, hA, hF, hO, st⟩ := c
  obtain ⟨T', h', X', hT', E, hlt, hP, f'⟩ := f vm0 T locs X hT ok.1 ok.2.1 hZ hown
  refine ⟨h', E, by rw [← hO.1]; exact hO.2.1, hP, ok, vm0, k0, T', locs, X', hT', hS, Nat.le_trans hk E.1, hZ, hown, hC.trans (CHr.ext E hC.1), fun x hx => ?_, hF, hO.ext E, st.trans (f' _ (Steps.refl _))⟩
  rcases List.mem_cons.mp hx with rfl | hx
  · exact ⟨hlt, Safe.ext E hC.1 (Safe.new (Nat.le_refl _))⟩
  · exact ⟨Nat.lt_of_lt_of_le (hA x hx).1 E.1, Safe.ext E hC.1 (hA x hx).2⟩
theorem OAt.write {pc' : Nat} {L' : Array Slot} {S' : List Value} {a : Addr} {i : Nat} {v : Value} (c : OAt G K M A cs sl h pc L S) (hn : G.n0 ≤ a) (hs : ∀ vm0, G.Z.vm.Alike vm0 → (∀ x ∈ A, OSafe G vm0 h x) → Safe G.Z G.EL vm0 h a)
    (f : ∀ vm0 T locs, OSt G K M cs sl h vm0 T locs → T.heap = h → K.p.tables.exec = Jvm.exec → K.c.code = M.b → G.Z.Warmed39 (K.s.setVm vm0).vm → (K.s.setVm vm0).vm.findClass M.own = some K.m.cls → K.meth.name = M.nm →
      ∃ T' h', OSt G K M cs sl h vm0 T' (locs ++ [⟨a, i⟩]) ∧ T'.heap = h' ∧ Wr h h' a i v ∧ ∀ target, Steps K.p.tables K.e K.below (T'.setTop (mkF K.m pc' L' S')) target → Steps K.p.tables K.e K.below (T.setTop (mkF K.m pc L S)) target) :
    ∃ h', Wr h h' a i v ∧ OAt G K M A cs sl h' pc' L' S' := by
  obtain ⟨ok, vm0, k0, T, locs, X, hT, hS, hk, hZ, hown, hC, hA, hF, hO, st⟩ := c
  obtain ⟨T', h', X', hT', W, f'⟩ := f vm0 T locs X hT ok.1 ok.2.1 hZ hown ok.2.2.2.2.1
  have S' := hs vm0 hZ.alike hA
  refine ⟨h', W, ok, vm0, k0, T', _, X', hT', hS, by rw [W.size]; exact hk, hZ, hown, hC.trans (CHr.wr W S' hC.1), fun x hx => ⟨by rw [W.size]; exact (hA x hx).1, Safe.wr W S' hC.1 (hA x hx).2⟩, hF.app fun y hy => ?_, hO.wr W hn, st.trans (f' _ (Steps.refl _))⟩
  cases List.mem_singleton.mp hy; exact hn
/-- more room may be booked -/
theorem OAt.more {cs' sl' : Nat} (c : OAt G K M A cs sl h pc L S) (h1 : cs ≤ cs') (h2 : sl ≤ sl') : OAt G K M A cs' sl' h pc L S := by
  obtain ⟨ok, vm0, k0, T, locs, X, r⟩ := c
  exact ⟨ok, vm0, k0, T, locs, X.more h1 h2, r⟩
theorem OAt.drop {A' : List Addr} (c : OAt G K M A cs sl h pc L S) (hA : ∀ x ∈ A', x ∈ A) : OAt G K M A' cs sl h pc L S := by
  obtain ⟨ok, vm0, k0, T, locs, X, hT, hS, hk, hZ, hown, hC, hA', r⟩ := c
  exact ⟨ok, vm0, k0, T, locs, X, hT, hS, hk, hZ, hown, hC, fun x hx => hA' x (hA x hx), r⟩
theorem OAt.old (c : OAt G K M A cs sl h pc L S) : Old G.Z G.n0 h := by
  obtain ⟨ok, vm0, k0, T, locs, X, hT, hS, hk, hZ, hown, hC, hA, hF, hO, st⟩ := c
  exact hO
theorem OAt.n0le (c : OAt G K M A cs sl h pc L S) : G.n0 ≤ h.size := by rw [← c.old.1]; exact c.old.2.1
end Machine
section Plain
variable {G : Gx} {K : Kx} {M : Mx} {A : List Addr} {cs sl : Nat} {h : Heap} {pc : Nat} {L : Array Slot}
theorem OAt.iload {S : List Value} {k : Nat} {v : Int32} (c : OAt G K M A cs sl h pc L (S)) (pc' : Nat) (hd : decode M.b pc = .ok (.iload k, 2)) (hl : L[k]? = some (.val (.int v))) (hp : pc + 2 = pc' := by rfl) : OAt G K M A cs sl h pc' L (.int v :: S) := by
  subst hp
  exact c.pure fun vm0 T locs X hT hx hb hZ hown hO => ⟨T, X, hT, fun t r => XS.iload X.here hx rfl (Jvm.hb hb hd) hl r⟩
theorem OAt.iloadN {S : List Value} {k : Fin 4} {v : Int32} (c : OAt G K M A cs sl h pc L (S)) (pc' : Nat) (hd : decode M.b pc = .ok (.iload_n k, 1)) (hl : L[k.val]? = some (.val (.int v))) (hp : pc + 1 = pc' := by rfl) : OAt G K M A cs sl h pc' L (.int v :: S) := by
  subst hp
  exact c.pure fun vm0 T locs X hT hx hb hZ hown hO => ⟨T, X, hT, fun t r => XS.iloadN X.here hx rfl (Jvm.hb hb hd) hl r⟩
theorem OAt.lload {S : List Value} {k : Nat} {v : Int64} (c : OAt G K M A cs sl h pc L (S)) (pc' : Nat) (hd : decode M.b pc = .ok (.lload k, 2)) (hl : L[k]? = some (.val (.long v))) (hp : pc + 2 = pc' := by rfl) : OAt G K M A cs sl h pc' L (.long v :: S) := by
  subst hp
  exact c.pure fun vm0 T locs X hT hx hb hZ hown hO => ⟨T, X, hT, fun t r => Jvm.Free.XT.lload X.here hx rfl (Jvm.hb hb hd) hl r⟩
theorem OAt.lloadN {S : List Value} {k : Fin 4} {v : Int64} (c : OAt G K M A cs sl h pc L (S)) (pc' : Nat) (hd : decode M.b pc = .ok (.lload_n k, 1)) (hl : L[k.val]? = some (.val (.long v))) (hp : pc + 1 = pc' := by rfl) : OAt G K M A cs sl h pc' L (.long v :: S) := by
  subst hp
  exact c.pure fun vm0 T locs X hT hx hb hZ hown hO => ⟨T, X, hT, fun t r => Jvm.Free.XT.lloadN X.here hx rfl (Jvm.hb hb hd) hl r⟩
theorem OAt.aload {S : List Value} {k : Nat} {v : Value} (c : OAt G K M A cs sl h pc L (S)) (pc' : Nat) (hd : decode M.b pc = .ok (.aload k, 2)) (hl : L[k]? = some (.val v)) (hv : v.isRef = true) (hp : pc + 2 = pc' := by rfl) : OAt G K M A cs sl h pc' L (v :: S) := by
  subst hp
  exact c.pure fun vm0 T locs X hT hx hb hZ hown hO => ⟨T, X, hT, fun t r => XS.aload X.here hx rfl (Jvm.hb hb hd) hl hv r⟩
theorem OAt.aloadN {S : List Value} {k : Fin 4} {v : Value} (c : OAt G K M A cs sl h pc L (S)) (pc' : Nat) (hd : decode M.b pc = .ok (.aload_n k, 1)) (hl : L[k.val]? = some (.val v)) (hv : v.isRef = true) (hp : pc + 1 = pc' := by rfl) : OAt G K M A cs sl h pc' L (v :: S) := by
  subst hp
  exact c.pure fun vm0 T locs X hT hx hb hZ hown hO => ⟨T, X, hT, fun t r => XS.aloadN X.here hx rfl (Jvm.hb hb hd) hl hv r⟩
theorem OAt.istore {S : List Value} {k : Nat} {v : Int32} (c : OAt G K M A cs sl h pc L (.int v :: S)) (pc' : Nat) (hd : decode M.b pc = .ok (.istore k, 2)) (L' : Array Slot) (hl : storeLocals L k (.int v) = some L') (hp : pc + 2 = pc' := by rfl) : OAt G K M A cs sl h pc' L' (S) := by
  subst hp
  exact c.pure fun vm0 T locs X hT hx hb hZ hown hO => ⟨T, X, hT, fun t r => XS.istore X.here hx rfl (Jvm.hb hb hd) rfl hl r⟩
theorem OAt.istoreN {S : List Value} {k : Fin 4} {v : Int32} (c : OAt G K M A cs sl h pc L (.int v :: S)) (pc' : Nat) (hd : decode M.b pc = .ok (.istore_n k, 1)) (L' : Array Slot) (hl : storeLocals L k.val (.int v) = some L') (hp : pc + 1 = pc' := by rfl) : OAt G K M A cs sl h pc' L' (S) := by
  subst hp
  exact c.pure fun vm0 T locs X hT hx hb hZ hown hO => ⟨T, X, hT, fun t r => XS.istoreN X.here hx rfl (Jvm.hb hb hd) rfl hl r⟩
theorem OAt.lstore {S : List Value} {k : Nat} {v : Int64} (c : OAt G K M A cs sl h pc L (.long v :: S)) (pc' : Nat) (hd : decode M.b pc = .ok (.lstore k, 2)) (L' : Array Slot) (hl : storeLocals L k (.long v) = some L') (hp : pc + 2 = pc' := by rfl) : OAt G K M A cs sl h pc' L' (S) := by
  subst hp
  exact c.pure fun vm0 T locs X hT hx hb hZ hown hO => ⟨T, X, hT, fun t r => Jvm.Free.XT.lstore X.here hx rfl (Jvm.hb hb hd) rfl hl r⟩
theorem OAt.lstoreN {S : List Value} {k : Fin 4} {v : Int64} (c : OAt G K M A cs sl h pc L (.long v :: S)) (pc' : Nat) (hd : decode M.b pc = .ok (.lstore_n k, 1)) (L' : Array Slot) (hl : storeLocals L k.val (.long v) = some L') (hp : pc + 1 = pc' := by rfl) : OAt G K M A cs sl h pc' L' (S) := by
  subst hp
  exact c.pure fun vm0 T locs X hT hx hb hZ hown hO => ⟨T, X, hT, fun t r => Jvm.Free.XT.lstoreN X.here hx rfl (Jvm.hb hb hd) rfl hl r⟩
theorem OAt.astore {S : List Value} {k : Nat} {v : Value} (c : OAt G K M A cs sl h pc L (v :: S)) (pc' : Nat) (hd : decode M.b pc = .ok (.astore k, 2)) (hv : v.isRef = true) (L' : Array Slot) (hl : storeLocals L k v = some L') (hp : pc + 2 = pc' := by rfl) : OAt G K M A cs sl h pc' L' (S) := by
  subst hp
  exact c.pure fun vm0 T locs X hT hx hb hZ hown hO => ⟨T, X, hT, fun t r => XS.astore X.here hx rfl (Jvm.hb hb hd) rfl hv hl r⟩
theorem OAt.astoreN {S : List Value} {k : Fin 4} {v : Value} (c : OAt G K M A cs sl h pc L (v :: S)) (pc' : Nat) (hd : decode M.b pc = .ok (.astore_n k, 1)) (hv : v.isRef = true) (L' : Array Slot) (hl : storeLocals L k.val v = some L') (hp : pc + 1 = pc' := by rfl) : OAt G K M A cs sl h pc' L' (S) := by
  subst hp
  exact c.pure fun vm0 T locs X hT hx hb hZ hown hO => ⟨T, X, hT, fun t r => XS.astoreN X.here hx rfl (Jvm.hb hb hd) rfl hv hl r⟩
theorem OAt.iconst {S : List Value} {i : Int} (c : OAt G K M A cs sl h pc L (S)) (pc' : Nat) (hd : decode M.b pc = .ok (.iconst i, 1)) (v : Int32) (hv : Int32.ofInt i = v) (hp : pc + 1 = pc' := by rfl) : OAt G K M A cs sl h pc' L (.int v :: S) := by
  subst hp
  exact c.pure fun vm0 T locs X hT hx hb hZ hown hO => ⟨T, X, hT, fun t r => XS.iconst X.here hx rfl (Jvm.hb hb hd) (hv ▸ r)⟩
theorem OAt.bipush {S : List Value} {i : Int} (c : OAt G K M A cs sl h pc L (S)) (pc' : Nat) (hd : decode M.b pc = .ok (.bipush i, 2)) (v : Int32) (hv : (Int8.ofInt i).toInt32 = v) (hp : pc + 2 = pc' := by rfl) : OAt G K M A cs sl h pc' L (.int v :: S) := by
  subst hp
  exact c.pure fun vm0 T locs X hT hx hb hZ hown hO => ⟨T, X, hT, fun t r => XS.bipush X.here hx rfl (Jvm.hb hb hd) (hv ▸ r)⟩
theorem OAt.sipush {S : List Value} {i : Int} (c : OAt G K M A cs sl h pc L (S)) (pc' : Nat) (hd : decode M.b pc = .ok (.sipush i, 3)) (v : Int32) (hv : (Int16.ofInt i).toInt32 = v) (hp : pc + 3 = pc' := by rfl) : OAt G K M A cs sl h pc' L (.int v :: S) := by
  subst hp
  exact c.pure fun vm0 T locs X hT hx hb hZ hown hO => ⟨T, X, hT, fun t r => XS.sipush X.here hx rfl (Jvm.hb hb hd) (hv ▸ r)⟩
theorem OAt.lconst {S : List Value} {i : Fin 2} (c : OAt G K M A cs sl h pc L (S)) (pc' : Nat) (hd : decode M.b pc = .ok (.lconst i, 1)) (v : Int64) (hv : Int64.ofNat i = v) (hp : pc + 1 = pc' := by rfl) : OAt G K M A cs sl h pc' L (.long v :: S) := by
  subst hp
  exact c.pure fun vm0 T locs X hT hx hb hZ hown hO => ⟨T, X, hT, fun t r => Jvm.Free.XT.lconst X.here hx rfl (Jvm.hb hb hd) (hv ▸ r)⟩
theorem OAt.aconstNull {S : List Value}  (c : OAt G K M A cs sl h pc L (S)) (pc' : Nat) (hd : decode M.b pc = .ok (.aconst_null, 1)) (hp : pc + 1 = pc' := by rfl) : OAt G K M A cs sl h pc' L (.null :: S) := by
  subst hp
  exact c.pure fun vm0 T locs X hT hx hb hZ hown hO => ⟨T, X, hT, fun t r => XS.aconstNull X.here hx rfl (Jvm.hb hb hd) r⟩
theorem OAt.iadd {S : List Value} {x y : Int32} (c : OAt G K M A cs sl h pc L (.int y :: .int x :: S)) (pc' : Nat) (hd : decode M.b pc = .ok (.iadd, 1)) (hp : pc + 1 = pc' := by rfl) : OAt G K M A cs sl h pc' L (.int (x + y) :: S) := by
  subst hp
  exact c.pure fun vm0 T locs X hT hx hb hZ hown hO => ⟨T, X, hT, fun t r => XS.iadd X.here hx rfl (Jvm.hb hb hd) rfl r⟩
theorem OAt.isub {S : List Value} {x y : Int32} (c : OAt G K M A cs sl h pc L (.int y :: .int x :: S)) (pc' : Nat) (hd : decode M.b pc = .ok (.isub, 1)) (hp : pc + 1 = pc' := by rfl) : OAt G K M A cs sl h pc' L (.int (x - y) :: S) := by
  subst hp
  exact c.pure fun vm0 T locs X hT hx hb hZ hown hO => ⟨T, X, hT, fun t r => XS.isub X.here hx rfl (Jvm.hb hb hd) rfl r⟩
theorem OAt.imul {S : List Value} {x y : Int32} (c : OAt G K M A cs sl h pc L (.int y :: .int x :: S)) (pc' : Nat) (hd : decode M.b pc = .ok (.imul, 1)) (hp : pc + 1 = pc' := by rfl) : OAt G K M A cs sl h pc' L (.int (x * y) :: S) := by
  subst hp
  exact c.pure fun vm0 T locs X hT hx hb hZ hown hO => ⟨T, X, hT, fun t r => XS.imul X.here hx rfl (Jvm.hb hb hd) rfl r⟩
theorem OAt.iand {S : List Value} {x y : Int32} (c : OAt G K M A cs sl h pc L (.int y :: .int x :: S)) (pc' : Nat) (hd : decode M.b pc = .ok (.iand, 1)) (hp : pc + 1 = pc' := by rfl) : OAt G K M A cs sl h pc' L (.int (x &&& y) :: S) := by
  subst hp
  exact c.pure fun vm0 T locs X hT hx hb hZ hown hO => ⟨T, X, hT, fun t r => XS.iand X.here hx rfl (Jvm.hb hb hd) rfl r⟩
theorem OAt.ior {S : List Value} {x y : Int32} (c : OAt G K M A cs sl h pc L (.int y :: .int x :: S)) (pc' : Nat) (hd : decode M.b pc = .ok (.ior, 1)) (hp : pc + 1 = pc' := by rfl) : OAt G K M A cs sl h pc' L (.int (x ||| y) :: S) := by
  subst hp
  exact c.pure fun vm0 T locs X hT hx hb hZ hown hO => ⟨T, X, hT, fun t r => Jvm.Free.XT.ior X.here hx rfl (Jvm.hb hb hd) rfl r⟩
theorem OAt.ixor {S : List Value} {x y : Int32} (c : OAt G K M A cs sl h pc L (.int y :: .int x :: S)) (pc' : Nat) (hd : decode M.b pc = .ok (.ixor, 1)) (hp : pc + 1 = pc' := by rfl) : OAt G K M A cs sl h pc' L (.int (x ^^^ y) :: S) := by
  subst hp
  exact c.pure fun vm0 T locs X hT hx hb hZ hown hO => ⟨T, X, hT, fun t r => Jvm.Free.XT.ixor X.here hx rfl (Jvm.hb hb hd) rfl r⟩
theorem OAt.ishl {S : List Value} {x y : Int32} (c : OAt G K M A cs sl h pc L (.int y :: .int x :: S)) (pc' : Nat) (hd : decode M.b pc = .ok (.ishl, 1)) (hp : pc + 1 = pc' := by rfl) : OAt G K M A cs sl h pc' L (.int (x <<< (y &&& 31)) :: S) := by
  subst hp
  exact c.pure fun vm0 T locs X hT hx hb hZ hown hO => ⟨T, X, hT, fun t r => Jvm.Free.XT.ishl X.here hx rfl (Jvm.hb hb hd) rfl r⟩
theorem OAt.ishr {S : List Value} {x y : Int32} (c : OAt G K M A cs sl h pc L (.int y :: .int x :: S)) (pc' : Nat) (hd : decode M.b pc = .ok (.ishr, 1)) (hp : pc + 1 = pc' := by rfl) : OAt G K M A cs sl h pc' L (.int (x >>> (y &&& 31)) :: S) := by
  subst hp
  exact c.pure fun vm0 T locs X hT hx hb hZ hown hO => ⟨T, X, hT, fun t r => Jvm.Free.XT.ishr X.here hx rfl (Jvm.hb hb hd) rfl r⟩
theorem OAt.iushr {S : List Value} {x y : Int32} (c : OAt G K M A cs sl h pc L (.int y :: .int x :: S)) (pc' : Nat) (hd : decode M.b pc = .ok (.iushr, 1)) (hp : pc + 1 = pc' := by rfl) : OAt G K M A cs sl h pc' L (.int (Jvm.Free.XT.ushr x y) :: S) := by
  subst hp
  exact c.pure fun vm0 T locs X hT hx hb hZ hown hO => ⟨T, X, hT, fun t r => Jvm.Free.XT.iushr X.here hx rfl (Jvm.hb hb hd) rfl r⟩
theorem OAt.irem {S : List Value} {x y : Int32} (c : OAt G K M A cs sl h pc L (.int y :: .int x :: S)) (pc' : Nat) (hd : decode M.b pc = .ok (.irem, 1)) (hy : y ≠ 0) (hp : pc + 1 = pc' := by rfl) : OAt G K M A cs sl h pc' L (.int (x % y) :: S) := by
  subst hp
  exact c.pure fun vm0 T locs X hT hx hb hZ hown hO => ⟨T, X, hT, fun t r => iremM X hx rfl (Jvm.hb hb hd) rfl hy r⟩
theorem OAt.idiv {S : List Value} {x y : Int32} (c : OAt G K M A cs sl h pc L (.int y :: .int x :: S)) (pc' : Nat) (hd : decode M.b pc = .ok (.idiv, 1)) (hy : y ≠ 0) (hp : pc + 1 = pc' := by rfl) : OAt G K M A cs sl h pc' L (.int (x / y) :: S) := by
  subst hp
  exact c.pure fun vm0 T locs X hT hx hb hZ hown hO => ⟨T, X, hT, fun t r => XS.idiv X.here hx rfl (Jvm.hb hb hd) rfl hy r⟩
theorem OAt.ladd {S : List Value} {x y : Int64} (c : OAt G K M A cs sl h pc L (.long y :: .long x :: S)) (pc' : Nat) (hd : decode M.b pc = .ok (.ladd, 1)) (hp : pc + 1 = pc' := by rfl) : OAt G K M A cs sl h pc' L (.long (x + y) :: S) := by
  subst hp
  exact c.pure fun vm0 T locs X hT hx hb hZ hown hO => ⟨T, X, hT, fun t r => Jvm.Free.XT.ladd X.here hx rfl (Jvm.hb hb hd) rfl r⟩
theorem OAt.lsub {S : List Value} {x y : Int64} (c : OAt G K M A cs sl h pc L (.long y :: .long x :: S)) (pc' : Nat) (hd : decode M.b pc = .ok (.lsub, 1)) (hp : pc + 1 = pc' := by rfl) : OAt G K M A cs sl h pc' L (.long (x - y) :: S) := by
  subst hp
  exact c.pure fun vm0 T locs X hT hx hb hZ hown hO => ⟨T, X, hT, fun t r => Jvm.Free.XT.lsub X.here hx rfl (Jvm.hb hb hd) rfl r⟩
theorem OAt.land {S : List Value} {x y : Int64} (c : OAt G K M A cs sl h pc L (.long y :: .long x :: S)) (pc' : Nat) (hd : decode M.b pc = .ok (.land, 1)) (hp : pc + 1 = pc' := by rfl) : OAt G K M A cs sl h pc' L (.long (x &&& y) :: S) := by
  subst hp
  exact c.pure fun vm0 T locs X hT hx hb hZ hown hO => ⟨T, X, hT, fun t r => Jvm.Free.XT.land X.here hx rfl (Jvm.hb hb hd) rfl r⟩
theorem OAt.lor {S : List Value} {x y : Int64} (c : OAt G K M A cs sl h pc L (.long y :: .long x :: S)) (pc' : Nat) (hd : decode M.b pc = .ok (.lor, 1)) (hp : pc + 1 = pc' := by rfl) : OAt G K M A cs sl h pc' L (.long (x ||| y) :: S) := by
  subst hp
  exact c.pure fun vm0 T locs X hT hx hb hZ hown hO => ⟨T, X, hT, fun t r => Jvm.Free.XT.lor X.here hx rfl (Jvm.hb hb hd) rfl r⟩
theorem OAt.lxor {S : List Value} {x y : Int64} (c : OAt G K M A cs sl h pc L (.long y :: .long x :: S)) (pc' : Nat) (hd : decode M.b pc = .ok (.lxor, 1)) (hp : pc + 1 = pc' := by rfl) : OAt G K M A cs sl h pc' L (.long (x ^^^ y) :: S) := by
  subst hp
  exact c.pure fun vm0 T locs X hT hx hb hZ hown hO => ⟨T, X, hT, fun t r => Jvm.Free.XT.lxor X.here hx rfl (Jvm.hb hb hd) rfl r⟩
theorem OAt.lrem {S : List Value} {x y : Int64} (c : OAt G K M A cs sl h pc L (.long y :: .long x :: S)) (pc' : Nat) (hd : decode M.b pc = .ok (.lrem, 1)) (hy : y ≠ 0) (hp : pc + 1 = pc' := by rfl) : OAt G K M A cs sl h pc' L (.long (x % y) :: S) := by
  subst hp
  exact c.pure fun vm0 T locs X hT hx hb hZ hown hO => ⟨T, X, hT, fun t r => Jvm.Free.XT.lrem X.here hx rfl (Jvm.hb hb hd) rfl hy (by rw [lrem_mod]; exact r)⟩
theorem OAt.lshl {S : List Value} {x : Int64} {y : Int32} (c : OAt G K M A cs sl h pc L (.int y :: .long x :: S)) (pc' : Nat) (hd : decode M.b pc = .ok (.lshl, 1)) (hp : pc + 1 = pc' := by rfl) : OAt G K M A cs sl h pc' L (.long (x <<< (y.toInt64 &&& 63)) :: S) := by
  subst hp
  exact c.pure fun vm0 T locs X hT hx hb hZ hown hO => ⟨T, X, hT, fun t r => Jvm.Free.XT.lshl X.here hx rfl (Jvm.hb hb hd) rfl r⟩
theorem OAt.lshr {S : List Value} {x : Int64} {y : Int32} (c : OAt G K M A cs sl h pc L (.int y :: .long x :: S)) (pc' : Nat) (hd : decode M.b pc = .ok (.lshr, 1)) (hp : pc + 1 = pc' := by rfl) : OAt G K M A cs sl h pc' L (.long (x >>> (y.toInt64 &&& 63)) :: S) := by
  subst hp
  exact c.pure fun vm0 T locs X hT hx hb hZ hown hO => ⟨T, X, hT, fun t r => Jvm.Free.XT.lshr X.here hx rfl (Jvm.hb hb hd) rfl r⟩
theorem OAt.lushr {S : List Value} {x : Int64} {y : Int32} (c : OAt G K M A cs sl h pc L (.int y :: .long x :: S)) (pc' : Nat) (hd : decode M.b pc = .ok (.lushr, 1)) (hp : pc + 1 = pc' := by rfl) : OAt G K M A cs sl h pc' L (.long (Jvm.Free.XT.ushrL x y) :: S) := by
  subst hp
  exact c.pure fun vm0 T locs X hT hx hb hZ hown hO => ⟨T, X, hT, fun t r => Jvm.Free.XT.lushr X.here hx rfl (Jvm.hb hb hd) rfl r⟩
theorem OAt.lcmp {S : List Value} {x y : Int64} (c : OAt G K M A cs sl h pc L (.long y :: .long x :: S)) (pc' : Nat) (hd : decode M.b pc = .ok (.lcmp, 1)) (hp : pc + 1 = pc' := by rfl) : OAt G K M A cs sl h pc' L (.int (Jvm.Free.XT.cmpL x y) :: S) := by
  subst hp
  exact c.pure fun vm0 T locs X hT hx hb hZ hown hO => ⟨T, X, hT, fun t r => Jvm.Free.XT.lcmp X.here hx rfl (Jvm.hb hb hd) rfl r⟩
theorem OAt.i2b {S : List Value} {x : Int32} (c : OAt G K M A cs sl h pc L (.int x :: S)) (pc' : Nat) (hd : decode M.b pc = .ok (.i2b, 1)) (hp : pc + 1 = pc' := by rfl) : OAt G K M A cs sl h pc' L (.int (x.toInt8.toInt32) :: S) := by
  subst hp
  exact c.pure fun vm0 T locs X hT hx hb hZ hown hO => ⟨T, X, hT, fun t r => Jvm.Free.XT.i2b X.here hx rfl (Jvm.hb hb hd) rfl r⟩
theorem OAt.i2c {S : List Value} {x : Int32} (c : OAt G K M A cs sl h pc L (.int x :: S)) (pc' : Nat) (hd : decode M.b pc = .ok (.i2c, 1)) (hp : pc + 1 = pc' := by rfl) : OAt G K M A cs sl h pc' L (.int (x.toUInt32.toUInt16.toUInt32.toInt32) :: S) := by
  subst hp
  exact c.pure fun vm0 T locs X hT hx hb hZ hown hO => ⟨T, X, hT, fun t r => Jvm.Free.XT.i2c X.here hx rfl (Jvm.hb hb hd) rfl r⟩
theorem OAt.i2l {S : List Value} {x : Int32} (c : OAt G K M A cs sl h pc L (.int x :: S)) (pc' : Nat) (hd : decode M.b pc = .ok (.i2l, 1)) (hp : pc + 1 = pc' := by rfl) : OAt G K M A cs sl h pc' L (.long (x.toInt64) :: S) := by
  subst hp
  exact c.pure fun vm0 T locs X hT hx hb hZ hown hO => ⟨T, X, hT, fun t r => Jvm.Free.XT.i2l X.here hx rfl (Jvm.hb hb hd) rfl r⟩
theorem OAt.l2i {S : List Value} {x : Int64} (c : OAt G K M A cs sl h pc L (.long x :: S)) (pc' : Nat) (hd : decode M.b pc = .ok (.l2i, 1)) (hp : pc + 1 = pc' := by rfl) : OAt G K M A cs sl h pc' L (.int (x.toInt32) :: S) := by
  subst hp
  exact c.pure fun vm0 T locs X hT hx hb hZ hown hO => ⟨T, X, hT, fun t r => Jvm.Free.XT.l2i X.here hx rfl (Jvm.hb hb hd) rfl r⟩
theorem OAt.dup {S : List Value} {x : Value} (c : OAt G K M A cs sl h pc L (x :: S)) (pc' : Nat) (hd : decode M.b pc = .ok (.dup, 1)) (hc : x.category = 1) (hp : pc + 1 = pc' := by rfl) : OAt G K M A cs sl h pc' L (x :: x :: S) := by
  subst hp
  exact c.pure fun vm0 T locs X hT hx hb hZ hown hO => ⟨T, X, hT, fun t r => XS.dup X.here hx rfl (Jvm.hb hb hd) rfl hc r⟩
theorem OAt.pop {S : List Value} {x : Value} (c : OAt G K M A cs sl h pc L (x :: S)) (pc' : Nat) (hd : decode M.b pc = .ok (.pop, 1)) (hc : x.category = 1) (hp : pc + 1 = pc' := by rfl) : OAt G K M A cs sl h pc' L (S) := by
  subst hp
  exact c.pure fun vm0 T locs X hT hx hb hZ hown hO => ⟨T, X, hT, fun t r => Jvm.Free.XT.pop X.here hx rfl (Jvm.hb hb hd) rfl hc r⟩
theorem OAt.dupX1 {S : List Value} {x y : Value} (c : OAt G K M A cs sl h pc L (x :: y :: S)) (pc' : Nat) (hd : decode M.b pc = .ok (.dup_x1, 1)) (hc : x.category = 1) (hc' : y.category = 1) (hp : pc + 1 = pc' := by rfl) : OAt G K M A cs sl h pc' L (x :: y :: x :: S) := by
  subst hp
  exact c.pure fun vm0 T locs X hT hx hb hZ hown hO => ⟨T, X, hT, fun t r => Jvm.Free.XT.dupX1 X.here hx rfl (Jvm.hb hb hd) rfl hc hc' r⟩
theorem OAt.dup2 {S : List Value} {x y : Value} (c : OAt G K M A cs sl h pc L (x :: y :: S)) (pc' : Nat) (hd : decode M.b pc = .ok (.dup2, 1)) (hc : x.category = 1) (hc' : y.category = 1) (hp : pc + 1 = pc' := by rfl) : OAt G K M A cs sl h pc' L (x :: y :: x :: y :: S) := by
  subst hp
  exact c.pure fun vm0 T locs X hT hx hb hZ hown hO => ⟨T, X, hT, fun t r => Jvm.Free.XT.dup2 X.here hx rfl (Jvm.hb hb hd) rfl hc hc' r⟩
theorem OAt.iinc {S : List Value} {k : Nat} {i : Int} {x : Int32} (c : OAt G K M A cs sl h pc L S) (pc' : Nat) (hd : decode M.b pc = .ok (.iinc k i, 3)) (hl : L[k]? = some (.val (.int x))) (v : Int32) (hv : x + Int32.ofInt i = v) (L' : Array Slot) (hl' : storeLocals L k (.int v) = some L') (hp : pc + 3 = pc' := by rfl) : OAt G K M A cs sl h pc' L' S := by
  subst hp
  exact c.pure fun vm0 T locs X hT hx hb hZ hown hO => ⟨T, X, hT, fun t r => XS.iinc X.here hx rfl (Jvm.hb hb hd) hl (hv ▸ hl') r⟩
theorem OAt.goto {S : List Value} {o : Int}  (c : OAt G K M A cs sl h pc L (S)) (pc' : Nat) (hd : decode M.b pc = .ok (.goto o, 3)) (ho : 0 ≤ (pc : Int) + o := by decide) (hp : ((pc : Int) + o).toNat = pc' := by decide) : OAt G K M A cs sl h pc' L S :=
  c.pure fun vm0 T locs X hT hx hb hZ hown hO => ⟨T, X, hT, fun t r => XS.goto X.here hx rfl rfl (Jvm.hb hb hd) ho hp r⟩
theorem OAt.ifT {S : List Value} {o : Int} {cd : ClassFile.Cond} {x : Int32} (c : OAt G K M A cs sl h pc L (.int x :: S)) (pc' : Nat) (hd : decode M.b pc = .ok (.ifCond cd o, 3)) (hc : ifCond.holds cd x = true) (ho : 0 ≤ (pc : Int) + o := by decide) (hp : ((pc : Int) + o).toNat = pc' := by decide) : OAt G K M A cs sl h pc' L S :=
  c.pure fun vm0 T locs X hT hx hb hZ hown hO => ⟨T, X, hT, fun t r => XS.ifYes X.here hx rfl rfl (Jvm.hb hb hd) rfl hc ho hp r⟩
theorem OAt.icT {S : List Value} {o : Int} {cd : ClassFile.Cond} {x y : Int32} (c : OAt G K M A cs sl h pc L (.int y :: .int x :: S)) (pc' : Nat) (hd : decode M.b pc = .ok (.if_icmp cd o, 3)) (hc : if_icmp.holds cd x y = true) (ho : 0 ≤ (pc : Int) + o := by decide) (hp : ((pc : Int) + o).toNat = pc' := by decide) : OAt G K M A cs sl h pc' L S :=
  c.pure fun vm0 T locs X hT hx hb hZ hown hO => ⟨T, X, hT, fun t r => XS.icmpYes X.here hx rfl rfl (Jvm.hb hb hd) rfl hc ho hp r⟩
theorem OAt.nullT {S : List Value} {o : Int}  (c : OAt G K M A cs sl h pc L (.null :: S)) (pc' : Nat) (hd : decode M.b pc = .ok (.ifnull o, 3)) (ho : 0 ≤ (pc : Int) + o := by decide) (hp : ((pc : Int) + o).toNat = pc' := by decide) : OAt G K M A cs sl h pc' L S :=
  c.pure fun vm0 T locs X hT hx hb hZ hown hO => ⟨T, X, hT, fun t r => XS.ifnullYes X.here hx rfl rfl (Jvm.hb hb hd) rfl ho hp r⟩
theorem OAt.nonnullT {S : List Value} {o : Int} {b : Addr} (c : OAt G K M A cs sl h pc L (.ref b :: S)) (pc' : Nat) (hd : decode M.b pc = .ok (.ifnonnull o, 3)) (ho : 0 ≤ (pc : Int) + o := by decide) (hp : ((pc : Int) + o).toNat = pc' := by decide) : OAt G K M A cs sl h pc' L S :=
  c.pure fun vm0 T locs X hT hx hb hZ hown hO => ⟨T, X, hT, fun t r => Jvm.Free.XT.ifnonnullYes X.here hx rfl rfl (Jvm.hb hb hd) rfl ho hp r⟩
theorem OAt.acT {S : List Value} {o : Int} {cd : ClassFile.ACond} {x y : Value} (c : OAt G K M A cs sl h pc L (y :: x :: S)) (pc' : Nat) (hd : decode M.b pc = .ok (.if_acmp cd o, 3)) (h1 : x.isRef = true) (h2 : y.isRef = true) (hc : Jvm.Free.XT.acmp cd x y = true) (ho : 0 ≤ (pc : Int) + o := by decide) (hp : ((pc : Int) + o).toNat = pc' := by decide) : OAt G K M A cs sl h pc' L S :=
  c.pure fun vm0 T locs X hT hx hb hZ hown hO => ⟨T, X, hT, fun t r => Jvm.Free.XT.acmpYes X.here hx rfl rfl (Jvm.hb hb hd) rfl h1 h2 hc ho hp r⟩
theorem OAt.ifF {S : List Value} {cd : ClassFile.Cond} {o : Int} {x : Int32} (c : OAt G K M A cs sl h pc L (.int x :: S)) (pc' : Nat) (hd : decode M.b pc = .ok (.ifCond cd o, 3)) (hc : ifCond.holds cd x = false) (hp : pc + 3 = pc' := by rfl) : OAt G K M A cs sl h pc' L (S) := by
  subst hp
  exact c.pure fun vm0 T locs X hT hx hb hZ hown hO => ⟨T, X, hT, fun t r => XS.ifNo X.here hx rfl (Jvm.hb hb hd) rfl hc r⟩
theorem OAt.icF {S : List Value} {cd : ClassFile.Cond} {o : Int} {x y : Int32} (c : OAt G K M A cs sl h pc L (.int y :: .int x :: S)) (pc' : Nat) (hd : decode M.b pc = .ok (.if_icmp cd o, 3)) (hc : if_icmp.holds cd x y = false) (hp : pc + 3 = pc' := by rfl) : OAt G K M A cs sl h pc' L (S) := by
  subst hp
  exact c.pure fun vm0 T locs X hT hx hb hZ hown hO => ⟨T, X, hT, fun t r => XS.icmpNo X.here hx rfl (Jvm.hb hb hd) rfl hc r⟩
theorem OAt.nullF {S : List Value} {o : Int} {b : Addr} (c : OAt G K M A cs sl h pc L (.ref b :: S)) (pc' : Nat) (hd : decode M.b pc = .ok (.ifnull o, 3)) (hp : pc + 3 = pc' := by rfl) : OAt G K M A cs sl h pc' L (S) := by
  subst hp
  exact c.pure fun vm0 T locs X hT hx hb hZ hown hO => ⟨T, X, hT, fun t r => XS.ifnullNo X.here hx rfl (Jvm.hb hb hd) rfl r⟩
theorem OAt.nonnullF {S : List Value} {o : Int} (c : OAt G K M A cs sl h pc L (.null :: S)) (pc' : Nat) (hd : decode M.b pc = .ok (.ifnonnull o, 3)) (hp : pc + 3 = pc' := by rfl) : OAt G K M A cs sl h pc' L (S) := by
  subst hp
  exact c.pure fun vm0 T locs X hT hx hb hZ hown hO => ⟨T, X, hT, fun t r => Jvm.Free.XT.ifnonnullNo X.here hx rfl (Jvm.hb hb hd) rfl r⟩
theorem OAt.acF {S : List Value} {cd : ClassFile.ACond} {o : Int} {x y : Value} (c : OAt G K M A cs sl h pc L (y :: x :: S)) (pc' : Nat) (hd : decode M.b pc = .ok (.if_acmp cd o, 3)) (h1 : x.isRef = true) (h2 : y.isRef = true) (hc : Jvm.Free.XT.acmp cd x y = false) (hp : pc + 3 = pc' := by rfl) : OAt G K M A cs sl h pc' L (S) := by
  subst hp
  exact c.pure fun vm0 T locs X hT hx hb hZ hown hO => ⟨T, X, hT, fun t r => Jvm.Free.XT.acmpNo X.here hx rfl (Jvm.hb hb hd) rfl h1 h2 hc r⟩
theorem OAt.ldcI {S : List Value} {ix : Nat} {v : Int32} (c : OAt G K M A cs sl h pc L (S)) (pc' : Nat) (hd : decode M.b pc = .ok (.ldc ix, 2)) (w : OW G (Jvm.Cond.constant M.own ix v)) (hp : pc + 2 = pc' := by rfl) : OAt G K M A cs sl h pc' L (.int v :: S) := by
  subst hp
  exact c.pure fun vm0 T locs X hT hx hb hZ hown hO => ⟨T, X, hT, fun t r => X.ldcInt hx hown (mvT hZ w) (g := mkF K.m pc L S) rfl (Jvm.hb hb hd) t r⟩
theorem OAt.ldcL {S : List Value} {ix : Nat} {v : Int64} (c : OAt G K M A cs sl h pc L (S)) (pc' : Nat) (hd : decode M.b pc = .ok (.ldc2_w ix, 3)) (w : OW G (Jvm.Cond.constantLong M.own ix v)) (hp : pc + 3 = pc' := by rfl) : OAt G K M A cs sl h pc' L (.long v :: S) := by
  subst hp
  exact c.pure fun vm0 T locs X hT hx hb hZ hown hO => ⟨T, X, hT, fun t r => X.ldc2Long hx hown (mvT hZ w) (g := mkF K.m pc L S) rfl (Jvm.hb hb hd) t r⟩
end Plain
section Arrays
variable {Z : State} {h h' : Heap} {a b : Addr} {ty : FieldType} {vs : List Value}
/-- an array at a of type ty that holds just the values vs -/
def Ary (Z : State) (h : Heap) (a : Addr) (ty : FieldType) (vs : List Value) : Prop := ∃ c : Cell, Arr Z h a c ty ∧ c.slots.toList = vs ∧ vs.length < 2147483648 ∧ ∀ v ∈ vs, fits ty v = true
theorem Ary.lt (F : Ary Z h a ty vs) : a < h.size := by obtain ⟨c, A, -⟩ := F; exact A.lt
theorem Ary.ext (F : Ary Z h a ty vs) (E : Ext h h') : Ary Z h' a ty vs := by obtain ⟨c, A, r⟩ := F; exact ⟨c, A.ext E, r⟩
theorem Ary.keep (F : Ary Z h a ty vs) {ws : List Addr} (K : Keep h h' ws) (q : a ∉ ws) : Ary Z h' a ty vs := by obtain ⟨c, A, r⟩ := F; exact ⟨c, ⟨K.2.1 a c A.1 q, A.2⟩, r⟩
theorem Ary.other (F : Ary Z h b ty vs) {sl : Nat} {v : Value} (W : Wr h h' a sl v) (q : b ≠ a) : Ary Z h' b ty vs := by obtain ⟨c, A, r⟩ := F; exact ⟨c, A.other W q, r⟩
theorem Ary.len (F : Ary Z h a ty vs) : vs.length < 2147483648 := by obtain ⟨c, A, -, r, -⟩ := F; exact r
theorem Ary.set (F : Ary Z h a ty vs) {i : Nat} {v : Value} (W : Wr h h' a i v) (hv : fits ty v = true) : Ary Z h' a ty (vs.set i v) := by
  obtain ⟨c, A, rfl, hl, hf⟩ := F
  refine ⟨c.setSlot i v, A.same W, ?_, by simpa using hl, fun w hw => ?_⟩
  · show (c.slots.setIfInBounds i v).toList = _
    simp
  · rcases List.mem_or_eq_of_mem_set hw with q | rfl
    · exact hf w q
    · exact hv
theorem Ary.arv (F : Ary Z h a ty vs) (d : Value) : ∃ k, Arv Z h a k ty (Int32.ofNat vs.length) vs d := by
  obtain ⟨c, A, rfl, hl, hf⟩ := F
  have e := Int32.toInt_ofNat_small hl
  refine ⟨c.cls, c, A, rfl, ?_, ?_, fun k hk => ?_, fun i hi => ?_⟩
  · simp only [Int32.toNatClampNeg, e]; simp
  · rw [Int32.lt_iff_toInt_lt, e]; show ¬ _ < (0 : Int); omega
  · rw [List.getD_eq_getElem?_getD]; simp [hk]
  · rw [List.getD_eq_getElem?_getD]; simp only [Array.getElem?_toList, Array.getElem?_eq_getElem hi, Option.getD_some]
    exact hf _ (by simp)
theorem Ary.of_arv {k : ClassId} {z : Int32} {d : Value} (F : Arv Z h a k ty z vs d) (hz : z.toNatClampNeg = vs.length) : Ary Z h a ty vs := by
  obtain ⟨c, A, -, hs, hn, H, Gf⟩ := F
  have hlen : c.slots.size = vs.length := hs.trans hz
  have hl : vs.length < 2147483648 := by
    have := z.toInt_lt
    rw [← hz]; simp only [Int32.toNatClampNeg]; omega
  refine ⟨c, A, ?_, hl, fun v hv => ?_⟩
  · apply List.ext_getElem?
    intro i
    by_cases q : i < c.slots.size
    · rw [Array.getElem?_toList, H i q, List.getD_eq_getElem?_getD]
      have : i < vs.length := by omega
      simp [this]
    · rw [List.getElem?_eq_none (by simp; omega), List.getElem?_eq_none (by omega)]
  · obtain ⟨i, hi, rfl⟩ := List.mem_iff_getElem.mp hv
    have := Gf i (by omega)
    simpa [List.getD_eq_getElem?_getD, hi] using this
theorem Ary.new {k : ClassId} {n : Nat} (A : Arr Z h a (newA k ty (Int32.ofNat n)) ty) (hn : n < 2147483648) (hf : fits ty (defaultValue ty) = true) : Ary Z h a ty (List.replicate n (defaultValue ty)) := by
  refine ⟨_, A, ?_, by simpa using hn, fun v hv => by rw [List.eq_of_mem_replicate hv]; exact hf⟩
  have e := Int32.toInt_ofNat_small hn
  simp only [newA, Int32.toNatClampNeg, e]; simp
theorem own_ix {i n : Nat} {j : Int32} (hj : Int32.ofNat i = j) (hi : i < n) (hn : n < 2147483648) : j.toNatClampNeg = i ∧ ¬ (j < 0 ∨ n ≤ j.toNatClampNeg) := by
  subst hj
  have e := Int32.toInt_ofNat_small (show i < 2 ^ 31 by omega)
  have e2 : (Int32.ofNat i).toNatClampNeg = i := by simp only [Int32.toNatClampNeg, e]; simp
  refine ⟨e2, ?_⟩
  rw [e2, Int32.lt_iff_toInt_lt, e]
  show ¬ ((i : Int) < 0 ∨ n ≤ i)
  omega
end Arrays
section HeapSteps
variable {G : Gx} {K : Kx} {M : Mx} {A : List Addr} {cs sl : Nat} {h : Heap} {pc : Nat} {L : Array Slot} {S : List Value}
theorem OAt.getF {O n d R0 : String} {ix : Nat} {a : Addr} {v : Value} (c : OAt G K M A cs sl h pc L (.ref a :: S)) (pc' : Nat) (hd : decode M.b pc = .ok (.getfield ix, 3)) (w : OW G (Jvm.Cond.fieldLink M.own ix R0 n d)) (F : Fld G.Z h a O n d v) (via : Via G.Z R0 O n d := by exact Via.refl) (hp : pc + 3 = pc' := by rfl) : OAt G K M A cs sl h pc' L (v :: S) := by
  subst hp
  exact c.pure fun vm0 T locs X hT hx hb hZ hown hO => Jvm.RoadKit.getF X hx hZ hown (host := "") (Or.inl w) via hT F (g := mkF K.m pc L (.ref a :: S)) rfl rfl (Jvm.hb hb hd)
theorem OAt.getS {O n d R0 : String} {ix : Nat} {v : Value} (c : OAt G K M A cs sl h pc L S) (pc' : Nat) (hd : decode M.b pc = .ok (.getstatic ix, 3)) (w : OW G (Jvm.Cond.fieldLink M.own ix R0 n d)) (F : Sta G.Z G.Z.heap O n d v) (via : Via G.Z R0 O n d := by exact Via.refl) (hp : pc + 3 = pc' := by rfl) : OAt G K M A cs sl h pc' L (v :: S) := by
  subst hp
  exact c.pure fun vm0 T locs X hT hx hb hZ hown hO => Jvm.RoadKit.getS X hx hZ hown (host := "") w via hT (F.ext hO.2) (g := mkF K.m pc L S) rfl (Jvm.hb hb hd)
theorem OAt.cast {C : String} {ix : Nat} {a : Addr} (c : OAt G K M A cs sl h pc L (.ref a :: S)) (pc' : Nat) (hd : decode M.b pc = .ok (.checkcast ix, 3)) (w : OW G (Jvm.Cond.classLink M.own ix C)) (F : Ins G.Z h a C true) (hp : pc + 3 = pc' := by rfl) : OAt G K M A cs sl h pc' L (.ref a :: S) := by
  subst hp
  exact c.pure fun vm0 T locs X hT hx hb hZ hown hO => castY X hx hZ hown w hT F (g := mkF K.m pc L (.ref a :: S)) rfl rfl (Jvm.hb hb hd)
theorem OAt.inst1 {C : String} {ix : Nat} {a : Addr} (c : OAt G K M A cs sl h pc L (.ref a :: S)) (pc' : Nat) (hd : decode M.b pc = .ok (.instanceof ix, 3)) (w : OW G (Jvm.Cond.classLink M.own ix C)) (F : Ins G.Z h a C true) (hp : pc + 3 = pc' := by rfl) : OAt G K M A cs sl h pc' L (.int 1 :: S) := by
  subst hp
  exact c.pure fun vm0 T locs X hT hx hb hZ hown hO => instY X hx hZ hown w hT F (g := mkF K.m pc L (.ref a :: S)) rfl rfl (Jvm.hb hb hd)
theorem OAt.initO {ix : Nat} {a : Addr} {W : Nat} (c : OAt G K M A cs sl h pc L (.ref a :: S)) (pc' : Nat) (hd : decode M.b pc = .ok (.invokespecial ix, 3)) (w1 : OW G (Jvm.Cond.methodLink M.own ix Lib.objectInit)) (w2 : OW G (Jvm.Cond.instanceMethod Lib.objectInit)) (w3 : OW G (Jvm.Cond.code Lib.objectInit object_method_1_code 1 none))
    (hW : (S.map fun v => v.category).sum = W) (hl : W + 12 ≤ M.R.locals) (hf : 1 ≤ M.R.frames) (hL : L.size = M.ml := by rfl) (hp : pc + 3 = pc' := by rfl) : OAt G K M A cs sl h pc' L S := by
  subst hp
  have hml := c.1.2.2.2.2.2.1
  exact c.pure fun vm0 T locs X hT hx hb hZ hown hO => Jvm.RoadKit.initO X hx hZ hown w1 w2 w3 hT (g := mkF K.m pc L (.ref a :: S)) rfl (hL.trans hml.symm) rfl (Jvm.hb hb hd) hf (W := W) (by show 2 * 0 + _ ≤ _; omega) hl
theorem OAt.arrlen {ty : FieldType} {vs : List Value} {a : Addr} (c : OAt G K M A cs sl h pc L (.ref a :: S)) (pc' : Nat) (hd : decode M.b pc = .ok (.arraylength, 1)) (F : Ary G.Z h a ty vs) (n : Int32) (hn : Int32.ofNat vs.length = n) (hp : pc + 1 = pc' := by rfl) : OAt G K M A cs sl h pc' L (.int n :: S) := by
  subst hp
  obtain ⟨cl, Ar, rfl, -⟩ := F
  exact c.pure fun vm0 T locs X hT hx hb hZ hown hO => ⟨T, X, hT, fun t r => X.arraylength hx (by rw [hT]; exact Ar.1) (State.isArrayOf_alike hZ.alike Ar.2.1) (g := mkF K.m pc L (.ref a :: S)) rfl rfl (Jvm.hb hb hd) t (by subst hn; simpa using r)⟩
theorem OAt.caload {vs : List Value} {a : Addr} {j : Int32} (c : OAt G K M A cs sl h pc L (.int j :: .ref a :: S)) (pc' : Nat) (hd : decode M.b pc = .ok (.caload, 1)) (F : Ary G.Z h a .char vs) (i : Nat) (hj : Int32.ofNat i = j) (v : Value) (hv : vs[i]? = some v) (hp : pc + 1 = pc' := by rfl) : OAt G K M A cs sl h pc' L (v :: S) := by
  subst hp
  obtain ⟨cl, Ar, rfl, hl, -⟩ := F
  have hi : i < cl.slots.size := by simpa using (List.getElem?_eq_some_iff.mp hv).1
  obtain ⟨e, q⟩ := own_ix hj hi (by simpa using hl)
  exact c.pure fun vm0 T locs X hT hx hb hZ hown hO => ⟨T, X, hT, fun t r => X.caload hx (by rw [hT]; exact Ar.1) (State.isArrayOf_alike hZ.alike Ar.2.1) Ar.2.2 q (by rw [e]; simpa using hv) (g := mkF K.m pc L (.int j :: .ref a :: S)) rfl rfl (Jvm.hb hb hd) t r⟩
theorem OAt.baload {vs : List Value} {a : Addr} {j : Int32} (c : OAt G K M A cs sl h pc L (.int j :: .ref a :: S)) (pc' : Nat) (hd : decode M.b pc = .ok (.baload, 1)) (F : Ary G.Z h a .byte vs) (i : Nat) (hj : Int32.ofNat i = j) (v : Value) (hv : vs[i]? = some v) (hp : pc + 1 = pc' := by rfl) : OAt G K M A cs sl h pc' L (v :: S) := by
  subst hp
  obtain ⟨cl, Ar, rfl, hl, -⟩ := F
  have hi : i < cl.slots.size := by simpa using (List.getElem?_eq_some_iff.mp hv).1
  obtain ⟨e, q⟩ := own_ix hj hi (by simpa using hl)
  exact c.pure fun vm0 T locs X hT hx hb hZ hown hO => ⟨T, X, hT, fun t r => X.baloadBytes hx (by rw [hT]; exact Ar.1) (State.isArrayOf_alike hZ.alike Ar.2.1) Ar.2.2 q (by rw [e]; simpa using hv) (g := mkF K.m pc L (.int j :: .ref a :: S)) rfl rfl (Jvm.hb hb hd) t r⟩
theorem OAt.aaload {ty : FieldType} {vs : List Value} {a : Addr} {j : Int32} (c : OAt G K M A cs sl h pc L (.int j :: .ref a :: S)) (pc' : Nat) (hd : decode M.b pc = .ok (.aaload, 1)) (F : Ary G.Z h a ty vs) (hty : ty.isReference = true) (i : Nat) (hj : Int32.ofNat i = j) (v : Value) (hv : vs[i]? = some v) (hp : pc + 1 = pc' := by rfl) : OAt G K M A cs sl h pc' L (v :: S) := by
  subst hp
  obtain ⟨cl, Ar, rfl, hl, -⟩ := F
  have hi : i < cl.slots.size := by simpa using (List.getElem?_eq_some_iff.mp hv).1
  obtain ⟨e, q⟩ := own_ix hj hi (by simpa using hl)
  exact c.pure fun vm0 T locs X hT hx hb hZ hown hO => ⟨T, X, hT, fun t r => X.aaload hx (by rw [hT]; exact Ar.1) (State.isArrayOf_alike hZ.alike Ar.2.1) hty Ar.2.2 q (by rw [e]; simpa using hv) (g := mkF K.m pc L (.int j :: .ref a :: S)) rfl rfl (Jvm.hb hb hd) t r⟩
theorem OAt.newO {C : String} {ix n : Nat} (c : OAt G K M A cs sl h pc L S) (pc' : Nat) (hd : decode M.b pc = .ok (.new ix, 3)) (w1 : OW G (Jvm.Cond.classLink M.own ix C)) (w2 : OW G (Jvm.Cond.instantiable C n)) (w3 : OW G (Jvm.Cond.initialized C)) (hc : cs + 1 ≤ M.R.cells) (hl : sl + n ≤ M.R.slots) (hp : pc + 3 = pc' := by rfl) :
    ∃ (a : Addr) (h' : Heap), a = h.size ∧ Ext h h' ∧ G.n0 ≤ a ∧ Exa G.Z h' a C ∧ (∀ {O nm d : String} {ty : FieldType}, Laid G.Z G.a0 C O nm d → parseFieldDescriptor d = some ty → Fld G.Z h' a O nm d (defaultValue ty)) ∧ Unt h' a ∧ OAt G K M (a :: A) (cs + 1) (sl + n) h' pc' L (.ref a :: S) := by
  subst hp
  obtain ⟨h', E, hn, ⟨hE, hF, hU⟩, c'⟩ := c.grow (pc' := pc + 3) (L' := L) (S' := .ref h.size :: S) (cs' := cs + 1) (sl' := sl + n) (P := fun h' => Exa G.Z h' h.size C ∧ (∀ {O nm d : String} {ty : FieldType}, Laid G.Z G.a0 C O nm d → parseFieldDescriptor d = some ty → Fld G.Z h' h.size O nm d (defaultValue ty)) ∧ Unt h' h.size)
    fun vm0 T locs X hT hx hb hZ hown => by
      obtain ⟨T', h', X', e', E', Ex, Fl, U, st⟩ := Jvm.RoadKit.newO X hx hZ hown w1 w2 w3 hT (g := mkF K.m pc L S) rfl (Jvm.hb hb hd) hc hl
      exact ⟨T', h', X', e', E', Ex.lt, ⟨Ex, Fl, U⟩, st⟩
  exact ⟨h.size, h', rfl, E, hn, hE, hF, hU, c'⟩
theorem OAt.newarr {aty : ArrayType} {n : Int32} (c : OAt G K M A cs sl h pc L (.int n :: S)) (pc' : Nat) (hd : decode M.b pc = .ok (.newarray aty, 2)) (ty : FieldType) (hty : newarray.typeOf aty = ty) (w : OW G (Jvm.Cond.arrayClass ty)) (k : Nat) (hn : Int32.ofNat k = n) (cap : Nat) (hk : k ≤ cap) (hb : cap * 8 ≤ 536870912) (hc : cs + 1 ≤ M.R.cells) (hl : sl + cap ≤ M.R.slots) (hp : pc + 2 = pc' := by rfl) :
    ∃ (a : Addr) (h' : Heap), a = h.size ∧ Ext h h' ∧ G.n0 ≤ a ∧ Ary G.Z h' a ty (List.replicate k (defaultValue ty)) ∧ OAt G K M (a :: A) (cs + 1) (sl + cap) h' pc' L (.ref a :: S) := by
  subst hp hty hn
  have hk31 : k < 2147483648 := by omega
  have e := Int32.toInt_ofNat_small (show k < 2 ^ 31 by omega)
  have e2 : (Int32.ofNat k).toNatClampNeg = k := by simp only [Int32.toNatClampNeg, e]; simp
  obtain ⟨h', E, hn, hA, c'⟩ := c.grow (pc' := pc + 2) (L' := L) (S' := .ref h.size :: S) (cs' := cs + 1) (sl' := sl + cap) (P := fun h' => Ary G.Z h' h.size (newarray.typeOf aty) (List.replicate k (defaultValue (newarray.typeOf aty))))
    fun vm0 T locs X hT hx hbb hZ hown => by
      obtain ⟨T', h', cA, X', e', E', Ar, st⟩ := newP X hx hZ w hT (g := mkF K.m pc L (.int (Int32.ofNat k) :: S)) rfl (Jvm.hb hbb hd) rfl (by rw [Int32.lt_iff_toInt_lt, e]; show ¬ (k : Int) < 0; omega) (cap := cap) (by omega) hb hc hl
      exact ⟨T', h', X', e', E', Ar.lt, Ary.new Ar hk31 (by cases aty <;> rfl), st⟩
  exact ⟨h.size, h', rfl, E, hn, hA, c'⟩
theorem OAt.castore {vs : List Value} {a : Addr} {j x : Int32} (c : OAt G K M A cs sl h pc L (.int x :: .int j :: .ref a :: S)) (pc' : Nat) (hd : decode M.b pc = .ok (.castore, 1)) (F : Ary G.Z h a .char vs) (i : Nat) (hj : Int32.ofNat i = j) (hi : i < vs.length) (hn : G.n0 ≤ a) (y : Int32) (hy : nar .char x = y) (hp : pc + 1 = pc' := by rfl) :
    ∃ h', Wr h h' a i (.int y) ∧ Ary G.Z h' a .char (vs.set i (.int y)) ∧ OAt G K M A cs sl h' pc' L S := by
  subst hp hy
  have F' := F
  obtain ⟨cl, Ar, rfl, hl, -⟩ := F
  obtain ⟨e, q⟩ := own_ix hj (by simpa using hi) (by simpa using hl)
  obtain ⟨h', W, c'⟩ := c.write (pc' := pc + 1) (L' := L) (S' := S) (a := a) (i := i) (v := .int (nar .char x)) hn (fun vm0 hal _ => Safe.arr hal Ar (by decide))
    fun vm0 T locs X hT hx hb hZ hown hnm => by
      have st := stC X hx hZ hT Ar q (g := mkF K.m pc L (.int x :: .int j :: .ref a :: S)) rfl rfl (Jvm.hb hb hd)
      rw [e] at st
      exact st
  exact ⟨h', W, F'.set W (fits_nar_char x), c'⟩
theorem OAt.bastore {vs : List Value} {a : Addr} {j x : Int32} (c : OAt G K M A cs sl h pc L (.int x :: .int j :: .ref a :: S)) (pc' : Nat) (hd : decode M.b pc = .ok (.bastore, 1)) (F : Ary G.Z h a .byte vs) (i : Nat) (hj : Int32.ofNat i = j) (hi : i < vs.length) (hn : G.n0 ≤ a) (hA : a ∈ A) (y : Int32) (hy : nar .byte x = y) (hp : pc + 1 = pc' := by rfl) :
    ∃ h', Wr h h' a i (.int y) ∧ Ary G.Z h' a .byte (vs.set i (.int y)) ∧ OAt G K M A cs sl h' pc' L S := by
  subst hp hy
  have F' := F
  obtain ⟨cl, Ar, rfl, hl, -⟩ := F
  obtain ⟨e, q⟩ := own_ix hj (by simpa using hi) (by simpa using hl)
  obtain ⟨h', W, c'⟩ := c.write (pc' := pc + 1) (L' := L) (S' := S) (a := a) (i := i) (v := .int (nar .byte x)) hn (fun vm0 hal hs => (hs a hA).2)
    fun vm0 T locs X hT hx hb hZ hown hnm => by
      have st := stB X hx hZ hT Ar q (g := mkF K.m pc L (.int x :: .int j :: .ref a :: S)) rfl rfl (Jvm.hb hb hd)
      rw [e] at st
      exact st
  exact ⟨h', W, F'.set W (fits_nar_byte x), c'⟩
theorem OAt.putF {O n d R0 C : String} {ix kk : Nat} {ty : FieldType} {a : Addr} {v old : Value} (c : OAt G K M A cs sl h pc L (v :: .ref a :: S)) (pc' : Nat) (hd : decode M.b pc = .ok (.putfield ix, 3)) (w : OW G (Jvm.Cond.fieldLink M.own ix R0 n d)) (F : Fld G.Z h a O n d old) (E : Exa G.Z h a C)
    (wl : OW G (Jvm.Cond.lays C O n d) ∨ (OW G (Jvm.Cond.laysFinal C O n d) ∧ M.own = O ∧ M.nm = "<init>")) (wi : OW G (Jvm.Cond.instantiable C kk)) (hty : parseFieldDescriptor d = some ty) (hn : narrow ty v = v) (hf : fits ty v = true) (h0 : G.n0 ≤ a) (hA : a ∈ A ∨ (C ≠ "java/lang/String" ∧ C ≠ "[B")) (via : Via G.Z R0 O n d := by exact Via.refl) (hp : pc + 3 = pc' := by rfl) :
    ∃ h', Wr h h' a (Jvm.RoadKit.slotOf G.Z O n d) v ∧ OAt G K M A cs sl h' pc' L S := by
  subst hp
  exact c.write h0 (fun vm0 hal hs => hA.elim (fun q => (hs a q).2) (fun q => Safe.exa hal E q.1 q.2))
    fun vm0 T locs X hT hx hb hZ hown hnm => Jvm.RoadKit.putF X hx hZ hown (host := "") (Or.inl w) via hT F E (wl.imp id (fun q => ⟨q.1, q.2.1, hnm.trans q.2.2⟩)) wi hty hn hf (g := mkF K.m pc L (v :: .ref a :: S)) rfl rfl (Jvm.hb hb hd)
end HeapSteps
section Calls
variable {G : Gx} {K : Kx} {M : Mx} {A : List Addr} {cs sl : Nat} {h : Heap} {pc : Nat} {L : Array Slot} {S : List Value}
theorem own_safe {Z : State} {EL : List (String × Nat)} {vm vm1 : Vm} {h : Heap} {x : Addr} (A : CHr Z EL vm h vm1 h) (q : x < h.size ∧ Safe Z EL vm h x) : x < h.size ∧ Safe Z EL vm1 h x := ⟨q.1, A.safe q.1 q.2⟩
/-- a contract, as the payer of a call -/
theorem OCon.payer {y : MethodName} {B : ByteArray} {ml : Nat} {rt : Option FieldType} {rm : Room} {as : Array Value} {A' : List Addr} {Q : Option Value → Heap → (Addr → Prop) → Prop} {p : Program} {e : Env} {R : Room} {s : State} {vm0 : Vm} {args : Array Value} {below : List Frame} {len W : Nat}
    (hC : OCon G y B ml rt [] rm as A' h Q) (hZ : G.Z.Warmed39 (s.setVm vm0).vm) (wc : OW G (Jvm.Cond.code y B ml rt)) (wz : OW G (Jvm.Cond.initialized y.cls)) (hf : rm.frames + 1 ≤ R.frames) (hl : W + (ml + 11) + rm.locals ≤ R.locals) (hEL : EW G.Z G.a0 G.EL) (H : CHv G.Z G.EL vm0 h) (hA : ∀ x ∈ A', OSafe G vm0 h x) (hO : Old G.Z G.n0 h) :
    BackS G.l R p e below (s.setVm vm0) args y len W (fun P a => a = as ∧ P.U.heap = h ∧ P.cells + rm.cells ≤ R.cells ∧ P.slots + rm.slots ≤ R.slots)
      (fun P _ v P' => ∃ L', Q v P'.U.heap (OSafe G P'.U.vm P'.U.heap) ∧ Fr G.n0 L' ∧ Old G.Z G.n0 P'.U.heap ∧ P'.locs = P.locs ++ L' ∧ P'.cells = P.cells + rm.cells ∧ P'.slots = P.slots + rm.slots ∧ CHr G.Z G.EL vm0 h P'.U.vm P'.U.heap) :=
  BackS.of_freeW (bytes := B) (maxL := ml) (ret := rt) (E := fun _ first o t L' k n => k = rm.cells ∧ n = rm.slots ∧ (∃ v, o = .returned v ∧ Q v t.heap (OSafe G t.vm t.heap)) ∧ Fr G.n0 L' ∧ Old G.Z G.n0 t.heap ∧ CHr G.Z G.EL first.vm first.heap t.vm t.heap) hC hf hl
    (fun m meth c P a Y hp => have hU : G.Z.Warmed39 P.U.vm := wtrans (s := s.setVm vm0) hZ Y.warmed
      ⟨by show (Jvm.Cond.and _ .tt).before a P.U = true; rw [Cond.before_and, mv hU wc]; rfl, mv hU wc, mv hU wz, hp.2.2.1, hp.2.2.2⟩)
    (fun m meth c P a g mk Y hp => have hc := CHv.at Y hZ hEL H; ⟨hp.1, wtrans (s := s.setVm vm0) hZ Y.warmed, hp.2.1, hc.1, fun x hx => own_safe hc (hA x hx), hO⟩) (fun _ _ _ _ _ _ _ _ _ => trivial)
    (fun _ _ _ _ ⟨v, L', h1, h2, h3, h4, h5, h6⟩ => ⟨L', _, _, h6, rfl, rfl, ⟨v, h1, h2⟩, h3, h4, h5⟩)
    (fun m meth c P a g mk v t L' k n Y hp _ _ ⟨e1, e2, ⟨v', e3, e4⟩, e5, e6, e7⟩ => by
      cases e3; subst e1 e2
      refine ⟨L', e4, e5, e6, rfl, rfl, rfl, (CHv.at Y hZ hEL H).trans ?_⟩
      rw [← hp.2.1]; exact e7)
/-- what a call leaves, folded -/
theorem own_after {rm : Room} {Q : Option Value → Heap → (Addr → Prop) → Prop} {v : Option Value} {vm0 : Vm} {k0 : Nat} {T : State} {locs : List Loc} {P' : Pt} {pc' : Nat} {S' : List Value} (ok : OOk G K M) (hT : T.heap = h) (hS : K.s.Since vm0 k0) (hk : k0 ≤ h.size) (hZ : G.Z.Warmed39 (K.s.setVm vm0).vm) (hown : (K.s.setVm vm0).vm.findClass M.own = some K.m.cls)
    (hC : CHr G.Z G.EL K.s.vm K.s.heap vm0 h) (hA : ∀ x ∈ A, OSafe G vm0 h x) (hF : Fr G.n0 locs)
    (X' : Stand K.p G.l K.e M.R ((K.s.setVm vm0).setVm P'.U.vm) K.m K.args K.below K.meth K.c P'.U P'.locs P'.cells P'.slots) (hS' : (K.s.setVm vm0).Since P'.U.vm P'.U.heap.size) (hg : T.heap.size ≤ P'.U.heap.size)
    (hq : ∃ L', Q v P'.U.heap (OSafe G P'.U.vm P'.U.heap) ∧ Fr G.n0 L' ∧ Old G.Z G.n0 P'.U.heap ∧ P'.locs = locs ++ L' ∧ P'.cells = cs + rm.cells ∧ P'.slots = sl + rm.slots ∧ CHr G.Z G.EL vm0 h P'.U.vm P'.U.heap)
    (st : Steps K.p.tables K.e K.below K.s0 (P'.U.setTop (mkF K.m pc' L S'))) : ∃ sf, Q v P'.U.heap sf ∧ ∀ B, (∀ x ∈ B, sf x) → OAt G K M (B ++ A) (cs + rm.cells) (sl + rm.slots) P'.U.heap pc' L S' := by
  obtain ⟨L', q1, q2, q3, q4, q5, q6, q7⟩ := hq
  rw [hT] at hg
  obtain ⟨X2, hS2, hZ2, hown2⟩ := rebS hS hk X' hS' hg hZ hown
  rw [q4, q5, q6] at X2
  exact ⟨_, q1, fun B hB => ⟨ok, P'.U.vm, P'.U.heap.size, P'.U, locs ++ L', X2, rfl, hS2, Nat.le_refl _, hZ2, hown2, hC.trans q7, fun x hx => (List.mem_append.mp hx).elim (hB x) fun hx => ⟨Nat.lt_of_lt_of_le (hA x hx).1 hg, q7.safe (hA x hx).1 (hA x hx).2⟩, hF.app q2, q3, st⟩⟩
theorem OAt.callS {y : MethodName} {B : ByteArray} {ml : Nat} {rt : Option FieldType} {rm : Room} {A' : List Addr} {Q : Option Value → Heap → (Addr → Prop) → Prop} {ix W : Nat} {argsL rest : List Value} (c : OAt G K M A cs sl h pc L S) (pc' : Nat) (hd : decode M.b pc = .ok (.invokestatic ix, 3))
    (hC : OCon G y B ml rt [] rm argsL.toArray A' h Q) (hstk : S = argsL.reverse ++ rest) (w1 : OW G (Jvm.Cond.methodLink M.own ix y)) (w2 : OW G (Jvm.Cond.static y)) (w3 : OW G (Jvm.Cond.initialized y.cls)) (w4 : OW G (Jvm.Cond.code y B ml rt)) (hlen : ∀ sig, parseMethodDescriptor y.desc = some sig → argsL.length = sig.parameters.length)
    (hA : ∀ x ∈ A', x ∈ A) (hW : (rest.map fun v => v.category).sum = W) (hl : W + (ml + 11) + rm.locals ≤ M.R.locals) (hf : rm.frames + 1 ≤ M.R.frames) (hc : cs + rm.cells ≤ M.R.cells) (hs : sl + rm.slots ≤ M.R.slots) (hy : y.cls ≠ "java/lang/invoke/MethodHandle" ∧ y.cls ≠ "java/lang/invoke/VarHandle" := by decide) (hL : L.size = M.ml := by rfl) (hp : pc + 3 = pc' := by rfl) :
    ∃ (v : Option Value) (h' : Heap) (sf : Addr → Prop), Q v h' sf ∧ ∀ B, (∀ x ∈ B, sf x) → OAt G K M (B ++ A) (cs + rm.cells) (sl + rm.slots) h' pc' L (v.toList ++ rest) := by
  subst hp
  obtain ⟨ok, vm0, k0, T, locs, X, hT, hS, hk, hZ, hown, hCh, hAs, hF, hO, st⟩ := c
  obtain ⟨v, vm1, P', hw1, X', hS', hg, hq, st'⟩ := callSS X ok.1 hown (mvT hZ w1) (mvT hZ w2) (mvT hZ w3) (mvT hZ w4) hy (hC.payer hZ w4 w3 hf hl ok.2.2.2.2.2.2 hCh.1 (fun x hx => hAs x (hA x hx)) hO) (g := mkF K.m pc L S) rfl (hL.trans ok.2.2.2.2.2.1.symm) (argsL := argsL) (rest := rest) hlen hstk (by show 2 * 0 + _ ≤ _; omega) (Jvm.hb ok.2.1 hd) (fun _ _ => ⟨rfl, hT, hc, hs⟩)
  obtain ⟨sf, q, c'⟩ := own_after (v := v) (L := L) (S' := v.toList ++ rest) (pc' := pc + 3) ok hT hS hk hZ hown hCh hAs hF X' hS' hg hq (st.trans st')
  exact ⟨v, _, sf, q, c'⟩
theorem OAt.callI {y : MethodName} {B : ByteArray} {ml : Nat} {rm : Room} {A' : List Addr} {Q : Option Value → Heap → (Addr → Prop) → Prop} {ix W : Nat} {a : Addr} {argsL rest : List Value} (c : OAt G K M A cs sl h pc L S) (pc' : Nat) (hd : decode M.b pc = .ok (.invokespecial ix, 3))
    (hC : OCon G y B ml none [] rm (.ref a :: argsL).toArray A' h Q) (hstk : S = argsL.reverse ++ .ref a :: rest) (w1 : OW G (Jvm.Cond.methodLink M.own ix y)) (w2 : OW G (Jvm.Cond.instanceMethod y)) (w3 : OW G (Jvm.Cond.initialized y.cls)) (w4 : OW G (Jvm.Cond.code y B ml none)) (hlen : ∀ sig, parseMethodDescriptor y.desc = some sig → argsL.length = sig.parameters.length)
    (hA : ∀ x ∈ A', x ∈ A) (hW : (rest.map fun v => v.category).sum = W) (hl : W + (ml + 11) + rm.locals ≤ M.R.locals) (hf : rm.frames + 1 ≤ M.R.frames) (hc : cs + rm.cells ≤ M.R.cells) (hs : sl + rm.slots ≤ M.R.slots) (hy1 : y.name = "<init>" := by rfl) (hy : y.cls ≠ "java/lang/invoke/MethodHandle" ∧ y.cls ≠ "java/lang/invoke/VarHandle" := by decide) (hL : L.size = M.ml := by rfl) (hp : pc + 3 = pc' := by rfl) :
    ∃ (v : Option Value) (h' : Heap) (sf : Addr → Prop), Q v h' sf ∧ ∀ B, (∀ x ∈ B, sf x) → OAt G K M (B ++ A) (cs + rm.cells) (sl + rm.slots) h' pc' L (v.toList ++ rest) := by
  subst hp
  obtain ⟨ok, vm0, k0, T, locs, X, hT, hS, hk, hZ, hown, hCh, hAs, hF, hO, st⟩ := c
  obtain ⟨v, vm1, P', hw1, X', hS', hg, hq, st'⟩ := X.specialBackS ok.1 hy1 hown (mvT hZ w1) (mvT hZ w2) (mvT hZ w4) hy (hC.payer hZ w4 w3 hf hl ok.2.2.2.2.2.2 hCh.1 (fun x hx => hAs x (hA x hx)) hO) (g := mkF K.m pc L S) rfl (hL.trans ok.2.2.2.2.2.1.symm) st (a := a) (argsL := argsL) (rest := rest) hlen hstk (by show 2 * 0 + _ ≤ _; omega) (Jvm.hb ok.2.1 hd) (fun _ _ => ⟨rfl, hT, hc, hs⟩)
  obtain ⟨sf, q, c'⟩ := own_after (v := v) (L := L) (S' := v.toList ++ rest) (pc' := pc + 3) ok hT hS hk hZ hown hCh hAs hF X' hS' hg hq st'
  exact ⟨v, _, sf, q, c'⟩
theorem OAt.callV {y z : MethodName} {C : String} {B : ByteArray} {ml : Nat} {rt : Option FieldType} {rm : Room} {A' : List Addr} {Q : Option Value → Heap → (Addr → Prop) → Prop} {ix W : Nat} {a : Addr} {argsL rest : List Value} (c : OAt G K M A cs sl h pc L S) (pc' : Nat) (hd : decode M.b pc = .ok (.invokevirtual ix, 3))
    (hC : OCon G z B ml rt [] rm (.ref a :: argsL).toArray A' h Q) (hstk : S = argsL.reverse ++ .ref a :: rest) (E : Exa G.Z h a C) (w1 : OW G (Jvm.Cond.methodLink M.own ix y)) (w2 : OW G (Jvm.Cond.declares y)) (nf : ONf G y) (w5 : OW G (Jvm.Cond.selects C y z)) (w6 : OW G (Jvm.Cond.instanceMethod z)) (w3 : OW G (Jvm.Cond.initialized z.cls)) (w4 : OW G (Jvm.Cond.code z B ml rt)) (hlen : ∀ sig, parseMethodDescriptor y.desc = some sig → argsL.length = sig.parameters.length)
    (hA : ∀ x ∈ A', x ∈ A) (hW : (rest.map fun v => v.category).sum = W) (hl : W + (ml + 11) + rm.locals ≤ M.R.locals) (hf : rm.frames + 1 ≤ M.R.frames) (hc : cs + rm.cells ≤ M.R.cells) (hs : sl + rm.slots ≤ M.R.slots) (hy : y.cls ≠ "java/lang/invoke/MethodHandle" ∧ y.cls ≠ "java/lang/invoke/VarHandle" := by decide) (hL : L.size = M.ml := by rfl) (hp : pc + 3 = pc' := by rfl) :
    ∃ (v : Option Value) (h' : Heap) (sf : Addr → Prop), Q v h' sf ∧ ∀ B, (∀ x ∈ B, sf x) → OAt G K M (B ++ A) (cs + rm.cells) (sl + rm.slots) h' pc' L (v.toList ++ rest) := by
  subst hp
  obtain ⟨ok, vm0, k0, T, locs, X, hT, hS, hk, hZ, hown, hCh, hAs, hF, hO, st⟩ := c
  obtain ⟨cB, kB, i1, i2, i3⟩ := isOf hZ hT E
  obtain ⟨v, vm1, P', hw1, X', hS', hg, hq, st'⟩ := X.virtualBackS ok.1 hown (mvT hZ w1) (mvT hZ w2) (nf _ hZ) (mvT hZ w5) (mvT hZ w6) hy (hC.payer hZ w4 w3 hf hl ok.2.2.2.2.2.2 hCh.1 (fun x hx => hAs x (hA x hx)) hO) i1 i3 (g := mkF K.m pc L S) rfl (hL.trans ok.2.2.2.2.2.1.symm) st (argsL := argsL) (rest := rest) hlen hstk (by show 2 * 0 + _ ≤ _; omega) (Jvm.hb ok.2.1 hd) (fun _ _ => ⟨rfl, hT, hc, hs⟩)
  obtain ⟨sf, q, c'⟩ := own_after (v := v) (L := L) (S' := v.toList ++ rest) (pc' := pc + 3) ok hT hS hk hZ hown hCh hAs hF X' hS' hg hq st'
  exact ⟨v, _, sf, q, c'⟩
theorem OAt.callF {y z : MethodName} {C : String} {B : ByteArray} {ml : Nat} {rt : Option FieldType} {rm : Room} {A' : List Addr} {Q : Option Value → Heap → (Addr → Prop) → Prop} {ix cnt W : Nat} {a : Addr} {argsL rest : List Value} (c : OAt G K M A cs sl h pc L S) (pc' : Nat) (hd : decode M.b pc = .ok (.invokeinterface ix cnt, 5))
    (hC : OCon G z B ml rt [] rm (.ref a :: argsL).toArray A' h Q) (hstk : S = argsL.reverse ++ .ref a :: rest) (E : Exa G.Z h a C) (w1 : OW G (Jvm.Cond.methodLink M.own ix y)) (w2 : OW G (Jvm.Cond.declares y)) (w7 : OW G (Jvm.Cond.interfaceMethod y.cls y.cls y.name y.desc)) (w5 : OW G (Jvm.Cond.selects C y z)) (w6 : OW G (Jvm.Cond.instanceMethod z)) (w8 : OW G (Jvm.Cond.publicMethod z)) (w9 : OW G (Jvm.Cond.unhidden C y.name y.desc)) (w10 : OW G (Jvm.Cond.castable C y.cls)) (w3 : OW G (Jvm.Cond.initialized z.cls)) (w4 : OW G (Jvm.Cond.code z B ml rt)) (hlen : ∀ sig, parseMethodDescriptor y.desc = some sig → argsL.length = sig.parameters.length)
    (hA : ∀ x ∈ A', x ∈ A) (hW : (rest.map fun v => v.category).sum = W) (hl : W + (ml + 11) + rm.locals ≤ M.R.locals) (hf : rm.frames + 1 ≤ M.R.frames) (hc : cs + rm.cells ≤ M.R.cells) (hs : sl + rm.slots ≤ M.R.slots) (m7 : ((Jvm.Cond.interfaceMethod y.cls y.cls y.name y.desc).onTables && (Jvm.Cond.interfaceMethod y.cls y.cls y.name y.desc).keepsFace) = true := by first | rfl | decide) (hy : y.cls ≠ "java/lang/invoke/MethodHandle" ∧ y.cls ≠ "java/lang/invoke/VarHandle" := by decide) (hL : L.size = M.ml := by rfl) (hp : pc + 5 = pc' := by rfl) :
    ∃ (v : Option Value) (h' : Heap) (sf : Addr → Prop), Q v h' sf ∧ ∀ B, (∀ x ∈ B, sf x) → OAt G K M (B ++ A) (cs + rm.cells) (sl + rm.slots) h' pc' L (v.toList ++ rest) := by
  subst hp
  obtain ⟨ok, vm0, k0, T, locs, X, hT, hS, hk, hZ, hown, hCh, hAs, hF, hO, st⟩ := c
  obtain ⟨cB, kB, i1, i2, i3⟩ := isOf hZ hT E
  obtain ⟨v, vm1, P', hw1, X', hS', hg, hq, st'⟩ := X.interfaceBackS ok.1 hown (mvT hZ w1) (mvT hZ w2) (mvT hZ w7 m7) (mvT hZ w5) (mvT hZ w6) (mvT hZ w8) (mvT hZ w9) (mvT hZ w10) hy (hC.payer hZ w4 w3 hf hl ok.2.2.2.2.2.2 hCh.1 (fun x hx => hAs x (hA x hx)) hO) i1 i2 i3 (g := mkF K.m pc L S) rfl (hL.trans ok.2.2.2.2.2.1.symm) st (argsL := argsL) (rest := rest) hlen hstk (by show 2 * 0 + _ ≤ _; omega) (Jvm.hb ok.2.1 hd) (fun _ _ => ⟨rfl, hT, hc, hs⟩)
  obtain ⟨sf, q, c'⟩ := own_after (v := v) (L := L) (S' := v.toList ++ rest) (pc' := pc + 5) ok hT hS hk hZ hown hCh hAs hF X' hS' hg hq st'
  exact ⟨v, _, sf, q, c'⟩
theorem OCon.intro {y : MethodName} {B : ByteArray} {ml : Nat} {rt : Option FieldType} {ws : List Jvm.Cond} {rm : Room} {as : Array Value} {Q : Option Value → Heap → (Addr → Prop) → Prop} (pf : plainFor y = true) (ew : EW G.Z G.a0 G.EL) (L0 : Array Slot) (ef : ∀ m, entryFrame m as ml = mkF m 0 L0 []) 
    (body : ∀ K, OAt G K (B, y.cls, rt, y.name, ml, rm) A 0 0 h 0 L0 [] → ODone G K rm Q) : OCon G y B ml rt ws rm as A h Q := by
  refine MetFree.of_bodySF pf hisR ?_
  intro p e s m args below meth c s₁ Bd hml0 hP hK
  obtain ⟨rfl, hZ, hh, hCH, hA, hO⟩ := hP
  have X0 : Stand p G.l e rm s m args below meth c s₁ [] 0 0 := Stand.of_body Bd
  have e0 : s₁.heap = h := by rw [← hh, Bd.state]; rfl
  have nm := (name_of_methodNamed Bd.named Bd.method).1
  exact body (p, e, s, m, args, below, meth, c, s₁.setTop (entryFrame m args ml)) ⟨⟨Bd.exec, Bd.bytes, Bd.returns, Bd.notSynchronized, nm, hml0, ew⟩, s.vm, s.heap.size, s₁, [], X0, e0, (State.WarmedH.refl s).since _, by rw [hh]; exact Nat.le_refl _, hZ, findClass_of_methodNamed Bd.named,
    by rw [hh]; exact CHr.refl hCH, hA, Fr.nil _, hO, castTop (ef m) (Steps.refl _)⟩
/-- the end of a walk, whatever the return -/
theorem OAt.done {rm : Room} {Q : Option Value → Heap → (Addr → Prop) → Prop} {v : Option Value} (c : OAt G K M A cs sl h pc L S) (hv : M.rt = none → v = none) (hc : cs ≤ rm.cells) (hs : sl ≤ rm.slots) (hQ : ∀ sf : Addr → Prop, (∀ x ∈ A, sf x) → Q v h sf)
    (f : ∀ vm0 T locs, OSt G K M cs sl h vm0 T locs → K.p.tables.exec = Jvm.exec → K.c.code = M.b → K.meth.sig.returnType = M.rt → ∀ fs, (∀ (f : JFrame) (acts : List Action), f.method = K.m → f.locked = none → f.entered = [] → (doReturn K.e (T.setTop f) acts v).1 = T.setFrames fs) → Steps K.p.tables K.e K.below (T.setTop (mkF K.m pc L S)) (T.setFrames fs)) : ODone G K rm Q := by
  obtain ⟨ok, vm0, k0, T, locs, X, hT, hS, hk, hZ, hown, hCh, hAs, hF, hO, st⟩ := c
  obtain ⟨fs, hr, hrun, hended, hW⟩ := (X.more hc hs).leaveW hS (by rw [hT]; exact hk) (v := v) (fun q => hv (ok.2.2.1.symm.trans q)) ok.2.2.2.1
  subst hT
  have hc2 := CHv.at X hZ ok.2.2.2.2.2.2 hCh.1
  refine ⟨T.setFrames fs, _, st.trans (f vm0 T locs X ok.1 ok.2.1 ok.2.2.1 fs hr), hrun, hended, v, locs, rfl, hQ _ fun x hx => own_safe hc2 (hAs x hx), hF, hO, hCh.trans hc2, hW⟩
theorem OAt.ret {rm : Room} {Q : Option Value → Heap → (Addr → Prop) → Prop} (c : OAt G K M A cs sl h pc L []) (hd : decode M.b pc = .ok (.return_, 1)) (hrt : M.rt = none) (hQ : ∀ sf : Addr → Prop, (∀ x ∈ A, sf x) → Q none h sf) (hc : cs ≤ rm.cells) (hs : sl ≤ rm.slots) : ODone G K rm Q :=
  c.done (fun _ => rfl) hc hs hQ fun vm0 T locs X hx hb hr fs hl => X.returnOut hx (hr.trans hrt) (Jvm.hb hb hd) hl
theorem OAt.reti {rm : Room} {Q : Option Value → Heap → (Addr → Prop) → Prop} {w : Int32} {t : FieldType} (c : OAt G K M A cs sl h pc L (.int w :: S)) (hd : decode M.b pc = .ok (.ireturn, 1)) (hrt : M.rt = some t) (hn : narrow t (.int w) = .int w) (hti : t = .int ∨ t = .boolean ∨ t = .byte ∨ t = .char ∨ t = .short) (hQ : ∀ sf : Addr → Prop, (∀ x ∈ A, sf x) → Q (some (.int w)) h sf) (hc : cs ≤ rm.cells) (hs : sl ≤ rm.slots) : ODone G K rm Q :=
  c.done (fun q => by rw [hrt] at q; cases q) hc hs hQ fun vm0 T locs X hx hb hr fs hl => retOut X hx (hr.trans hrt) hn (Or.inl ⟨rfl, hti, w, rfl⟩) (Jvm.hb hb hd) hl
theorem OAt.retl {rm : Room} {Q : Option Value → Heap → (Addr → Prop) → Prop} {w : Int64} (c : OAt G K M A cs sl h pc L (.long w :: S)) (hd : decode M.b pc = .ok (.lreturn, 1)) (hrt : M.rt = some .long) (hQ : ∀ sf : Addr → Prop, (∀ x ∈ A, sf x) → Q (some (.long w)) h sf) (hc : cs ≤ rm.cells) (hs : sl ≤ rm.slots) : ODone G K rm Q :=
  c.done (fun q => by rw [hrt] at q; cases q) hc hs hQ fun vm0 T locs X hx hb hr fs hl => retOut X hx (hr.trans hrt) rfl (Or.inr (Or.inl ⟨rfl, rfl, w, rfl⟩)) (Jvm.hb hb hd) hl
theorem OAt.reta {rm : Room} {Q : Option Value → Heap → (Addr → Prop) → Prop} {w : Value} {t : FieldType} (c : OAt G K M A cs sl h pc L (w :: S)) (hd : decode M.b pc = .ok (.areturn, 1)) (hrt : M.rt = some t) (ht : t.isReference = true) (hn : narrow t w = w) (hw : w.isRef = true) (hQ : ∀ sf : Addr → Prop, (∀ x ∈ A, sf x) → Q (some w) h sf) (hc : cs ≤ rm.cells) (hs : sl ≤ rm.slots) : ODone G K rm Q :=
  c.done (fun q => by rw [hrt] at q; cases q) hc hs hQ fun vm0 T locs X hx hb hr fs hl => retOut X hx (hr.trans hrt) hn (Or.inr (Or.inr (Or.inr (Or.inr ⟨rfl, ht, hw⟩)))) (Jvm.hb hb hd) hl
end Calls
section Cold
variable {G : Gx} {K : Kx} {M : Mx} {A : List Addr} {cs sl : Nat} {h : Heap} {pc : Nat} {L : Array Slot} {S : List Value}
theorem OAt.istoreS {k : Nat} {v : Int32} {o : Slot} (c : OAt G K M A cs sl h pc L (.int v :: S)) (pc' : Nat) (hd : decode M.b pc = .ok (.istore k, 2)) (hl : L[k]? = some o) (ho : One o) (hp : pc + 2 = pc' := by rfl) : OAt G K M A cs sl h pc' (L.setIfInBounds k (.val (.int v))) S := by
  subst hp
  exact c.pure fun vm0 T locs X hT hx hb hZ hown hO => ⟨T, X, hT, fun t r => XS.istoreS X.here hx rfl (Jvm.hb hb hd) rfl hl ho r⟩
theorem OAt.astoreS {k : Nat} {v : Value} {o : Slot} (c : OAt G K M A cs sl h pc L (v :: S)) (pc' : Nat) (hd : decode M.b pc = .ok (.astore k, 2)) (hv : v.isRef = true) (hc : v.category = 1) (hl : L[k]? = some o) (ho : One o) (hp : pc + 2 = pc' := by rfl) : OAt G K M A cs sl h pc' (L.setIfInBounds k (.val v)) S := by
  subst hp
  exact c.pure fun vm0 T locs X hT hx hb hZ hown hO => ⟨T, X, hT, fun t r => XS.astoreS X.here hx rfl (Jvm.hb hb hd) rfl hv hc hl ho r⟩
/-- ldc of a String constant whose text is assumed held -/
theorem OAt.ldcS {text : String} {ix : Nat} (c : OAt G K M A cs sl h pc L S) (pc' : Nat) (hd : decode M.b pc = .ok (.ldc ix, 2)) (w : OW G (Jvm.Cond.stringLink M.own ix text)) (wS : ∀ a ∈ Bundle.stringAtoms, OW G a) (hmem : (M.own, ix) ∈ G.EL) (vs : List Value) (ht : (∀ c ∈ text.toList, c.toNat < 256) ∧ text.toList.map (fun c => Value.int (Jvm.Lit.byteI c.toNat.toUInt16)) = vs) (hvl : vs.length < 2147483648)
    (n : Nat) (hn : 4 * text.toList.length ≤ n) (hbig : n ≤ 536870912) (hc : cs + 2 ≤ M.R.cells) (hl : sl + (n + 4) ≤ M.R.slots) (hp : pc + 2 = pc' := by rfl) :
    ∃ (a b : Addr) (h' : Heap), Ext h h' ∧ Exa G.Z h' a "java/lang/String" ∧ Fld G.Z h' a "java/lang/String" "coder" "B" (.int 0) ∧ Fld G.Z h' a "java/lang/String" "value" "[B" (.ref b) ∧ Ary G.Z h' b .byte vs ∧ (∀ x ∈ A, x ≠ a ∧ x ≠ b) ∧ OAt G K M A (cs + 2) (sl + (n + 4)) h' pc' L (.ref a :: S) := by
  subst hp
  obtain ⟨ok, vm0, k0, T, locs, X, hT, hS, hk, hZ, hown, hCh, hAs, hF, hO, st⟩ := c
  have e := Int32.toInt_ofNat_small (show vs.length < 2 ^ 31 by omega)
  have e2 : (Int32.ofNat vs.length).toNatClampNeg = vs.length := by simp only [Int32.toNatClampNeg, e]; simp
  obtain ⟨a, T', h', k1, b, kk, X', hT', E, hS', hk', hZ', hown', Ex, Co, Va, Av, la, lb, hC', hLit, hne, st'⟩ := ldcCH X ok.1 hZ hown w wS hT hS hk ok.2.2.2.2.2.2 hmem hCh.1 ht (z := Int32.ofNat vs.length) (by rw [Int32.lt_iff_toInt_lt, e]; show ¬ (vs.length : Int) < 0; omega) e2 (g := mkF K.m pc L S) rfl (Jvm.hb ok.2.1 hd) hn hbig hc hl
  have hs : ∀ x ∈ A, OSafe G T'.vm h' x := fun x hx => ⟨Nat.lt_of_lt_of_le (hAs x hx).1 E.1, hC'.safe (hAs x hx).1 (hAs x hx).2⟩
  exact ⟨a, b, h', E, Ex, Co, Va, Ary.of_arv Av e2, fun x hx => hne x (hs x hx).2, ok, T'.vm, k1, T', locs, X', hT', hS', hk', hZ', hown', hCh.trans hC', hs, hF, hO.ext E, st.trans (st' _ (Steps.refl _))⟩
end Cold
section Conds
variable {x y : Int32}
theorem own_ic_eq_t (h : x = y) : if_icmp.holds .eq x y = true := (teq h).1
theorem own_ic_eq_f (h : ¬ x = y) : if_icmp.holds .eq x y = false := (feq h).1
theorem own_ic_ne_t (h : ¬ x = y) : if_icmp.holds .ne x y = true := (feq h).2
theorem own_ic_ne_f (h : x = y) : if_icmp.holds .ne x y = false := (teq h).2
theorem own_ic_lt_t (h : x < y) : if_icmp.holds .lt x y = true := (tlt h).1
theorem own_ic_lt_f (h : ¬ x < y) : if_icmp.holds .lt x y = false := (flt h).1
theorem own_ic_ge_t (h : ¬ x < y) : if_icmp.holds .ge x y = true := (flt h).2.1
theorem own_ic_ge_f (h : x < y) : if_icmp.holds .ge x y = false := (tlt h).2.1
theorem own_ic_gt_t (h : y < x) : if_icmp.holds .gt x y = true := (tlt h).2.2.1
theorem own_ic_gt_f (h : ¬ y < x) : if_icmp.holds .gt x y = false := (flt h).2.2.1
theorem own_ic_le_t (h : ¬ y < x) : if_icmp.holds .le x y = true := (flt h).2.2.2
theorem own_ic_le_f (h : y < x) : if_icmp.holds .le x y = false := (tlt h).2.2.2
theorem own_if_eq_t (h : x = 0) : ifCond.holds .eq x = true := (if0 _ _).trans (own_ic_eq_t h)
theorem own_if_eq_f (h : ¬ x = 0) : ifCond.holds .eq x = false := (if0 _ _).trans (own_ic_eq_f h)
theorem own_if_ne_t (h : ¬ x = 0) : ifCond.holds .ne x = true := (if0 _ _).trans (own_ic_ne_t h)
theorem own_if_ne_f (h : x = 0) : ifCond.holds .ne x = false := (if0 _ _).trans (own_ic_ne_f h)
theorem own_if_lt_t (h : x < 0) : ifCond.holds .lt x = true := (if0 _ _).trans (own_ic_lt_t h)
theorem own_if_lt_f (h : ¬ x < 0) : ifCond.holds .lt x = false := (if0 _ _).trans (own_ic_lt_f h)
theorem own_if_ge_t (h : ¬ x < 0) : ifCond.holds .ge x = true := (if0 _ _).trans (own_ic_ge_t h)
theorem own_if_ge_f (h : x < 0) : ifCond.holds .ge x = false := (if0 _ _).trans (own_ic_ge_f h)
theorem own_if_gt_t (h : 0 < x) : ifCond.holds .gt x = true := (if0 _ _).trans (own_ic_gt_t h)
theorem own_if_gt_f (h : ¬ 0 < x) : ifCond.holds .gt x = false := (if0 _ _).trans (own_ic_gt_f h)
theorem own_if_le_t (h : ¬ 0 < x) : ifCond.holds .le x = true := (if0 _ _).trans (own_ic_le_t h)
theorem own_if_le_f (h : 0 < x) : ifCond.holds .le x = false := (if0 _ _).trans (own_ic_le_f h)
end Conds
section Ints
theorem own_toInt {n : Nat} (h : n < 2147483648) : (Int32.ofNat n).toInt = n := Int32.toInt_ofNat_small h
theorem own_lt {i n : Nat} (h : i < n) (hn : n < 2147483648) : Int32.ofNat i < Int32.ofNat n := by
  rw [Int32.lt_iff_toInt_lt, own_toInt (by omega), own_toInt hn]; omega
theorem own_nlt {i n : Nat} (h : ¬ i < n) (hi : i < 2147483648) : ¬ Int32.ofNat i < Int32.ofNat n := by
  rw [Int32.lt_iff_toInt_lt, own_toInt hi, own_toInt (by omega)]; omega
theorem own_nneg {i : Nat} (hi : i < 2147483648) : ¬ Int32.ofNat i < 0 := own_nlt (i := i) (n := 0) (by omega) hi
theorem own_inj {i n : Nat} (h : Int32.ofNat i = Int32.ofNat n) (hi : i < 2147483648) (hn : n < 2147483648) : i = n := by
  have := congrArg Int32.toInt h
  rw [own_toInt hi, own_toInt hn] at this; omega
theorem own_succ (i : Nat) : Int32.ofNat i + Int32.ofInt 1 = Int32.ofNat (i + 1) := by
  rw [Int32.ofNat_add]; rfl
theorem own_addn (i k : Nat) : Int32.ofNat i + Int32.ofNat k = Int32.ofNat (i + k) := (Int32.ofNat_add i k).symm
theorem own_subn (i k : Nat) (h : k ≤ i) (hi : i < 2147483648) : Int32.ofNat i - Int32.ofNat k = Int32.ofNat (i - k) := by
  apply Int32.toInt_inj.mp
  have := c_isub (Int32.ofNat i) (Int32.ofNat k)
  rw [own_toInt hi, own_toInt (by omega)] at this
  rw [own_toInt (by omega)]
  have r := rng32 (Int32.ofNat i - Int32.ofNat k)
  omega
theorem own_shl1 (n : Nat) (hn : n < 1073741823) : Int32.ofNat n <<< ((1 : Int32) &&& 31) = Int32.ofNat (2 * n) := by
  apply Int32.toInt_inj.mp
  have := c_ishl (Int32.ofNat n) 1 1 (by decide)
  rw [own_toInt (by omega)] at this
  rw [own_toInt (by omega)]
  have r := rng32 (Int32.ofNat n <<< ((1 : Int32) &&& 31))
  omega
/-- what i2b leaves -/
def lo8 (x : Int32) : Int32 := x.toInt8.toInt32
theorem own_lo8_lo8 (x : Int32) : (lo8 x).toInt8.toInt32 = lo8 x := by
  apply Int32.toInt_inj.mp
  have h1 := c_i2b (lo8 x); have h2 := c_i2b x
  have e : (lo8 x).toInt = x.toInt8.toInt32.toInt := rfl
  omega
theorem own_nar_b (x : Int32) : nar .byte (x.toInt8.toInt32) = lo8 x := own_lo8_lo8 x
theorem own_lo8_rng (x : Int32) : ((lo8 x).toInt - x.toInt) % 256 = 0 ∧ -128 ≤ (lo8 x).toInt ∧ (lo8 x).toInt < 128 := c_i2b x
theorem own_shr0 (x : Int32) : x >>> ((0 : Int32) &&& 31) = x := by
  apply Int32.toInt_inj.mp
  rw [c_ishr x 0 0 (by decide)]; simp
/-- a char is what i2c leaves of it -/
theorem own_i2c {x : Int32} (h : 0 ≤ x.toInt ∧ x.toInt < 65536) : x.toUInt32.toUInt16.toUInt32.toInt32 = x := by
  apply Int32.toInt_inj.mp
  have := c_i2c x
  omega
theorem own_narc {x : Int32} (h : 0 ≤ x.toInt ∧ x.toInt < 65536) : nar .char x = x := own_i2c h
theorem own_charfit {x : Int32} (h : fits .char (.int x) = true) : 0 ≤ x.toInt ∧ x.toInt < 65536 := by
  obtain ⟨h1, h2⟩ := rng_char h
  rw [Int32.lt_iff_toInt_lt] at h1 h2
  have e1 : (0 : Int32).toInt = 0 := by decide
  have e2 : (65535 : Int32).toInt = 65535 := by decide
  omega
/-- a Latin-1 byte read back -/
theorem own_mask {x : Int32} (h : 0 ≤ x.toInt ∧ x.toInt < 256) : lo8 x &&& 255 = x := by
  apply Int32.toInt_inj.mp
  rw [c_mask (lo8 x) 255 8 (by decide) (by decide)]
  have := own_lo8_rng x
  omega
/-- two bytes read back -/
theorem own_char2 {x : Int32} (h : 0 ≤ x.toInt ∧ x.toInt < 65536) : ((((lo8 x &&& 255) <<< ((0 : Int32) &&& 31)) ||| ((lo8 (x >>> ((8 : Int32) &&& 31)) &&& 255) <<< ((8 : Int32) &&& 31))).toUInt32.toUInt16.toUInt32.toInt32) = x := by
  have e0 : ∀ z : Int32, z <<< ((0 : Int32) &&& 31) = z := fun z => by
    apply Int32.toInt_inj.mp
    have := c_ishl z 0 0 (by decide)
    have r := rng32 z; have r2 := rng32 (z <<< ((0 : Int32) &&& 31)); omega
  have h8 := c_ishr x 8 8 (by decide)
  have a1 := c_mask (lo8 x) 255 8 (by decide) (by decide)
  have a2 := c_mask (lo8 (x >>> ((8 : Int32) &&& 31))) 255 8 (by decide) (by decide)
  have l1 := own_lo8_rng x
  have l2 := own_lo8_rng (x >>> ((8 : Int32) &&& 31))
  have s2 := c_ishl (lo8 (x >>> ((8 : Int32) &&& 31)) &&& 255) 8 8 (by decide)
  have rs := rng32 ((lo8 (x >>> ((8 : Int32) &&& 31)) &&& 255) <<< ((8 : Int32) &&& 31))
  rw [e0]
  have o := c_or' (lo8 x &&& 255) ((lo8 (x >>> ((8 : Int32) &&& 31)) &&& 255) <<< ((8 : Int32) &&& 31)) 8 (by decide) 256 (by decide)
  have ov : ((lo8 x &&& 255) ||| ((lo8 (x >>> ((8 : Int32) &&& 31)) &&& 255) <<< ((8 : Int32) &&& 31))).toInt = x.toInt := by
    have r := rng32 ((lo8 x &&& 255) ||| ((lo8 (x >>> ((8 : Int32) &&& 31)) &&& 255) <<< ((8 : Int32) &&& 31)))
    have := o (by omega) (by omega) (by omega)
    omega
  have q : ((lo8 x &&& 255) ||| ((lo8 (x >>> ((8 : Int32) &&& 31)) &&& 255) <<< ((8 : Int32) &&& 31))) = x := Int32.toInt_inj.mp ov
  rw [q]; exact own_i2c h
end Ints
section Lists
theorem own_fill {α : Type} (us vs : List α) (i : Nat) (x : α) (hx : us[i]? = some x) (hv : i < vs.length) : (us.take i ++ vs.drop i).set i x = us.take (i + 1) ++ vs.drop (i + 1) := by
  obtain ⟨hi, rfl⟩ := List.getElem?_eq_some_iff.mp hx
  have hl : (us.take i).length = i := by simp; omega
  rw [List.set_append_right _ _ (by omega), hl, Nat.sub_self, List.drop_eq_getElem_cons hv, List.set_cons_zero, ← List.take_append_getElem hi, List.append_assoc]
  rfl
end Lists
section Strings
variable {Z : State} {h h' : Heap} {a b x : Addr} {cs : List Int32}
def Lat (cs : List Int32) : Prop := ∀ c ∈ cs, 0 ≤ c.toInt ∧ c.toInt < 256
def Chs (cs : List Int32) : Prop := ∀ c ∈ cs, 0 ≤ c.toInt ∧ c.toInt < 65536
def encL (cs : List Int32) : List Value := cs.map fun c => .int (lo8 c)
def encU (cs : List Int32) : List Value := cs.flatMap fun c => [.int (lo8 c), .int (lo8 (c >>> ((8 : Int32) &&& 31)))]
theorem encL_len (cs : List Int32) : (encL cs).length = cs.length := by simp [encL]
theorem encU_len (cs : List Int32) : (encU cs).length = 2 * cs.length := by
  induction cs with
  | nil => rfl
  | cons c cs ih => simp only [encU, List.flatMap_cons, List.length_append, List.length_cons, List.length_nil] at ih ⊢; omega
/-- a String of the bytes bs, of this coder -/
def StrB (Z : State) (h : Heap) (a : Addr) (co : Int32) (bs : List Value) : Prop := Exa Z h a "java/lang/String" ∧ Fld Z h a "java/lang/String" "coder" "B" (.int co) ∧ ∃ b, Fld Z h a "java/lang/String" "value" "[B" (.ref b) ∧ Ary Z h b .byte bs
/-- a String of the chars cs -/
def Str (Z : State) (h : Heap) (a : Addr) (cs : List Int32) : Prop := (Lat cs ∧ StrB Z h a 0 (encL cs)) ∨ (Chs cs ∧ (∃ c ∈ cs, 255 < c.toInt) ∧ StrB Z h a 1 (encU cs))
theorem StrB.ext {co : Int32} {bs : List Value} (F : StrB Z h a co bs) (E : Ext h h') : StrB Z h' a co bs := by
  obtain ⟨h1, h2, b, h3, h4⟩ := F; exact ⟨h1.ext E, h2.ext E, b, h3.ext E, h4.ext E⟩
theorem Str.ext (F : Str Z h a cs) (E : Ext h h') : Str Z h' a cs := F.imp (fun q => ⟨q.1, q.2.ext E⟩) fun q => ⟨q.1, q.2.1, q.2.2.ext E⟩
/-- no String that has its value, and no byte[] -/
def NStr (Z : State) (h : Heap) (x : Addr) : Prop := (∀ co bs, ¬ StrB Z h x co bs) ∧ ∀ vs, ¬ Ary Z h x .byte vs
theorem StrB.keep {co : Int32} {bs : List Value} {ws : List Addr} (F : StrB Z h a co bs) (K : Keep h h' ws) (hw : ∀ x ∈ ws, NStr Z h x) : StrB Z h' a co bs := by
  have ha : a ∉ ws := fun q => (hw a q).1 _ _ F
  obtain ⟨h1, h2, b, h3, h4⟩ := F
  exact ⟨h1.keep K, h2.keep K ha, b, h3.keep K ha, h4.keep K fun q => (hw b q).2 _ h4⟩
theorem Str.keep {ws : List Addr} (F : Str Z h a cs) (K : Keep h h' ws) (hw : ∀ x ∈ ws, NStr Z h x) : Str Z h' a cs := F.imp (fun q => ⟨q.1, q.2.keep K hw⟩) fun q => ⟨q.1, q.2.1, q.2.2.keep K hw⟩
theorem own_arr_type {t1 t2 : FieldType} {c1 c2 : Cell} (A : Arr Z h x c1 t1) (B : Arr Z h x c2 t2) : t1 = t2 := by
  cases A.1.symm.trans B.1
  obtain ⟨-, k1, j1, comp1, j2⟩ := A.2.1
  obtain ⟨-, k2, i1, comp2, i2⟩ := B.2.1
  cases j1.symm.trans i1
  rw [j2] at i2; cases i2; rfl
theorem NStr.arr {ty : FieldType} {vs : List Value} {a0 : Array Value} {n : Nat} (F : Ary Z h x ty vs) (ht : ty ≠ .byte) (wi : (Jvm.Cond.instantiable "java/lang/String" n).before a0 Z = true) : NStr Z h x := by
  obtain ⟨c, A, -⟩ := F
  refine ⟨fun co bs q => ne_arr q.1 wi A rfl, fun vs q => ?_⟩
  obtain ⟨c', A', -⟩ := q
  exact ht (own_arr_type A A')
theorem NStr.exa {C : String} {a0 : Array Value} {n : Nat} (F : Exa Z h x C) (hC : C ≠ "java/lang/String") (wi : (Jvm.Cond.instantiable C n).before a0 Z = true) : NStr Z h x := by
  refine ⟨fun co bs q => ne_exa F q.1 hC rfl, fun vs q => ?_⟩
  obtain ⟨c', A', -⟩ := q
  exact ne_arr F wi A' rfl
theorem NStr.null {a0 : Array Value} {n : Nat} (F : Exa Z h x "java/lang/String") (V : Fld Z h x "java/lang/String" "value" "[B" .null) (wi : (Jvm.Cond.instantiable "java/lang/String" n).before a0 Z = true) : NStr Z h x := by
  refine ⟨fun co bs q => ?_, fun vs q => ?_⟩
  · obtain ⟨-, -, b, q3, -⟩ := q
    exact V.ne q3 (by simp) rfl
  · obtain ⟨c', A', -⟩ := q
    exact ne_arr F wi A' rfl
theorem NStr.new (hx : h.size ≤ x) : NStr Z h x := ⟨fun _ _ q => absurd q.1.lt (Nat.not_lt.mpr hx), fun _ q => absurd q.lt (Nat.not_lt.mpr hx)⟩
theorem own_all1 {P : Addr → Prop} (q : P x) : ∀ y ∈ [x], P y := fun y hy => by cases List.mem_singleton.mp hy; exact q
theorem own_chs (F : Ary Z h a .char (cs.map Value.int)) : Chs cs := by
  obtain ⟨c, A, -, -, hf⟩ := F
  intro c hc
  exact own_charfit (hf _ (List.mem_map.mpr ⟨c, hc, rfl⟩))
end Strings
section More
variable {G : Gx} {K : Kx} {M : Mx} {A : List Addr} {cs sl : Nat} {h h' : Heap} {pc : Nat} {L : Array Slot} {S : List Value}
/-- an array of references to objects of the class C, and what it holds -/
def Arf (Z : State) (h : Heap) (a : Addr) (C : String) (vs : List Value) : Prop := ∃ c : Cell, Arr Z h a c (.object C) ∧ Ovr Z c.cls C ∧ c.slots.toList = vs ∧ vs.length < 2147483648 ∧ ∀ v ∈ vs, fits (.object C) v = true
theorem Arf.ary {Z : State} {a : Addr} {C : String} {vs : List Value} (F : Arf Z h a C vs) : Ary Z h a (.object C) vs := by obtain ⟨c, A, -, r⟩ := F; exact ⟨c, A, r⟩
theorem Arf.ext {Z : State} {a : Addr} {C : String} {vs : List Value} (F : Arf Z h a C vs) (E : Ext h h') : Arf Z h' a C vs := by obtain ⟨c, A, r⟩ := F; exact ⟨c, A.ext E, r⟩
theorem Arf.keep {Z : State} {a : Addr} {C : String} {vs : List Value} (F : Arf Z h a C vs) {ws : List Addr} (K : Keep h h' ws) (q : a ∉ ws) : Arf Z h' a C vs := by obtain ⟨c, A, r⟩ := F; exact ⟨c, ⟨K.2.1 a c A.1 q, A.2⟩, r⟩
theorem OAt.anewarr {C : String} {ix : Nat} {n : Int32} (c : OAt G K M A cs sl h pc L (.int n :: S)) (pc' : Nat) (hd : decode M.b pc = .ok (.anewarray ix, 3)) (w1 : OW G (Jvm.Cond.classLink M.own ix C)) (w2 : OW G (Jvm.Cond.arrayOver (.object C))) (k : Nat) (hn : Int32.ofNat k = n) (cap : Nat) (hk : k ≤ cap) (hb : cap * 8 ≤ 536870912) (hc : cs + 1 ≤ M.R.cells) (hl : sl + cap ≤ M.R.slots) (hp : pc + 3 = pc' := by rfl) :
    ∃ (a : Addr) (h' : Heap), a = h.size ∧ Ext h h' ∧ G.n0 ≤ a ∧ Arf G.Z h' a C (List.replicate k .null) ∧ OAt G K M (a :: A) (cs + 1) (sl + cap) h' pc' L (.ref a :: S) := by
  subst hp hn
  have e := Int32.toInt_ofNat_small (show k < 2 ^ 31 by omega)
  have e2 : (Int32.ofNat k).toNatClampNeg = k := by simp only [Int32.toNatClampNeg, e]; simp
  obtain ⟨h', E, hn, hA, c'⟩ := c.grow (pc' := pc + 3) (L' := L) (S' := .ref h.size :: S) (cs' := cs + 1) (sl' := sl + cap) (P := fun h' => Arf G.Z h' h.size C (List.replicate k .null))
    fun vm0 T locs X hT hx hbb hZ hown => by
      obtain ⟨T', h', cA, X', e', E', Ar, O, st⟩ := newR X hx hZ hown w1 w2 hT (g := mkF K.m pc L (.int (Int32.ofNat k) :: S)) rfl (Jvm.hb hbb hd) rfl (by rw [Int32.lt_iff_toInt_lt, e]; show ¬ (k : Int) < 0; omega) (cap := cap) (by omega) hb hc hl
      obtain ⟨c1, A1, q1, q2, q3⟩ := Ary.new Ar (by omega) rfl
      cases A1.1.symm.trans Ar.1
      exact ⟨T', h', X', e', E', Ar.lt, ⟨_, Ar, O, q1, q2, q3⟩, st⟩
  exact ⟨h.size, h', rfl, E, hn, hA, c'⟩
theorem OAt.aastore {C : String} {vs : List Value} {a y : Addr} {j : Int32} (c : OAt G K M A cs sl h pc L (.ref y :: .int j :: .ref a :: S)) (pc' : Nat) (hd : decode M.b pc = .ok (.aastore, 1)) (F : Arf G.Z h a C vs) (I : Ins G.Z h y C true) (i : Nat) (hj : Int32.ofNat i = j) (hi : i < vs.length) (hn : G.n0 ≤ a) (hp : pc + 1 = pc' := by rfl) :
    ∃ h', Wr h h' a i (.ref y) ∧ Arf G.Z h' a C (vs.set i (.ref y)) ∧ OAt G K M A cs sl h' pc' L S := by
  subst hp
  obtain ⟨cl, Ar, O, rfl, hl, hf⟩ := F
  have F' : Ary G.Z h a (.object C) cl.slots.toList := ⟨cl, Ar, rfl, hl, hf⟩
  obtain ⟨e, q⟩ := own_ix hj (by simpa using hi) (by simpa using hl)
  obtain ⟨h', W, c'⟩ := c.write (pc' := pc + 1) (L' := L) (S' := S) (a := a) (i := i) (v := .ref y) hn (fun vm0 hal _ => Safe.arr hal Ar (by simp))
    fun vm0 T locs X hT hx hb hZ hown hnm => by
      have st := stR X hx hZ hT Ar q rfl (Sto.of Ar O I) (g := mkF K.m pc L (.ref y :: .int j :: .ref a :: S)) rfl rfl (Jvm.hb hb hd)
      rw [e] at st
      exact st
  have As := Ar.same W
  obtain ⟨c1, A1, q1, q2, q3⟩ := F'.set W (v := .ref y) rfl
  cases A1.1.symm.trans As.1
  exact ⟨h', W, ⟨_, As, O, q1, q2, q3⟩, c'⟩
/-- a step that writes the cells ws, all ours -/
theorem OAt.write2 {pc' : Nat} {L' : Array Slot} {S' : List Value} {a : Addr} {P : Heap → Prop} (c : OAt G K M A cs sl h pc L S) (hn : G.n0 ≤ a) (hA : a ∈ A)
    (f : ∀ vm0 T locs, OSt G K M cs sl h vm0 T locs → T.heap = h → K.p.tables.exec = Jvm.exec → K.c.code = M.b → G.Z.Warmed39 (K.s.setVm vm0).vm → (K.s.setVm vm0).vm.findClass M.own = some K.m.cls → Fr G.n0 locs → K.c.maxLocals = M.ml →
      ∃ T' h' L2, OSt G K M cs sl h vm0 T' L2 ∧ T'.heap = h' ∧ Fr G.n0 L2 ∧ Keep h h' [a] ∧ P h' ∧ ∀ target, Steps K.p.tables K.e K.below (T'.setTop (mkF K.m pc' L' S')) target → Steps K.p.tables K.e K.below (T.setTop (mkF K.m pc L S)) target) :
    ∃ h', Keep h h' [a] ∧ P h' ∧ OAt G K M A cs sl h' pc' L' S' := by
  obtain ⟨ok, vm0, k0, T, locs, X, hT, hS, hk, hZ, hown, hC, hAs, hF, hO, st⟩ := c
  obtain ⟨T', h', L2, X', hT', hF', Kp, hP, f'⟩ := f vm0 T locs X hT ok.1 ok.2.1 hZ hown hF ok.2.2.2.2.2.1
  have hs : ∀ x ∈ [a], Safe G.Z G.EL vm0 h x := own_all1 (hAs a hA).2
  exact ⟨h', Kp, hP, ok, vm0, k0, T', L2, X', hT', hS, Nat.le_trans hk Kp.1, hZ, hown, hC.trans (CHr.keep Kp hs hC.1), fun x hx => ⟨Nat.lt_of_lt_of_le (hAs x hx).1 Kp.1, Safe.keep Kp hs hC.1 (hAs x hx).2⟩, hF', hO.keep Kp (own_all1 hn), st.trans (f' _ (Steps.refl _))⟩
/-- System.arraycopy of bytes, into an array of ours -/
theorem OAt.acopy {ix W : Nat} {a b : Addr} {vs ds : List Value} {sp dp n : Int32} (c : OAt G K M A cs sl h pc L (.int n :: .int dp :: .ref b :: .int sp :: .ref a :: S)) (pc' : Nat) (hd : decode M.b pc = .ok (.invokestatic ix, 3))
    (w1 : OW G (Jvm.Cond.methodLink M.own ix Jvm.Stand.acN)) (w2 : OW G (Jvm.Cond.native Jvm.Stand.acN)) (w3 : OW G (Jvm.Cond.static Jvm.Stand.acN)) (w4 : OW G (Jvm.Cond.initialized "java/lang/System")) (Y : Ary G.Z h a .byte vs) (D : Ary G.Z h b .byte ds) (i j k : Nat) (hi : Int32.ofNat i = sp) (hj : Int32.ofNat j = dp) (hk : Int32.ofNat k = n) (h1 : i + k ≤ vs.length) (h2 : j + k ≤ ds.length) (hn : G.n0 ≤ b) (hA : b ∈ A)
    (hW : (S.map fun v => v.category).sum = W) (hl : W + (nativeFrameWords "java/lang/System" "arraycopy" 5 + 11) ≤ M.R.locals) (hf : 1 ≤ M.R.frames) (hL : L.size = M.ml := by rfl) (hp : pc + 3 = pc' := by rfl) :
    ∃ h', Keep h h' [b] ∧ Ary G.Z h' b .byte (ds.take j ++ (vs.drop i).take k ++ ds.drop (j + k)) ∧ OAt G K M A cs sl h' pc' L S := by
  subst hp hi hj hk
  have lv := Y.len
  have ld := D.len
  have ei : (Int32.ofNat i).toNatClampNeg = i := by simp only [Int32.toNatClampNeg, Int32.toInt_ofNat_small (show i < 2 ^ 31 by omega)]; simp
  have ej : (Int32.ofNat j).toNatClampNeg = j := by simp only [Int32.toNatClampNeg, Int32.toInt_ofNat_small (show j < 2 ^ 31 by omega)]; simp
  have ek : (Int32.ofNat k).toNatClampNeg = k := by simp only [Int32.toNatClampNeg, Int32.toInt_ofNat_small (show k < 2 ^ 31 by omega)]; simp
  have ev : (Int32.ofNat vs.length).toNatClampNeg = vs.length := by simp only [Int32.toNatClampNeg, Int32.toInt_ofNat_small (show vs.length < 2 ^ 31 by omega)]; simp
  have ed : (Int32.ofNat ds.length).toNatClampNeg = ds.length := by simp only [Int32.toNatClampNeg, Int32.toInt_ofNat_small (show ds.length < 2 ^ 31 by omega)]; simp
  obtain ⟨k1, V⟩ := Y.arv (.int 0)
  obtain ⟨k2, D'⟩ := D.arv (.int 0)
  have hus : (vs.drop i).take k = (List.range (Int32.ofNat k).toNatClampNeg).map fun t => vs.getD ((Int32.ofNat i).toNatClampNeg + t) (.int 0) := by
    rw [ek, ei]
    apply List.ext_getElem?
    intro t
    by_cases q : t < k
    · rw [List.getElem?_take_of_lt q, List.getElem?_drop, List.getElem?_map, List.getElem?_range q]
      have : i + t < vs.length := by omega
      simp [this]
    · rw [List.getElem?_eq_none (by simp; omega), List.getElem?_eq_none (by simp; omega)]
  refine c.write2 hn hA fun vm0 T locs X hT hx hb hZ hown hF hml => ?_
  obtain ⟨T', h', L2, X', e', F2, K2, V2, st⟩ := cpA X hx hZ hown w1 w2 w3 w4 hT V D' (Or.inl ⟨rfl, rfl⟩) (own_nneg (by omega)) (own_nneg (by omega)) (own_nneg (by omega)) (by rw [ei, ek, ev]; exact h1) (by rw [ej, ek, ed]; exact h2) hus (by rw [ej, ek]; exact h2) hF hn (g := mkF K.m pc L (.int (Int32.ofNat k) :: .int (Int32.ofNat j) :: .ref b :: .int (Int32.ofNat i) :: .ref a :: S)) rfl (hL.trans hml.symm) rfl (Jvm.hb hb hd) hf (W := W) (by show 2 * 0 + _ ≤ _; omega) hl
  refine ⟨T', h', L2, X', e', F2, K2, ?_, st⟩
  rw [ej, ek] at V2
  refine Ary.of_arv V2 ?_
  rw [ed]; simp; omega
end More
section Clone
variable {G : Gx} {K : Kx} {M : Mx} {A : List Addr} {cs sl : Nat} {h h' : Heap} {pc : Nat} {L : Array Slot} {S : List Value}
/-- an array's clone() -/
theorem OAt.clone {ad : String} {ix W : Nat} {a : Addr} {ty : FieldType} {vs : List Value} (c : OAt G K M A cs sl h pc L (.ref a :: S)) (pc' : Nat) (hd : decode M.b pc = .ok (.invokevirtual ix, 3)) (w1 : OW G (Jvm.Cond.methodLink M.own ix ⟨ad, "clone", "()Ljava/lang/Object;"⟩)) (w2 : OW G (Jvm.Cond.sameMethod ad "java/lang/Object" "clone" "()Ljava/lang/Object;")) (w3 : OW G (Jvm.Cond.native ⟨"java/lang/Object", "clone", "()Ljava/lang/Object;"⟩))
    (w4 : OW G (Jvm.Cond.instanceMethod ⟨"java/lang/Object", "clone", "()Ljava/lang/Object;"⟩)) (w5 : OW G (Jvm.Cond.selects ad ⟨ad, "clone", "()Ljava/lang/Object;"⟩ ⟨"java/lang/Object", "clone", "()Ljava/lang/Object;"⟩)) (w6 : OW G (Jvm.Cond.castable ad "java/lang/Cloneable")) (Y : Ary G.Z h a ty vs) (E : Exa G.Z h a ad) (cap : Nat) (hcap : vs.length ≤ cap)
    (hW : (S.map fun v => v.category).sum = W) (hl : W + 14 ≤ M.R.locals) (hf : 1 ≤ M.R.frames) (hc : cs + 1 ≤ M.R.cells) (hs : sl + cap ≤ M.R.slots) (hL : L.size = M.ml := by rfl) (hp : pc + 3 = pc' := by rfl) :
    ∃ (d : Addr) (h' : Heap), d = h.size ∧ Ext h h' ∧ G.n0 ≤ d ∧ Ary G.Z h' d ty vs ∧ Exa G.Z h' d ad ∧ OAt G K M (d :: A) (cs + 1) (sl + cap) h' pc' L (.ref d :: S) := by
  subst hp
  obtain ⟨cl, Ar, rfl, hlen, hfit⟩ := Y
  have hml := c.1.2.2.2.2.2.1
  have F : FitC G.Z cl := fitC_of Ar fun i hi v hv => hfit v (by
    obtain ⟨q, rfl⟩ := Array.getElem?_eq_some_iff.mp hv
    simp)
  obtain ⟨h', Ex, hn, ⟨hA, hE⟩, c'⟩ := c.grow (pc' := pc + 3) (L' := L) (S' := .ref h.size :: S) (cs' := cs + 1) (sl' := sl + cap) (P := fun h' => Ary G.Z h' h.size ty cl.slots.toList ∧ Exa G.Z h' h.size ad)
    fun vm0 T locs X hT hx hb hZ hown => by
      obtain ⟨T', h', X', e', E', Ar', Ex', st⟩ := cloneA X hx hZ hown w1 w2 w3 w4 w5 w6 hT Ar E F (g := mkF K.m pc L (.ref a :: S)) rfl (hL.trans hml.symm) rfl (Jvm.hb hb hd) hf (W := W) (cap := cap) (by show 2 * 0 + _ ≤ _; omega) hl (by simpa using hcap) hc hs
      exact ⟨T', h', X', e', E', Ar'.lt, ⟨⟨_, Ar', rfl, hlen, hfit⟩, Ex'⟩, st⟩
  exact ⟨h.size, h', rfl, Ex, hn, hA, hE, c'⟩
end Clone
section CastNull
variable {G : Gx} {K : Kx} {M : Mx} {A : List Addr} {cs sl : Nat} {h h' : Heap} {pc : Nat} {L : Array Slot} {S : List Value}
theorem OAt.castN {ix : Nat} (c : OAt G K M A cs sl h pc L (.null :: S)) (pc' : Nat) (hd : decode M.b pc = .ok (.checkcast ix, 3)) (hp : pc + 3 = pc' := by rfl) : OAt G K M A cs sl h pc' L (.null :: S) := by
  subst hp
  exact c.pure fun vm0 T locs X hT hx hb hZ hown hO => ⟨T, X, hT, fun t r => X.checkcastNull hx (g := mkF K.m pc L (.null :: S)) rfl rfl (Jvm.hb hb hd) t r⟩
end CastNull
section Subs
/-- what lastIndexOf('/') answers -/
def OLi (bs : List Int32) (r : Int32) : Prop := (∃ i : Nat, r = Int32.ofNat i ∧ bs[i]? = some 47 ∧ ∀ j, i < j → bs[j]? ≠ some 47) ∨ (r = -1 ∧ ∀ j : Nat, bs[j]? ≠ some 47)
theorem own_li {bs : List Int32} {v : Option Value} (h : (∃ i : Nat, v = some (.int (Int32.ofNat i)) ∧ bs[i]? = some 47 ∧ ∀ j, i < j → bs[j]? ≠ some 47) ∨ (v = some (.int (-1)) ∧ ∀ j : Nat, bs[j]? ≠ some 47)) : ∃ r : Int32, v = some (.int r) ∧ OLi bs r := by
  rcases h with ⟨i, h1, h2, h3⟩ | ⟨h1, h2⟩
  · exact ⟨_, h1, Or.inl ⟨i, rfl, h2, h3⟩⟩
  · exact ⟨_, h1, Or.inr ⟨rfl, h2⟩⟩
theorem own_pred (i : Nat) (hi : i + 1 < 2147483648) : Int32.ofNat (i + 1) + Int32.ofInt (-1) = Int32.ofNat i := by
  apply Int32.toInt_inj.mp
  have h := c_iadd (Int32.ofNat (i + 1)) (Int32.ofInt (-1))
  rw [own_toInt hi] at h
  have e : (Int32.ofInt (-1)).toInt = -1 := by decide
  have r := rng32 (Int32.ofNat (i + 1) + Int32.ofInt (-1))
  rw [own_toInt (by omega)]
  omega
theorem own_lo47 {c : Int32} (h : 0 ≤ c.toInt ∧ c.toInt < 256) : lo8 c = 47 ↔ c = 47 := by
  constructor
  · intro e
    rw [← own_mask h, e]; decide
  · rintro rfl; decide
end Subs
section Strings2
variable {Z : State} {h h' : Heap} {a b x : Addr} {cs : List Int32}
theorem own_fillU {i r : Nat} {ci : Int32} (hci : cs[i]? = some ci) (hel : (encU (cs.take i)).length = 2 * i) : ((encU (cs.take i) ++ List.replicate (2 * (r + 1)) (Value.int 0)).set (2 * i) (.int (lo8 ci))).set (2 * i + 1) (.int (lo8 (ci >>> ((8 : Int32) &&& 31)))) = encU (cs.take (i + 1)) ++ List.replicate (2 * r) (.int 0) := by
  have e1 : List.replicate (2 * (r + 1)) (Value.int 0) = .int 0 :: .int 0 :: List.replicate (2 * r) (.int 0) := by
    rw [show 2 * (r + 1) = 2 * r + 1 + 1 by omega, List.replicate_succ, List.replicate_succ]
  rw [e1, List.set_append_right _ _ (by omega), hel, Nat.sub_self, List.set_cons_zero, List.set_append_right _ _ (by omega), hel, Nat.add_sub_cancel_left, List.take_add_one, hci]
  simp [encU]
theorem own_encU {k : Nat} {c : Int32} (hc : cs[k]? = some c) : (encU cs)[2 * k]? = some (.int (lo8 c)) ∧ (encU cs)[2 * k + 1]? = some (.int (lo8 (c >>> ((8 : Int32) &&& 31)))) := by
  induction cs generalizing k with
  | nil => simp at hc
  | cons d ds ih =>
    cases k with
    | zero => simp at hc; subst hc; simp [encU]
    | succ k =>
      have := ih (k := k) (by simpa using hc)
      have e : encU (d :: ds) = .int (lo8 d) :: .int (lo8 (d >>> ((8 : Int32) &&& 31))) :: encU ds := by simp [encU]
      rw [e, show 2 * (k + 1) = 2 * k + 1 + 1 by omega]
      exact this
theorem own_cod1 {n : Nat} (h0 : 0 < n) (hn : n < 1073741824) : (Jvm.Free.XT.ushr (Int32.ofNat n - Int32.ofNat (2 * n)) 31).toInt8.toInt32 = 1 := by
  have h1 := c_isub (Int32.ofNat n) (Int32.ofNat (2 * n))
  rw [own_toInt (by omega), own_toInt (by omega)] at h1
  have r := rng32 (Int32.ofNat n - Int32.ofNat (2 * n))
  have h2 : (Jvm.Free.XT.ushr (Int32.ofNat n - Int32.ofNat (2 * n)) 31).toInt = _ := c_iushr (Int32.ofNat n - Int32.ofNat (2 * n)) 31 31 (by decide) (by decide)
  have e : Jvm.Free.XT.ushr (Int32.ofNat n - Int32.ofNat (2 * n)) 31 = 1 := by
    apply Int32.toInt_inj.mp
    rw [h2]
    have : (1 : Int32).toInt = 1 := by decide
    omega
  rw [e]; decide
theorem own_strB (S : Str Z h a cs) : ∃ co bs, StrB Z h a co bs ∧ (bs.length = 0 ↔ cs = []) := by
  rcases S with ⟨-, B⟩ | ⟨-, -, B⟩
  · exact ⟨_, _, B, by rw [encL_len]; exact List.length_eq_zero_iff⟩
  · exact ⟨_, _, B, by rw [encU_len, ← List.length_eq_zero_iff]; omega⟩
end Strings2
section Strings3
variable {Z : State} {h h' : Heap} {a b x : Addr} {cs xs ys : List Int32}
/-- the bytes of a String of the chars cs, of this coder -/
def Enc (co : Int32) (bs : List Int32) (cs : List Int32) : Prop := (Lat cs ∧ co = 0 ∧ bs = cs.map lo8) ∨ (Chs cs ∧ (∃ c ∈ cs, 255 < c.toInt) ∧ co = 1 ∧ bs = cs.flatMap fun c => [lo8 c, lo8 (c >>> ((8 : Int32) &&& 31))])
theorem encL_map (cs : List Int32) : encL cs = (cs.map lo8).map Value.int := by simp [encL]
theorem encU_map (cs : List Int32) : encU cs = (cs.flatMap fun c => [lo8 c, lo8 (c >>> ((8 : Int32) &&& 31))]).map Value.int := by
  induction cs with
  | nil => rfl
  | cons c cs ih => simp only [encU, List.flatMap_cons, List.map_append, List.map_cons, List.map_nil] at ih ⊢; rw [ih]
theorem own_strE (S : Str Z h a cs) : ∃ co bs, StrB Z h a co (bs.map Value.int) ∧ Enc co bs cs := by
  rcases S with ⟨l, B⟩ | ⟨l, g, B⟩
  · exact ⟨0, cs.map lo8, by rw [← encL_map]; exact B, Or.inl ⟨l, rfl, rfl⟩⟩
  · exact ⟨1, _, by rw [← encU_map]; exact B, Or.inr ⟨l, g, rfl, rfl⟩⟩
theorem own_latInj (hx : Lat xs) (hy : Lat ys) (e : xs.map lo8 = ys.map lo8) : xs = ys := by
  induction xs generalizing ys with
  | nil => cases ys with
    | nil => rfl
    | cons y ys => simp at e
  | cons x xs ih => cases ys with
    | nil => simp at e
    | cons y ys =>
      simp only [List.map_cons, List.cons.injEq] at e
      have e1 : x = y := by rw [← own_mask (hx x (by simp)), e.1, own_mask (hy y (by simp))]
      rw [e1, ih (fun c hc => hx c (by simp [hc])) (fun c hc => hy c (by simp [hc])) e.2]
theorem own_chsInj (hx : Chs xs) (hy : Chs ys) (e : (xs.flatMap fun c => [lo8 c, lo8 (c >>> ((8 : Int32) &&& 31))]) = ys.flatMap fun c => [lo8 c, lo8 (c >>> ((8 : Int32) &&& 31))]) : xs = ys := by
  induction xs generalizing ys with
  | nil => cases ys with
    | nil => rfl
    | cons y ys => simp at e
  | cons x xs ih => cases ys with
    | nil => simp at e
    | cons y ys =>
      simp only [List.flatMap_cons, List.cons_append, List.nil_append, List.cons.injEq] at e
      have e1 : x = y := by rw [← own_char2 (hx x (by simp)), e.1, e.2.1, own_char2 (hy y (by simp))]
      rw [e1, ih (fun c hc => hx c (by simp [hc])) (fun c hc => hy c (by simp [hc])) e.2.2]
theorem own_strC {co1 co2 : Int32} {us vs : List Int32} (h1 : Enc co1 us xs) (h2 : Enc co2 vs ys) : (co1 = co2 ∧ us = vs) ↔ xs = ys := by
  constructor
  · rintro ⟨rfl, rfl⟩
    rcases h1 with ⟨l1, e1, b1⟩ | ⟨l1, g1, e1, b1⟩ <;> rcases h2 with ⟨l2, e2, b2⟩ | ⟨l2, g2, e2, b2⟩
    · exact own_latInj l1 l2 (b1.symm.trans b2)
    · rw [e1] at e2; exact absurd e2 (by decide)
    · rw [e1] at e2; exact absurd e2 (by decide)
    · exact own_chsInj l1 l2 (b1.symm.trans b2)
  · rintro rfl
    rcases h1 with ⟨l1, rfl, rfl⟩ | ⟨l1, g1, rfl, rfl⟩ <;> rcases h2 with ⟨l2, rfl, rfl⟩ | ⟨l2, g2, rfl, rfl⟩
    · exact ⟨rfl, rfl⟩
    · obtain ⟨c, hc, q⟩ := g2; have := (l1 c hc).2; omega
    · obtain ⟨c, hc, q⟩ := g1; have := (l2 c hc).2; omega
    · exact ⟨rfl, rfl⟩
theorem own_fld_inj {C n d : String} {v w : Value} (F : Fld Z h a C n d v) (F' : Fld Z h a C n d w) : v = w := by
  by_cases q : v = w
  · exact q
  · exact absurd rfl (F.ne F' q)
theorem Ary.inj {ty : FieldType} {us vs : List Value} (F : Ary Z h a ty us) (F' : Ary Z h a ty vs) : us = vs := by
  obtain ⟨c, A, rfl, -⟩ := F
  obtain ⟨c', A', rfl, -⟩ := F'
  cases A.1.symm.trans A'.1; rfl
theorem Str.inj (S1 : Str Z h a xs) (S2 : Str Z h a ys) : xs = ys := by
  obtain ⟨co1, us, ⟨E1, C1, b1, V1, Y1⟩, e1⟩ := own_strE S1
  obtain ⟨co2, vs, ⟨E2, C2, b2, V2, Y2⟩, e2⟩ := own_strE S2
  have hc : co1 = co2 := by have := own_fld_inj C1 C2; simpa using this
  have hb : b1 = b2 := by have := own_fld_inj V1 V2; simpa using this
  subst hb
  have hv := Y1.inj Y2
  have hv' : us = vs := by
    have := congrArg (List.map fun v => match v with | Value.int x => x | _ => 0) hv
    simpa [List.map_map, Function.comp_def] using this
  exact (own_strC e1 e2).mp ⟨hc, hv'⟩
theorem Str.exa (S : Str Z h a cs) : Exa Z h a "java/lang/String" := by rcases S with ⟨-, q⟩ | ⟨-, -, q⟩ <;> exact q.1
theorem own_strlit {bs : List Value} (E : Exa Z h a "java/lang/String") (C : Fld Z h a "java/lang/String" "coder" "B" (.int 0)) (V : Fld Z h a "java/lang/String" "value" "[B" (.ref b)) (Y : Ary Z h b .byte bs) (hl : Lat cs) (hb : encL cs = bs) : Str Z h a cs := Or.inl ⟨hl, E, C, b, V, hb ▸ Y⟩
end Strings3
def OPv (G : Gx) (vals p0 p1 p2 l0 l1 l2 : Addr) : Prop := Sta G.Z G.Z.heap "com/example/mimico/mimico/agreement/Halt$Point" "$VALUES" "[Lcom/example/mimico/mimico/agreement/Halt$Point;" (.ref vals) ∧ Ary G.Z G.Z.heap vals (.object "com/example/mimico/mimico/agreement/Halt$Point") [.ref p0, .ref p1, .ref p2] ∧ Exa G.Z G.Z.heap vals "[Lcom/example/mimico/mimico/agreement/Halt$Point;" ∧ Sta G.Z G.Z.heap "com/example/mimico/mimico/agreement/Halt$Point" "AFTER_COLLECT" "Lcom/example/mimico/mimico/agreement/Halt$Point;" (.ref p0) ∧ Sta G.Z G.Z.heap "com/example/mimico/mimico/agreement/Halt$Point" "AFTER_ACCEPT" "Lcom/example/mimico/mimico/agreement/Halt$Point;" (.ref p1) ∧ Sta G.Z G.Z.heap "com/example/mimico/mimico/agreement/Halt$Point" "AFTER_DECIDE" "Lcom/example/mimico/mimico/agreement/Halt$Point;" (.ref p2) ∧ Exa G.Z G.Z.heap p0 "com/example/mimico/mimico/agreement/Halt$Point" ∧ Exa G.Z G.Z.heap p1 "com/example/mimico/mimico/agreement/Halt$Point" ∧ Exa G.Z G.Z.heap p2 "com/example/mimico/mimico/agreement/Halt$Point" ∧ Fld G.Z G.Z.heap p0 "com/example/mimico/mimico/agreement/Halt$Point" "label" "Ljava/lang/String;" (.ref l0) ∧ Fld G.Z G.Z.heap p1 "com/example/mimico/mimico/agreement/Halt$Point" "label" "Ljava/lang/String;" (.ref l1) ∧ Fld G.Z G.Z.heap p2 "com/example/mimico/mimico/agreement/Halt$Point" "label" "Ljava/lang/String;" (.ref l2) ∧ Str G.Z G.Z.heap l0 [97, 102, 116, 101, 114, 45, 99, 111, 108, 108, 101, 99, 116] ∧ Str G.Z G.Z.heap l1 [97, 102, 116, 101, 114, 45, 97, 99, 99, 101, 112, 116] ∧ Str G.Z G.Z.heap l2 [97, 102, 116, 101, 114, 45, 100, 101, 99, 105, 100, 101]
def OGood (G : Gx) : Prop := (∀ d ∈ tables_1, d.before G.a0 G.Z = true) ∧ G.EL = consts_1 ∧ (∃ z : Int32, Sta G.Z G.Z.heap "java/lang/String" "COMPACT_STRINGS" "Z" (.int z) ∧ z ≠ 0) ∧ (∃ z : Value, Sta G.Z G.Z.heap "jdk/internal/util/Preconditions" "SIOOBE_FORMATTER" "Ljava/util/function/BiFunction;" z ∧ z.isRef = true) ∧ (∃ e : Addr, Sta G.Z G.Z.heap "java/util/Optional" "EMPTY" "Ljava/util/Optional;" (.ref e) ∧ Exa G.Z G.Z.heap e "java/util/Optional" ∧ Fld G.Z G.Z.heap e "java/util/Optional" "value" "Ljava/lang/Object;" .null) ∧ (∃ vals p0 p1 p2 l0 l1 l2 : Addr, OPv G vals p0 p1 p2 l0 l1 l2) ∧ True
theorem own_ew {G : Gx} (hG : OGood G) : EW G.Z G.a0 G.EL := by rw [hG.2.1]; exact (EW.cons (hG.1 _ (List.mem_of_getElem? (i := 1) rfl)) (by decide) (EW.cons (hG.1 _ (List.mem_of_getElem? (i := 83) rfl)) (by decide) (EW.cons (hG.1 _ (List.mem_of_getElem? (i := 84) rfl)) (by decide) (EW.cons (hG.1 _ (List.mem_of_getElem? (i := 122) rfl)) (by decide) (EW.cons (hG.1 _ (List.mem_of_getElem? (i := 123) rfl)) (by decide) (EW.cons (hG.1 _ (List.mem_of_getElem? (i := 124) rfl)) (by decide) EW.nil))))))
theorem own_el_0 {G : Gx} (hG : OGood G) : ("com/example/mimico/mimico/agreement/PointNamedPinLaw", 8) ∈ G.EL := by rw [hG.2.1]; exact List.mem_of_getElem? (i := 0) rfl
theorem own_el_1 {G : Gx} (hG : OGood G) : ("com/example/mimico/mimico/agreement/PointNamedPinLaw", 10) ∈ G.EL := by rw [hG.2.1]; exact List.mem_of_getElem? (i := 1) rfl
theorem own_el_2 {G : Gx} (hG : OGood G) : ("com/example/mimico/mimico/agreement/PointNamedPinLaw", 12) ∈ G.EL := by rw [hG.2.1]; exact List.mem_of_getElem? (i := 2) rfl
theorem own_el_3 {G : Gx} (hG : OGood G) : ("com/example/mimico/mimico/agreement/PointNamedPinLaw", 14) ∈ G.EL := by rw [hG.2.1]; exact List.mem_of_getElem? (i := 3) rfl
theorem own_el_4 {G : Gx} (hG : OGood G) : ("com/example/mimico/mimico/agreement/PointNamedPinLaw", 16) ∈ G.EL := by rw [hG.2.1]; exact List.mem_of_getElem? (i := 4) rfl
theorem own_el_5 {G : Gx} (hG : OGood G) : ("java/lang/String", 7) ∈ G.EL := by rw [hG.2.1]; exact List.mem_of_getElem? (i := 5) rfl
theorem own_sa {G : Gx} (hG : OGood G) : ∀ a ∈ Bundle.stringAtoms, OW G a := fun d hd => by
  simp only [Bundle.stringAtoms, List.mem_cons, List.not_mem_nil, or_false] at hd
  rcases hd with rfl | rfl | rfl | rfl | rfl | rfl | rfl
  · exact (hG.1 _ (List.mem_of_getElem? (i := 2) rfl))
  · exact (hG.1 _ (List.mem_of_getElem? (i := 3) rfl))
  · exact (hG.1 _ (List.mem_of_getElem? (i := 4) rfl))
  · exact (hG.1 _ (List.mem_of_getElem? (i := 5) rfl))
  · exact (hG.1 _ (List.mem_of_getElem? (i := 6) rfl))
  · exact (hG.1 _ (List.mem_of_getElem? (i := 7) rfl))
  · exact (hG.1 _ (List.mem_of_getElem? (i := 8) rfl))
abbrev y_cod : MethodName := ⟨"java/lang/StringUTF16", "coderFromArrayLen", "([BI)B"⟩
theorem pn_0 : plainName "java/lang/StringUTF16" = true := by first | (simp [plainName, overriddenIn]; done) | decide +kernel
theorem d_cod_0 : decode jdk_52_method_15_code 0 = .ok (.iload_n 1, 1) := by decide +kernel
theorem d_cod_1 : decode jdk_52_method_15_code 1 = .ok (.aload_n 0, 1) := by decide +kernel
theorem d_cod_2 : decode jdk_52_method_15_code 2 = .ok (.arraylength, 1) := by decide +kernel
theorem d_cod_3 : decode jdk_52_method_15_code 3 = .ok (.isub, 1) := by decide +kernel
theorem d_cod_4 : decode jdk_52_method_15_code 4 = .ok (.bipush 31, 2) := by decide +kernel
theorem d_cod_6 : decode jdk_52_method_15_code 6 = .ok (.iushr, 1) := by decide +kernel
theorem d_cod_7 : decode jdk_52_method_15_code 7 = .ok (.i2b, 1) := by decide +kernel
theorem d_cod_8 : decode jdk_52_method_15_code 8 = .ok (.ireturn, 1) := by decide +kernel
abbrev rm_cod : Room := { frames := 0, cells := 0, slots := 0, locals := 0 }
abbrev M_cod : Mx := (jdk_52_method_15_code, y_cod.cls, (some .byte), y_cod.name, 2, rm_cod)
theorem ef_cod (m : MethodId) (x0 : Addr) (x1 : Int32) : entryFrame m #[.ref x0, .int x1] 2 = mkF m 0 #[.val (.ref x0), .val (.int x1)] [] := by first | (simp [entryFrame, mkF, argsToLocals, Value.category]; done) | rfl
set_option maxRecDepth 65536 in
set_option maxHeartbeats 4000000 in
theorem con_cod {G : Gx} (hG : OGood G) {h0 : Heap} {b : Addr} {vs : List Value} {n : Nat} {r : Int32} (Y : Ary G.Z h0 b .byte vs) (hr : (Jvm.Free.XT.ushr (Int32.ofNat n - Int32.ofNat vs.length) 31).toInt8.toInt32 = r) (hn : narrow .byte (.int r) = .int r) : OCon G y_cod jdk_52_method_15_code 2 (some .byte) [] rm_cod #[.ref b, .int (Int32.ofNat n)] [] h0 (fun v h' _ => v = some (.int r) ∧ h' = h0) := by
  refine OCon.intro (plainFor_of_name pn_0) (own_ew hG) #[.val (.ref b), .val (.int (Int32.ofNat n))] (fun m => ef_cod m b (Int32.ofNat n)) ?_
  intro K c
  replace c : OAt G K M_cod [] 0 0 h0 0 #[.val (.ref b), .val (.int (Int32.ofNat n))] [] := c
  replace c := c.iloadN 1 d_cod_0 rfl
  replace c := c.aloadN 2 d_cod_1 rfl rfl
  replace c := c.arrlen 3 d_cod_2 Y (Int32.ofNat vs.length) rfl
  replace c := c.isub 4 d_cod_3
  replace c := c.bipush 6 d_cod_4 31 (by decide)
  replace c := c.iushr 7 d_cod_6
  replace c := c.i2b 8 d_cod_7
  rw [hr] at c
  exact c.reti (t := .byte) d_cod_8 rfl hn (by simp) (fun sf hs => ⟨rfl, rfl⟩) (by decide) (by decide)
abbrev y_cmp5 : MethodName := ⟨"java/lang/StringUTF16", "compress", "([CI[BII)I"⟩
abbrev Q_cmp5 (G : Gx) (h0 : Heap) (d : Addr) (cs : List Int32) (vs : List Value) : Option Value → Heap → (Addr → Prop) → Prop := fun v h' _ => ∃ k, k ≤ cs.length ∧ v = some (.int (Int32.ofNat k)) ∧ Keep h0 h' [d] ∧ Ary G.Z h' d .byte ((encL cs).take k ++ vs.drop k) ∧ Lat (cs.take k) ∧ ∀ c, cs[k]? = some c → 255 < c.toInt
theorem d_cmp5_0 : decode jdk_52_method_21_code 0 = .ok (.iconst 0, 1) := by decide +kernel
theorem d_cmp5_1 : decode jdk_52_method_21_code 1 = .ok (.istore 5, 2) := by decide +kernel
theorem d_cmp5_3 : decode jdk_52_method_21_code 3 = .ok (.iload 5, 2) := by decide +kernel
theorem d_cmp5_5 : decode jdk_52_method_21_code 5 = .ok (.iload 4, 2) := by decide +kernel
theorem d_cmp5_7 : decode jdk_52_method_21_code 7 = .ok (.if_icmp .ge 37, 3) := by decide +kernel
theorem d_cmp5_10 : decode jdk_52_method_21_code 10 = .ok (.aload_n 0, 1) := by decide +kernel
theorem d_cmp5_11 : decode jdk_52_method_21_code 11 = .ok (.iload_n 1, 1) := by decide +kernel
theorem d_cmp5_12 : decode jdk_52_method_21_code 12 = .ok (.caload, 1) := by decide +kernel
theorem d_cmp5_13 : decode jdk_52_method_21_code 13 = .ok (.istore 6, 2) := by decide +kernel
theorem d_cmp5_15 : decode jdk_52_method_21_code 15 = .ok (.iload 6, 2) := by decide +kernel
theorem d_cmp5_17 : decode jdk_52_method_21_code 17 = .ok (.sipush 255, 3) := by decide +kernel
theorem d_cmp5_20 : decode jdk_52_method_21_code 20 = .ok (.if_icmp .le 6, 3) := by decide +kernel
theorem d_cmp5_23 : decode jdk_52_method_21_code 23 = .ok (.iload 5, 2) := by decide +kernel
theorem d_cmp5_25 : decode jdk_52_method_21_code 25 = .ok (.ireturn, 1) := by decide +kernel
theorem d_cmp5_26 : decode jdk_52_method_21_code 26 = .ok (.aload_n 2, 1) := by decide +kernel
theorem d_cmp5_27 : decode jdk_52_method_21_code 27 = .ok (.iload_n 3, 1) := by decide +kernel
theorem d_cmp5_28 : decode jdk_52_method_21_code 28 = .ok (.iload 6, 2) := by decide +kernel
theorem d_cmp5_30 : decode jdk_52_method_21_code 30 = .ok (.i2b, 1) := by decide +kernel
theorem d_cmp5_31 : decode jdk_52_method_21_code 31 = .ok (.bastore, 1) := by decide +kernel
theorem d_cmp5_32 : decode jdk_52_method_21_code 32 = .ok (.iinc 1 1, 3) := by decide +kernel
theorem d_cmp5_35 : decode jdk_52_method_21_code 35 = .ok (.iinc 3 1, 3) := by decide +kernel
theorem d_cmp5_38 : decode jdk_52_method_21_code 38 = .ok (.iinc 5 1, 3) := by decide +kernel
theorem d_cmp5_41 : decode jdk_52_method_21_code 41 = .ok (.goto (-38), 3) := by decide +kernel
theorem d_cmp5_44 : decode jdk_52_method_21_code 44 = .ok (.iload 4, 2) := by decide +kernel
theorem d_cmp5_46 : decode jdk_52_method_21_code 46 = .ok (.ireturn, 1) := by decide +kernel
abbrev rm_cmp5 : Room := { frames := 0, cells := 0, slots := 0, locals := 0 }
abbrev M_cmp5 : Mx := (jdk_52_method_21_code, y_cmp5.cls, (some .int), y_cmp5.name, 7, rm_cmp5)
theorem ef_cmp5 (m : MethodId) (x0 : Addr) (x1 : Int32) (x2 : Addr) (x3 : Int32) (x4 : Int32) : entryFrame m #[.ref x0, .int x1, .ref x2, .int x3, .int x4] 7 = mkF m 0 #[.val (.ref x0), .val (.int x1), .val (.ref x2), .val (.int x3), .val (.int x4), .unset, .unset] [] := by first | (simp [entryFrame, mkF, argsToLocals, Value.category]; done) | rfl
set_option maxRecDepth 65536 in
set_option maxHeartbeats 4000000 in
theorem con_cmp5 {G : Gx} (hG : OGood G) {h0 : Heap} {ca d : Addr} {cs : List Int32} {vs : List Value} (hd : G.n0 ≤ d) (Y : Ary G.Z h0 ca .char (cs.map Value.int)) (D : Ary G.Z h0 d .byte vs) (hv : vs.length = cs.length) : OCon G y_cmp5 jdk_52_method_21_code 7 (some .int) [] rm_cmp5 #[.ref ca, .int 0, .ref d, .int 0, .int (Int32.ofNat cs.length)] [d] h0 (Q_cmp5 G h0 d cs vs) := by
  refine OCon.intro (plainFor_of_name pn_0) (own_ew hG) #[.val (.ref ca), .val (.int 0), .val (.ref d), .val (.int 0), .val (.int (Int32.ofNat cs.length)), .unset, .unset] (fun m => ef_cmp5 m ca 0 d 0 (Int32.ofNat cs.length)) ?_
  intro K c
  replace c : OAt G K M_cmp5 [d] 0 0 h0 0 #[.val (.ref ca), .val (.int 0), .val (.ref d), .val (.int 0), .val (.int (Int32.ofNat cs.length)), .unset, .unset] [] := c
  replace c := c.iconst 1 d_cmp5_0 0 (by decide)
  replace c := c.istore 3 d_cmp5_1 #[.val (.ref ca), .val (.int 0), .val (.ref d), .val (.int 0), .val (.int (Int32.ofNat cs.length)), .val (.int 0), .unset] rfl
  have hlen : cs.length < 2147483648 := by simpa using Y.len
  have hne : ca ≠ d := fun q => by obtain ⟨c1, A1, -⟩ := Y; obtain ⟨c2, A2, -⟩ := D; rw [q] at A1; exact absurd (own_arr_type A1 A2) (by decide)
  have loop : ∀ (r i : Nat), i + r = cs.length → ∀ (z : Slot) (h1 : Heap), One z → Keep h0 h1 [d] → Ary G.Z h1 d .byte ((encL cs).take i ++ vs.drop i) → Lat (cs.take i) → OAt G K M_cmp5 [d] 0 0 h1 3 #[.val (.ref ca), .val (.int (Int32.ofNat i)), .val (.ref d), .val (.int (Int32.ofNat i)), .val (.int (Int32.ofNat cs.length)), .val (.int (Int32.ofNat i)), z] [] → ODone G K rm_cmp5 (Q_cmp5 G h0 d cs vs) := by
    intro r
    induction r with
    | zero =>
      intro i hi z h1 hz K1 D1 la c
      have hin : i = cs.length := by omega
      subst hin
      replace c := c.iload 5 d_cmp5_3 rfl
      replace c := c.iload 7 d_cmp5_5 rfl
      replace c := c.icT 44 d_cmp5_7 (own_ic_ge_t (own_nlt (by omega) hlen))
      replace c := c.iload 46 d_cmp5_44 rfl
      exact c.reti (t := .int) d_cmp5_46 rfl rfl (by simp) (fun sf hs => ⟨cs.length, Nat.le_refl _, rfl, K1, D1, la, fun c hc => by simp at hc⟩) (by decide) (by decide)
    | succ r ih =>
      intro i hi z h1 hz K1 D1 la c
      have hil : i < cs.length := by omega
      obtain ⟨ci, hci⟩ : ∃ ci, cs[i]? = some ci := ⟨cs[i], List.getElem?_eq_getElem hil⟩
      have Y1 : Ary G.Z h1 ca .char (cs.map Value.int) := Y.keep K1 (ninS hne nin0)
      replace c := c.iload 5 d_cmp5_3 rfl
      replace c := c.iload 7 d_cmp5_5 rfl
      replace c := c.icF 10 d_cmp5_7 (own_ic_ge_f (own_lt hil hlen))
      replace c := c.aloadN 11 d_cmp5_10 rfl rfl
      replace c := c.iloadN 12 d_cmp5_11 rfl
      replace c := c.caload 13 d_cmp5_12 Y1 (i) rfl (.int ci) (by simp [hci])
      replace c := c.istoreS 15 d_cmp5_13 rfl hz
      replace c : OAt G K M_cmp5 [d] 0 0 h1 15 #[.val (.ref ca), .val (.int (Int32.ofNat i)), .val (.ref d), .val (.int (Int32.ofNat i)), .val (.int (Int32.ofNat cs.length)), .val (.int (Int32.ofNat i)), .val (.int ci)] [] := c
      replace c := c.iload 17 d_cmp5_15 rfl
      replace c := c.sipush 20 d_cmp5_17 255 (by decide)
      by_cases q : (255 : Int32) < ci
      · skip
        replace c := c.icF 23 d_cmp5_20 (own_ic_le_f q)
        replace c := c.iload 25 d_cmp5_23 rfl
        exact c.reti (t := .int) d_cmp5_25 rfl rfl (by simp) (fun sf hs => ⟨i, by omega, rfl, K1, D1, la, fun c hc => by rw [hci] at hc; cases hc; rw [Int32.lt_iff_toInt_lt] at q; exact q⟩) (by decide) (by decide)
      · skip
        replace c := c.icT 26 d_cmp5_20 (own_ic_le_t q)
        replace c := c.aloadN 27 d_cmp5_26 rfl rfl
        replace c := c.iloadN 28 d_cmp5_27 rfl
        replace c := c.iload 30 d_cmp5_28 rfl
        replace c := c.i2b 31 d_cmp5_30
        have hvi : i < ((encL cs).take i ++ vs.drop i).length := by simp [encL_len]; omega
        obtain ⟨hp, Wp, Yp, c⟩ := c.bastore 32 d_cmp5_31 D1 (i) rfl hvi hd (by simp) (lo8 ci) (own_nar_b ci)
        replace c := c.iinc 35 d_cmp5_32 rfl (Int32.ofNat (i + 1)) (own_succ i) #[.val (.ref ca), .val (.int (Int32.ofNat (i + 1))), .val (.ref d), .val (.int (Int32.ofNat i)), .val (.int (Int32.ofNat cs.length)), .val (.int (Int32.ofNat i)), .val (.int ci)] rfl
        replace c := c.iinc 38 d_cmp5_35 rfl (Int32.ofNat (i + 1)) (own_succ i) #[.val (.ref ca), .val (.int (Int32.ofNat (i + 1))), .val (.ref d), .val (.int (Int32.ofNat (i + 1))), .val (.int (Int32.ofNat cs.length)), .val (.int (Int32.ofNat i)), .val (.int ci)] rfl
        replace c := c.iinc 41 d_cmp5_38 rfl (Int32.ofNat (i + 1)) (own_succ i) #[.val (.ref ca), .val (.int (Int32.ofNat (i + 1))), .val (.ref d), .val (.int (Int32.ofNat (i + 1))), .val (.int (Int32.ofNat cs.length)), .val (.int (Int32.ofNat (i + 1))), .val (.int ci)] rfl
        replace c := c.goto 3 d_cmp5_41
        have hfill := own_fill (encL cs) vs i (.int (lo8 ci)) (by simp [encL, hci]) (by omega)
        rw [hfill] at Yp
        refine ih (i + 1) (by omega) _ _ (One.val rfl) (K1.wr Wp (Or.inl (by simp))) Yp ?_ c
        intro c hc
        rw [List.take_add_one, hci] at hc
        rcases List.mem_append.mp hc with hc | hc
        · exact la c hc
        · have hc' : c = ci := by simpa using hc
          rw [hc']; have := own_chs Y ci (List.mem_of_getElem? hci); rw [Int32.lt_iff_toInt_lt] at q; have e : (255 : Int32).toInt = 255 := by decide
          omega
  exact loop cs.length 0 (by omega) _ _ One.u (Keep.refl _ _) (by simpa using D) (fun c hc => by simp at hc) c
abbrev y_cmp3 : MethodName := ⟨"java/lang/StringUTF16", "compress", "([CII)[B"⟩
abbrev Q_cmp3 (G : Gx) (h0 : Heap) (cs : List Int32) : Option Value → Heap → (Addr → Prop) → Prop := fun v h' _ => ∃ b : Addr, v = some (.ref b) ∧ h0.size ≤ b ∧ Keep h0 h' [] ∧ ((Lat cs ∧ Ary G.Z h' b .byte (encL cs)) ∨ (Chs cs ∧ (∃ c ∈ cs, 255 < c.toInt) ∧ Ary G.Z h' b .byte (encU cs)))
theorem pd_0 : parseMethodDescriptor "([CI[BII)I" = some ⟨[(.array .char), .int, (.array .byte), .int, .int], some .int⟩ := by decide +kernel
theorem d_cmp3_0 : decode jdk_52_method_16_code 0 = .ok (.iload_n 2, 1) := by decide +kernel
theorem d_cmp3_1 : decode jdk_52_method_16_code 1 = .ok (.newarray .byte, 2) := by decide +kernel
theorem d_cmp3_3 : decode jdk_52_method_16_code 3 = .ok (.astore_n 3, 1) := by decide +kernel
theorem d_cmp3_4 : decode jdk_52_method_16_code 4 = .ok (.aload_n 0, 1) := by decide +kernel
theorem d_cmp3_5 : decode jdk_52_method_16_code 5 = .ok (.iload_n 1, 1) := by decide +kernel
theorem d_cmp3_6 : decode jdk_52_method_16_code 6 = .ok (.aload_n 3, 1) := by decide +kernel
theorem d_cmp3_7 : decode jdk_52_method_16_code 7 = .ok (.iconst 0, 1) := by decide +kernel
theorem d_cmp3_8 : decode jdk_52_method_16_code 8 = .ok (.iload_n 2, 1) := by decide +kernel
theorem d_cmp3_9 : decode jdk_52_method_16_code 9 = .ok (.invokestatic 115, 3) := by decide +kernel
theorem d_cmp3_12 : decode jdk_52_method_16_code 12 = .ok (.istore 4, 2) := by decide +kernel
theorem d_cmp3_14 : decode jdk_52_method_16_code 14 = .ok (.iload 4, 2) := by decide +kernel
theorem d_cmp3_16 : decode jdk_52_method_16_code 16 = .ok (.iload_n 2, 1) := by decide +kernel
theorem d_cmp3_17 : decode jdk_52_method_16_code 17 = .ok (.if_icmp .eq 40, 3) := by decide +kernel
theorem d_cmp3_57 : decode jdk_52_method_16_code 57 = .ok (.aload_n 3, 1) := by decide +kernel
theorem d_cmp3_58 : decode jdk_52_method_16_code 58 = .ok (.areturn, 1) := by decide +kernel
abbrev rm_cmp3 : Room := { frames := 1, cells := 1, slots := 14, locals := 18 }
abbrev M_cmp3 : Mx := (jdk_52_method_16_code, y_cmp3.cls, (some (.array .byte)), y_cmp3.name, 6, rm_cmp3)
theorem ef_cmp3 (m : MethodId) (x0 : Addr) (x1 : Int32) (x2 : Int32) : entryFrame m #[.ref x0, .int x1, .int x2] 6 = mkF m 0 #[.val (.ref x0), .val (.int x1), .val (.int x2), .unset, .unset, .unset] [] := by first | (simp [entryFrame, mkF, argsToLocals, Value.category]; done) | rfl
set_option maxRecDepth 65536 in
set_option maxHeartbeats 4000000 in
theorem con_cmp3 {G : Gx} (hG : OGood G) {h0 : Heap} {ca : Addr} {cs : List Int32} (hN : cs.length ≤ 14) (Y : Ary G.Z h0 ca .char (cs.map Value.int)) (hlat : Lat cs) : OCon G y_cmp3 jdk_52_method_16_code 6 (some (.array .byte)) [] rm_cmp3 #[.ref ca, .int 0, .int (Int32.ofNat cs.length)] [] h0 (Q_cmp3 G h0 cs) := by
  refine OCon.intro (plainFor_of_name pn_0) (own_ew hG) #[.val (.ref ca), .val (.int 0), .val (.int (Int32.ofNat cs.length)), .unset, .unset, .unset] (fun m => ef_cmp3 m ca 0 (Int32.ofNat cs.length)) ?_
  intro K c
  replace c : OAt G K M_cmp3 [] 0 0 h0 0 #[.val (.ref ca), .val (.int 0), .val (.int (Int32.ofNat cs.length)), .unset, .unset, .unset] [] := c
  have hlen : cs.length < 2147483648 := by omega
  replace c := c.iloadN 1 d_cmp3_0 rfl
  obtain ⟨d, h_d, s_d, x_d, g_d, Y_d, c⟩ := c.newarr 3 d_cmp3_1 .byte rfl (hG.1 _ (List.mem_of_getElem? (i := 4) rfl)) (cs.length) rfl 14 hN (by decide) (by decide) (by decide)
  replace c := c.astoreN 4 d_cmp3_3 rfl #[.val (.ref ca), .val (.int 0), .val (.int (Int32.ofNat cs.length)), .val (.ref d), .unset, .unset] rfl
  replace c := c.aloadN 5 d_cmp3_4 rfl rfl
  replace c := c.iloadN 6 d_cmp3_5 rfl
  replace c := c.aloadN 7 d_cmp3_6 rfl rfl
  replace c := c.iconst 8 d_cmp3_7 0 (by decide)
  replace c := c.iloadN 9 d_cmp3_8 rfl
  obtain ⟨v, h1, sf, ⟨k, hk, rfl, K1, D1, la, hk2⟩, c⟩ := c.callS (y := y_cmp5) (argsL := [.ref ca, .int 0, .ref d, .int 0, .int (Int32.ofNat cs.length)]) (rest := []) 12 d_cmp3_9 (con_cmp5 hG g_d (Y.ext x_d) Y_d (by simp)) rfl (hG.1 _ (List.mem_of_getElem? (i := 68) rfl)) (hG.1 _ (List.mem_of_getElem? (i := 69) rfl)) (hG.1 _ (List.mem_of_getElem? (i := 66) rfl)) (hG.1 _ (List.mem_of_getElem? (i := 70) rfl)) (lenOf pd_0 rfl) (by simp) (W := 0) rfl (by decide) (by decide) (by decide) (by decide)
  replace c := c [] (by simp)
  replace c : OAt G K M_cmp3 [d] 1 14 h1 12 #[.val (.ref ca), .val (.int 0), .val (.int (Int32.ofNat cs.length)), .val (.ref d), .unset, .unset] [.int (Int32.ofNat k)] := c
  replace c := c.istore 14 d_cmp3_12 #[.val (.ref ca), .val (.int 0), .val (.int (Int32.ofNat cs.length)), .val (.ref d), .val (.int (Int32.ofNat k)), .unset] rfl
  replace c := c.iload 16 d_cmp3_14 rfl
  replace c := c.iloadN 17 d_cmp3_16 rfl
  have K01 : Keep h0 h1 [] := ((Keep.refl h0 []).ext x_d).trans K1 (fun x hx => by cases List.mem_singleton.mp hx; exact Or.inr (Nat.le_of_eq s_d.symm))
  by_cases q : k = cs.length
  · subst q
    replace c := c.icT 57 d_cmp3_17 (own_ic_eq_t rfl)
    replace c := c.aloadN 58 d_cmp3_57 rfl rfl
    exact c.reta (t := (.array .byte)) d_cmp3_58 rfl rfl rfl rfl (fun sf hs => ⟨d, rfl, Nat.le_of_eq s_d.symm, K01, Or.inl ⟨by simpa using la, by rw [List.take_of_length_le (by rw [encL_len]; exact Nat.le_refl _), List.drop_of_length_le (by simp)] at D1; simpa using D1⟩⟩) (by decide) (by decide)
  · skip
    have hkl : k < cs.length := by omega
    obtain ⟨ck, hck⟩ : ∃ ck, cs[k]? = some ck := ⟨cs[k], List.getElem?_eq_getElem hkl⟩
    have big := hk2 ck hck
    have chs := own_chs Y
    exact absurd (hlat ck (List.mem_of_getElem? hck)).2 (by omega)
abbrev y_si4 : MethodName := ⟨"java/lang/String", "<init>", "([CIILjava/lang/Void;)V"⟩
theorem pd_1 : parseMethodDescriptor "([CII)[B" = some ⟨[(.array .char), .int, .int], some (.array .byte)⟩ := by decide +kernel
theorem pd_2 : parseMethodDescriptor "([BI)B" = some ⟨[(.array .byte), .int], some .byte⟩ := by decide +kernel
theorem pn_1 : plainName "java/lang/String" = true := by first | (simp [plainName, overriddenIn]; done) | decide +kernel
theorem d_si4_0 : decode jdk_42_method_149_code 0 = .ok (.aload_n 0, 1) := by decide +kernel
theorem d_si4_1 : decode jdk_42_method_149_code 1 = .ok (.invokespecial 1, 3) := by decide +kernel
theorem d_si4_4 : decode jdk_42_method_149_code 4 = .ok (.iload_n 3, 1) := by decide +kernel
theorem d_si4_5 : decode jdk_42_method_149_code 5 = .ok (.ifCond .ne 22, 3) := by decide +kernel
theorem d_si4_8 : decode jdk_42_method_149_code 8 = .ok (.aload_n 0, 1) := by decide +kernel
theorem d_si4_9 : decode jdk_42_method_149_code 9 = .ok (.ldc 7, 2) := by decide +kernel
theorem d_si4_11 : decode jdk_42_method_149_code 11 = .ok (.getfield 9, 3) := by decide +kernel
theorem d_si4_14 : decode jdk_42_method_149_code 14 = .ok (.putfield 9, 3) := by decide +kernel
theorem d_si4_17 : decode jdk_42_method_149_code 17 = .ok (.aload_n 0, 1) := by decide +kernel
theorem d_si4_18 : decode jdk_42_method_149_code 18 = .ok (.ldc 7, 2) := by decide +kernel
theorem d_si4_20 : decode jdk_42_method_149_code 20 = .ok (.getfield 15, 3) := by decide +kernel
theorem d_si4_23 : decode jdk_42_method_149_code 23 = .ok (.putfield 15, 3) := by decide +kernel
theorem d_si4_26 : decode jdk_42_method_149_code 26 = .ok (.return_, 1) := by decide +kernel
theorem d_si4_27 : decode jdk_42_method_149_code 27 = .ok (.getstatic 38, 3) := by decide +kernel
theorem d_si4_30 : decode jdk_42_method_149_code 30 = .ok (.ifCond .eq 28, 3) := by decide +kernel
theorem d_si4_33 : decode jdk_42_method_149_code 33 = .ok (.aload_n 1, 1) := by decide +kernel
theorem d_si4_34 : decode jdk_42_method_149_code 34 = .ok (.iload_n 2, 1) := by decide +kernel
theorem d_si4_35 : decode jdk_42_method_149_code 35 = .ok (.iload_n 3, 1) := by decide +kernel
theorem d_si4_36 : decode jdk_42_method_149_code 36 = .ok (.invokestatic 177, 3) := by decide +kernel
theorem d_si4_39 : decode jdk_42_method_149_code 39 = .ok (.astore 5, 2) := by decide +kernel
theorem d_si4_41 : decode jdk_42_method_149_code 41 = .ok (.aload_n 0, 1) := by decide +kernel
theorem d_si4_42 : decode jdk_42_method_149_code 42 = .ok (.aload 5, 2) := by decide +kernel
theorem d_si4_44 : decode jdk_42_method_149_code 44 = .ok (.iload_n 3, 1) := by decide +kernel
theorem d_si4_45 : decode jdk_42_method_149_code 45 = .ok (.invokestatic 47, 3) := by decide +kernel
theorem d_si4_48 : decode jdk_42_method_149_code 48 = .ok (.putfield 15, 3) := by decide +kernel
theorem d_si4_51 : decode jdk_42_method_149_code 51 = .ok (.aload_n 0, 1) := by decide +kernel
theorem d_si4_52 : decode jdk_42_method_149_code 52 = .ok (.aload 5, 2) := by decide +kernel
theorem d_si4_54 : decode jdk_42_method_149_code 54 = .ok (.putfield 9, 3) := by decide +kernel
theorem d_si4_57 : decode jdk_42_method_149_code 57 = .ok (.return_, 1) := by decide +kernel
abbrev rm_si4 : Room := { frames := 2, cells := 4, slots := 14, locals := 35 }
abbrev M_si4 : Mx := (jdk_42_method_149_code, y_si4.cls, none, y_si4.name, 6, rm_si4)
theorem ef_si4 (m : MethodId) (x0 : Addr) (x1 : Addr) (x2 : Int32) (x3 : Int32) : entryFrame m #[.ref x0, .ref x1, .int x2, .int x3, .null] 6 = mkF m 0 #[.val (.ref x0), .val (.ref x1), .val (.int x2), .val (.int x3), .val .null, .unset] [] := by first | (simp [entryFrame, mkF, argsToLocals, Value.category]; done) | rfl
set_option maxRecDepth 65536 in
set_option maxHeartbeats 4000000 in
theorem con_si4 {G : Gx} (hG : OGood G) {h0 : Heap} {a ca : Addr} {cs : List Int32} (hN : cs.length ≤ 14) (ha : G.n0 ≤ a) (E : Exa G.Z h0 a "java/lang/String") (V : Fld G.Z h0 a "java/lang/String" "value" "[B" .null) (C0 : Fld G.Z h0 a "java/lang/String" "coder" "B" (.int 0)) (Y : Ary G.Z h0 ca .char (cs.map Value.int)) (hlat : Lat cs) : OCon G y_si4 jdk_42_method_149_code 6 none [] rm_si4 #[.ref a, .ref ca, .int 0, .int (Int32.ofNat cs.length), .null] [a] h0 (fun v h' _ => v = none ∧ Keep h0 h' [a] ∧ Str G.Z h' a cs) := by
  refine OCon.intro (plainFor_of_name pn_1) (own_ew hG) #[.val (.ref a), .val (.ref ca), .val (.int 0), .val (.int (Int32.ofNat cs.length)), .val (.null), .unset] (fun m => ef_si4 m a ca 0 (Int32.ofNat cs.length)) ?_
  intro K c
  replace c : OAt G K M_si4 [a] 0 0 h0 0 #[.val (.ref a), .val (.ref ca), .val (.int 0), .val (.int (Int32.ofNat cs.length)), .val (.null), .unset] [] := c
  have hlen : cs.length < 2147483648 := by omega
  have wi := (hG.1 _ (List.mem_of_getElem? (i := 3) rfl))
  have LV : Laid G.Z G.a0 "java/lang/String" "java/lang/String" "value" "[B" := Or.inr (hG.1 _ (List.mem_of_getElem? (i := 5) rfl))
  have LC : Laid G.Z G.a0 "java/lang/String" "java/lang/String" "coder" "B" := Or.inr (hG.1 _ (List.mem_of_getElem? (i := 6) rfl))
  have sne : Jvm.RoadKit.slotOf G.Z "java/lang/String" "value" "[B" ≠ Jvm.RoadKit.slotOf G.Z "java/lang/String" "coder" "B" := slot_ne LV LC (by decide) (t := .array .byte) (t' := .byte) (by decide) (by decide)
  replace c := c.aloadN 1 d_si4_0 rfl rfl
  replace c := c.initO 4 d_si4_1 (hG.1 _ (List.mem_of_getElem? (i := 61) rfl)) (hG.1 _ (List.mem_of_getElem? (i := 62) rfl)) (hG.1 _ (List.mem_of_getElem? (i := 63) rfl)) (W := 0) rfl (by decide) (by decide)
  replace c := c.iloadN 5 d_si4_4 rfl
  by_cases q : cs = []
  · subst q
    replace c := c.ifF 8 d_si4_5 (own_if_ne_f rfl)
    replace c := c.aloadN 9 d_si4_8 rfl rfl
    obtain ⟨e, b_e, h_e, x_e, E_e, C_e, V_e, Y_e, N_e, c⟩ := c.ldcS 11 d_si4_9 (hG.1 _ (List.mem_of_getElem? (i := 124) rfl)) (own_sa hG) (own_el_5 hG) [] (by decide) (by decide) 0 (by decide) (by decide) (by decide) (by decide)
    replace c := c.getF 14 d_si4_11 (hG.1 _ (List.mem_of_getElem? (i := 14) rfl)) V_e
    have na : a ≠ e := (N_e a (by simp)).1
    have V1 := V.ext x_e
    have C1 := C0.ext x_e
    have E1 := E.ext x_e
    obtain ⟨hp1, Wp1, c⟩ := c.putF (C := "java/lang/String") (O := "java/lang/String") (n := "value") (d := "[B") (ty := (.array .byte)) 17 d_si4_14 (hG.1 _ (List.mem_of_getElem? (i := 14) rfl)) V1 E1 (Or.inr ⟨(hG.1 _ (List.mem_of_getElem? (i := 5) rfl)), rfl, rfl⟩) (hG.1 _ (List.mem_of_getElem? (i := 3) rfl)) (by decide) rfl (by first | rfl | decide) ha (Or.inl (by simp))
    have E2 := E1.wr Wp1
    have C2 := C1.other Wp1 (Or.inr sne.symm)
    have V2 := V1.same Wp1
    have Y2 := Y_e.other Wp1 (N_e a (by simp)).2.symm
    replace c := c.aloadN 18 d_si4_17 rfl rfl
    obtain ⟨f, b_f, h_f, x_f, E_f, C_f, V_f, Y_f, N_f, c⟩ := c.ldcS 20 d_si4_18 (hG.1 _ (List.mem_of_getElem? (i := 124) rfl)) (own_sa hG) (own_el_5 hG) [] (by decide) (by decide) 0 (by decide) (by decide) (by decide) (by decide)
    replace c := c.getF 23 d_si4_20 (hG.1 _ (List.mem_of_getElem? (i := 21) rfl)) C_f
    obtain ⟨hp2, Wp2, c⟩ := c.putF (C := "java/lang/String") (O := "java/lang/String") (n := "coder") (d := "B") (ty := .byte) 26 d_si4_23 (hG.1 _ (List.mem_of_getElem? (i := 21) rfl)) (C2.ext x_f) (E2.ext x_f) (Or.inr ⟨(hG.1 _ (List.mem_of_getElem? (i := 6) rfl)), rfl, rfl⟩) (hG.1 _ (List.mem_of_getElem? (i := 3) rfl)) (by decide) rfl (by first | rfl | decide) ha (Or.inl (by simp))
    have nb : b_e ≠ a := (N_e a (by simp)).2.symm
    have E3 := (E2.ext x_f).wr Wp2
    have C3 := (C2.ext x_f).same Wp2
    have V3 := (V2.ext x_f).other Wp2 (Or.inr sne)
    have Y3 := (Y2.ext x_f).other Wp2 nb
    exact c.ret d_si4_26 rfl (fun sf hs => ⟨rfl, ((((Keep.refl h0 [a]).ext x_e).wr Wp1 (Or.inl (by simp))).ext x_f).wr Wp2 (Or.inl (by simp)), Or.inl ⟨fun c hc => by simp at hc, E3, C3, b_e, V3, Y3⟩⟩) (by decide) (by decide)
  · skip
    have hpos : 0 < cs.length := List.length_pos_iff.mpr q
    replace c := c.ifT 27 d_si4_5 (own_if_ne_t (fun e => by have := own_inj (n := 0) e hlen (by decide); omega))
    obtain ⟨z, hz, hz0⟩ := hG.2.2.1
    replace c := c.getS 30 d_si4_27 (hG.1 _ (List.mem_of_getElem? (i := 20) rfl)) hz
    replace c := c.ifF 33 d_si4_30 (own_if_eq_f hz0)
    replace c := c.aloadN 34 d_si4_33 rfl rfl
    replace c := c.iloadN 35 d_si4_34 rfl
    replace c := c.iloadN 36 d_si4_35 rfl
    obtain ⟨v, h1, sf, ⟨b, rfl, s_b, K1, hb⟩, c⟩ := c.callS (y := y_cmp3) (argsL := [.ref ca, .int 0, .int (Int32.ofNat cs.length)]) (rest := []) 39 d_si4_36 (con_cmp3 hG hN Y hlat) rfl (hG.1 _ (List.mem_of_getElem? (i := 64) rfl)) (hG.1 _ (List.mem_of_getElem? (i := 65) rfl)) (hG.1 _ (List.mem_of_getElem? (i := 66) rfl)) (hG.1 _ (List.mem_of_getElem? (i := 67) rfl)) (lenOf pd_1 rfl) (by simp) (W := 0) rfl (by decide) (by decide) (by decide) (by decide)
    replace c := c [] (by simp)
    replace c : OAt G K M_si4 [a] 1 14 h1 39 #[.val (.ref a), .val (.ref ca), .val (.int 0), .val (.int (Int32.ofNat cs.length)), .val (.null), .unset] [.ref b] := c
    replace c := c.astore 41 d_si4_39 rfl #[.val (.ref a), .val (.ref ca), .val (.int 0), .val (.int (Int32.ofNat cs.length)), .val (.null), .val (.ref b)] rfl
    replace c := c.aloadN 42 d_si4_41 rfl rfl
    replace c := c.aload 44 d_si4_42 rfl rfl
    replace c := c.iloadN 45 d_si4_44 rfl
    have ca1 : a < h0.size := E.lt
    obtain ⟨co, vs, hco, Y1, hn, hst⟩ : ∃ (co : Int32) (vs : List Value), (Jvm.Free.XT.ushr (Int32.ofNat cs.length - Int32.ofNat vs.length) 31).toInt8.toInt32 = co ∧ Ary G.Z h1 b .byte vs ∧ (co = 0 ∨ co = 1) ∧ ∀ h2 : Heap, StrB G.Z h2 a co vs → Str G.Z h2 a cs := by
      rcases hb with ⟨la, D⟩ | ⟨chs, big, D⟩
      · exact ⟨0, _, by rw [encL_len, Int32.sub_self]; decide, D, Or.inl rfl, fun h2 q => Or.inl ⟨la, q⟩⟩
      · exact ⟨1, _, by rw [encU_len]; exact own_cod1 hpos (by omega), D, Or.inr rfl, fun h2 q => Or.inr ⟨chs, big, q⟩⟩
    obtain ⟨v, h2, sf, ⟨rfl, hh⟩, c⟩ := c.callS (y := y_cod) (argsL := [.ref b, .int (Int32.ofNat cs.length)]) (rest := [.ref a]) 48 d_si4_45 (con_cod hG Y1 hco (by rcases hn with rfl | rfl <;> rfl)) rfl (hG.1 _ (List.mem_of_getElem? (i := 71) rfl)) (hG.1 _ (List.mem_of_getElem? (i := 72) rfl)) (hG.1 _ (List.mem_of_getElem? (i := 66) rfl)) (hG.1 _ (List.mem_of_getElem? (i := 73) rfl)) (lenOf pd_2 rfl) (by simp) (W := 1) rfl (by decide) (by decide) (by decide) (by decide)
    rw [hh] at c
    replace c := c [] (by simp)
    replace c : OAt G K M_si4 [a] 1 14 h1 48 #[.val (.ref a), .val (.ref ca), .val (.int 0), .val (.int (Int32.ofNat cs.length)), .val (.null), .val (.ref b)] [.int co, .ref a] := c
    have nb : b ≠ a := Nat.ne_of_gt (Nat.lt_of_lt_of_le ca1 s_b)
    have E1 := E.keep K1
    have C1 := C0.keep K1 nin0
    have V1 := V.keep K1 nin0
    have fco : fits .byte (.int co) = true ∧ narrow .byte (.int co) = .int co := by rcases hn with rfl | rfl <;> exact ⟨rfl, rfl⟩
    obtain ⟨hp3, Wp3, c⟩ := c.putF (C := "java/lang/String") (O := "java/lang/String") (n := "coder") (d := "B") (ty := .byte) 51 d_si4_48 (hG.1 _ (List.mem_of_getElem? (i := 21) rfl)) C1 E1 (Or.inr ⟨(hG.1 _ (List.mem_of_getElem? (i := 6) rfl)), rfl, rfl⟩) (hG.1 _ (List.mem_of_getElem? (i := 3) rfl)) (by decide) fco.2 fco.1 ha (Or.inl (by simp))
    have E2 := E1.wr Wp3
    have C2 := C1.same Wp3
    have V2 := V1.other Wp3 (Or.inr sne)
    have Y2 := Y1.other Wp3 nb
    replace c := c.aloadN 52 d_si4_51 rfl rfl
    replace c := c.aload 54 d_si4_52 rfl rfl
    obtain ⟨hp4, Wp4, c⟩ := c.putF (C := "java/lang/String") (O := "java/lang/String") (n := "value") (d := "[B") (ty := (.array .byte)) 57 d_si4_54 (hG.1 _ (List.mem_of_getElem? (i := 14) rfl)) V2 E2 (Or.inr ⟨(hG.1 _ (List.mem_of_getElem? (i := 5) rfl)), rfl, rfl⟩) (hG.1 _ (List.mem_of_getElem? (i := 3) rfl)) (by decide) rfl (by first | rfl | decide) ha (Or.inl (by simp))
    have E3 := E2.wr Wp4
    have C3 := C2.other Wp4 (Or.inr sne.symm)
    have V3 := V2.same Wp4
    have Y3 := Y2.other Wp4 nb
    exact c.ret d_si4_57 rfl (fun sf hs => ⟨rfl, (((Keep.refl h0 [a]).trans K1 (fun x hx => by cases hx)).wr Wp3 (Or.inl (by simp))).wr Wp4 (Or.inl (by simp)), hst _ ⟨E3, C3, b, V3, Y3⟩⟩) (by decide) (by decide)
abbrev y_si1 : MethodName := ⟨"java/lang/String", "<init>", "([C)V"⟩
theorem pd_3 : parseMethodDescriptor "([CIILjava/lang/Void;)V" = some ⟨[(.array .char), .int, .int, (.object "java/lang/Void")], none⟩ := by decide +kernel
theorem d_si1_0 : decode jdk_42_method_3_code 0 = .ok (.aload_n 0, 1) := by decide +kernel
theorem d_si1_1 : decode jdk_42_method_3_code 1 = .ok (.aload_n 1, 1) := by decide +kernel
theorem d_si1_2 : decode jdk_42_method_3_code 2 = .ok (.iconst 0, 1) := by decide +kernel
theorem d_si1_3 : decode jdk_42_method_3_code 3 = .ok (.aload_n 1, 1) := by decide +kernel
theorem d_si1_4 : decode jdk_42_method_3_code 4 = .ok (.arraylength, 1) := by decide +kernel
theorem d_si1_5 : decode jdk_42_method_3_code 5 = .ok (.aconst_null, 1) := by decide +kernel
theorem d_si1_6 : decode jdk_42_method_3_code 6 = .ok (.invokespecial 27, 3) := by decide +kernel
theorem d_si1_9 : decode jdk_42_method_3_code 9 = .ok (.return_, 1) := by decide +kernel
abbrev rm_si1 : Room := { frames := 3, cells := 4, slots := 14, locals := 52 }
abbrev M_si1 : Mx := (jdk_42_method_3_code, y_si1.cls, none, y_si1.name, 2, rm_si1)
theorem ef_si1 (m : MethodId) (x0 : Addr) (x1 : Addr) : entryFrame m #[.ref x0, .ref x1] 2 = mkF m 0 #[.val (.ref x0), .val (.ref x1)] [] := by first | (simp [entryFrame, mkF, argsToLocals, Value.category]; done) | rfl
set_option maxRecDepth 65536 in
set_option maxHeartbeats 4000000 in
theorem con_si1 {G : Gx} (hG : OGood G) {h0 : Heap} {a ca : Addr} {cs : List Int32} (hN : cs.length ≤ 14) (ha : G.n0 ≤ a) (E : Exa G.Z h0 a "java/lang/String") (V : Fld G.Z h0 a "java/lang/String" "value" "[B" .null) (C0 : Fld G.Z h0 a "java/lang/String" "coder" "B" (.int 0)) (Y : Ary G.Z h0 ca .char (cs.map Value.int)) (hlat : Lat cs) : OCon G y_si1 jdk_42_method_3_code 2 none [] rm_si1 #[.ref a, .ref ca] [a] h0 (fun v h' _ => v = none ∧ Keep h0 h' [a] ∧ Str G.Z h' a cs) := by
  refine OCon.intro (plainFor_of_name pn_1) (own_ew hG) #[.val (.ref a), .val (.ref ca)] (fun m => ef_si1 m a ca) ?_
  intro K c
  replace c : OAt G K M_si1 [a] 0 0 h0 0 #[.val (.ref a), .val (.ref ca)] [] := c
  replace c := c.aloadN 1 d_si1_0 rfl rfl
  replace c := c.aloadN 2 d_si1_1 rfl rfl
  replace c := c.iconst 3 d_si1_2 0 (by decide)
  replace c := c.aloadN 4 d_si1_3 rfl rfl
  replace c := c.arrlen 5 d_si1_4 Y (Int32.ofNat cs.length) (by simp)
  replace c := c.aconstNull 6 d_si1_5
  obtain ⟨v, h1, sf, ⟨rfl, K1, S1⟩, c⟩ := c.callI (y := y_si4) (a := a) (argsL := [.ref ca, .int 0, .int (Int32.ofNat cs.length), .null]) (rest := []) 9 d_si1_6 (con_si4 hG hN ha E V C0 Y hlat) rfl (hG.1 _ (List.mem_of_getElem? (i := 57) rfl)) (hG.1 _ (List.mem_of_getElem? (i := 58) rfl)) (hG.1 _ (List.mem_of_getElem? (i := 2) rfl)) (hG.1 _ (List.mem_of_getElem? (i := 60) rfl)) (lenOf pd_3 rfl) (by simp) (W := 0) rfl (by decide) (by decide) (by decide) (by decide)
  replace c := c [] (by simp)
  replace c : OAt G K M_si1 [a] 4 14 h1 9 #[.val (.ref a), .val (.ref ca)] [] := c
  exact c.ret d_si1_9 rfl (fun sf hs => ⟨rfl, K1, S1⟩) (by decide) (by decide)
abbrev y_sl1eq : MethodName := ⟨"java/lang/StringLatin1", "equals", "([B[B)Z"⟩
abbrev Q_sl1eq (h0 : Heap) (us vs : List Int32) : Option Value → Heap → (Addr → Prop) → Prop := fun v h' _ => v = some (.int (if us = vs then 1 else 0)) ∧ h' = h0
theorem pn_2 : plainName "java/lang/StringLatin1" = true := by first | (simp [plainName, overriddenIn]; done) | decide +kernel
theorem d_sl1eq_0 : decode jdk_43_method_13_code 0 = .ok (.aload_n 0, 1) := by decide +kernel
theorem d_sl1eq_1 : decode jdk_43_method_13_code 1 = .ok (.arraylength, 1) := by decide +kernel
theorem d_sl1eq_2 : decode jdk_43_method_13_code 2 = .ok (.aload_n 1, 1) := by decide +kernel
theorem d_sl1eq_3 : decode jdk_43_method_13_code 3 = .ok (.arraylength, 1) := by decide +kernel
theorem d_sl1eq_4 : decode jdk_43_method_13_code 4 = .ok (.if_icmp .ne 30, 3) := by decide +kernel
theorem d_sl1eq_7 : decode jdk_43_method_13_code 7 = .ok (.iconst 0, 1) := by decide +kernel
theorem d_sl1eq_8 : decode jdk_43_method_13_code 8 = .ok (.istore_n 2, 1) := by decide +kernel
theorem d_sl1eq_9 : decode jdk_43_method_13_code 9 = .ok (.iload_n 2, 1) := by decide +kernel
theorem d_sl1eq_10 : decode jdk_43_method_13_code 10 = .ok (.aload_n 0, 1) := by decide +kernel
theorem d_sl1eq_11 : decode jdk_43_method_13_code 11 = .ok (.arraylength, 1) := by decide +kernel
theorem d_sl1eq_12 : decode jdk_43_method_13_code 12 = .ok (.if_icmp .ge 20, 3) := by decide +kernel
theorem d_sl1eq_15 : decode jdk_43_method_13_code 15 = .ok (.aload_n 0, 1) := by decide +kernel
theorem d_sl1eq_16 : decode jdk_43_method_13_code 16 = .ok (.iload_n 2, 1) := by decide +kernel
theorem d_sl1eq_17 : decode jdk_43_method_13_code 17 = .ok (.baload, 1) := by decide +kernel
theorem d_sl1eq_18 : decode jdk_43_method_13_code 18 = .ok (.aload_n 1, 1) := by decide +kernel
theorem d_sl1eq_19 : decode jdk_43_method_13_code 19 = .ok (.iload_n 2, 1) := by decide +kernel
theorem d_sl1eq_20 : decode jdk_43_method_13_code 20 = .ok (.baload, 1) := by decide +kernel
theorem d_sl1eq_21 : decode jdk_43_method_13_code 21 = .ok (.if_icmp .eq 5, 3) := by decide +kernel
theorem d_sl1eq_24 : decode jdk_43_method_13_code 24 = .ok (.iconst 0, 1) := by decide +kernel
theorem d_sl1eq_25 : decode jdk_43_method_13_code 25 = .ok (.ireturn, 1) := by decide +kernel
theorem d_sl1eq_26 : decode jdk_43_method_13_code 26 = .ok (.iinc 2 1, 3) := by decide +kernel
theorem d_sl1eq_29 : decode jdk_43_method_13_code 29 = .ok (.goto (-20), 3) := by decide +kernel
theorem d_sl1eq_32 : decode jdk_43_method_13_code 32 = .ok (.iconst 1, 1) := by decide +kernel
theorem d_sl1eq_33 : decode jdk_43_method_13_code 33 = .ok (.ireturn, 1) := by decide +kernel
theorem d_sl1eq_34 : decode jdk_43_method_13_code 34 = .ok (.iconst 0, 1) := by decide +kernel
theorem d_sl1eq_35 : decode jdk_43_method_13_code 35 = .ok (.ireturn, 1) := by decide +kernel
abbrev rm_sl1eq : Room := { frames := 0, cells := 0, slots := 0, locals := 0 }
abbrev M_sl1eq : Mx := (jdk_43_method_13_code, y_sl1eq.cls, (some .boolean), y_sl1eq.name, 3, rm_sl1eq)
theorem ef_sl1eq (m : MethodId) (x0 : Addr) (x1 : Addr) : entryFrame m #[.ref x0, .ref x1] 3 = mkF m 0 #[.val (.ref x0), .val (.ref x1), .unset] [] := by first | (simp [entryFrame, mkF, argsToLocals, Value.category]; done) | rfl
set_option maxRecDepth 65536 in
set_option maxHeartbeats 4000000 in
theorem con_sl1eq {G : Gx} (hG : OGood G) {h0 : Heap} {b1 b2 : Addr} {us vs : List Int32} (Y1 : Ary G.Z h0 b1 .byte (us.map Value.int)) (Y2 : Ary G.Z h0 b2 .byte (vs.map Value.int)) : OCon G y_sl1eq jdk_43_method_13_code 3 (some .boolean) [] rm_sl1eq #[.ref b1, .ref b2] [] h0 (Q_sl1eq h0 us vs) := by
  refine OCon.intro (plainFor_of_name pn_2) (own_ew hG) #[.val (.ref b1), .val (.ref b2), .unset] (fun m => ef_sl1eq m b1 b2) ?_
  intro K c
  replace c : OAt G K M_sl1eq [] 0 0 h0 0 #[.val (.ref b1), .val (.ref b2), .unset] [] := c
  have l1 : us.length < 2147483648 := by simpa using Y1.len
  have l2 : vs.length < 2147483648 := by simpa using Y2.len
  replace c := c.aloadN 1 d_sl1eq_0 rfl rfl
  replace c := c.arrlen 2 d_sl1eq_1 Y1 (Int32.ofNat us.length) (by simp)
  replace c := c.aloadN 3 d_sl1eq_2 rfl rfl
  replace c := c.arrlen 4 d_sl1eq_3 Y2 (Int32.ofNat vs.length) (by simp)
  by_cases q : us.length = vs.length
  · skip
    replace c := c.icF 7 d_sl1eq_4 (own_ic_ne_f (by rw [q]))
    replace c := c.iconst 8 d_sl1eq_7 0 (by decide)
    replace c := c.istoreN 9 d_sl1eq_8 #[.val (.ref b1), .val (.ref b2), .val (.int 0)] rfl
    have loop : ∀ (r i : Nat), i + r = us.length → us.take i = vs.take i → OAt G K M_sl1eq [] 0 0 h0 9 #[.val (.ref b1), .val (.ref b2), .val (.int (Int32.ofNat i))] [] → ODone G K rm_sl1eq (Q_sl1eq h0 us vs) := by
      intro r
      induction r with
      | zero =>
        intro i hi ht c
        replace c := c.iloadN 10 d_sl1eq_9 rfl
        replace c := c.aloadN 11 d_sl1eq_10 rfl rfl
        replace c := c.arrlen 12 d_sl1eq_11 Y1 (Int32.ofNat us.length) (by simp)
        replace c := c.icT 32 d_sl1eq_12 (own_ic_ge_t (own_nlt (by omega) (by omega)))
        replace c := c.iconst 33 d_sl1eq_32 1 (by decide)
        have hq : us = vs := by rw [List.take_of_length_le (by omega), List.take_of_length_le (by omega)] at ht; exact ht
        exact c.reti (t := .boolean) d_sl1eq_33 rfl rfl (by simp) (fun sf hs => ⟨by rw [if_pos hq], rfl⟩) (by decide) (by decide)
      | succ r ih =>
        intro i hi ht c
        obtain ⟨x, hx⟩ : ∃ x, us[i]? = some x := ⟨us[i], List.getElem?_eq_getElem (by omega)⟩
        obtain ⟨y, hy⟩ : ∃ y, vs[i]? = some y := ⟨vs[i], List.getElem?_eq_getElem (by omega)⟩
        replace c := c.iloadN 10 d_sl1eq_9 rfl
        replace c := c.aloadN 11 d_sl1eq_10 rfl rfl
        replace c := c.arrlen 12 d_sl1eq_11 Y1 (Int32.ofNat us.length) (by simp)
        replace c := c.icF 15 d_sl1eq_12 (own_ic_ge_f (own_lt (by omega) (by omega)))
        replace c := c.aloadN 16 d_sl1eq_15 rfl rfl
        replace c := c.iloadN 17 d_sl1eq_16 rfl
        replace c := c.baload 18 d_sl1eq_17 Y1 (i) rfl (.int x) (by simp [hx])
        replace c := c.aloadN 19 d_sl1eq_18 rfl rfl
        replace c := c.iloadN 20 d_sl1eq_19 rfl
        replace c := c.baload 21 d_sl1eq_20 Y2 (i) rfl (.int y) (by simp [hy])
        by_cases e : x = y
        · skip
          replace c := c.icT 26 d_sl1eq_21 (own_ic_eq_t e)
          replace c := c.iinc 29 d_sl1eq_26 rfl (Int32.ofNat (i + 1)) (own_succ i) #[.val (.ref b1), .val (.ref b2), .val (.int (Int32.ofNat (i + 1)))] rfl
          replace c := c.goto 9 d_sl1eq_29
          exact ih (i + 1) (by omega) (by rw [List.take_add_one, List.take_add_one, ht, hx, hy, e]) c
        · skip
          replace c := c.icF 24 d_sl1eq_21 (own_ic_eq_f e)
          replace c := c.iconst 25 d_sl1eq_24 0 (by decide)
          have hq : ¬ us = vs := fun q' => e (by rw [q', hy] at hx; exact (Option.some.inj hx).symm)
          exact c.reti (t := .boolean) d_sl1eq_25 rfl rfl (by simp) (fun sf hs => ⟨by rw [if_neg hq], rfl⟩) (by decide) (by decide)
    exact loop us.length 0 (by omega) rfl c
  · skip
    replace c := c.icT 34 d_sl1eq_4 (own_ic_ne_t (fun e => q (own_inj e l1 l2)))
    replace c := c.iconst 35 d_sl1eq_34 0 (by decide)
    have hq : ¬ us = vs := fun q' => q (by rw [q'])
    exact c.reti (t := .boolean) d_sl1eq_35 rfl rfl (by simp) (fun sf hs => ⟨by rw [if_neg hq], rfl⟩) (by decide) (by decide)
abbrev y_seq : MethodName := ⟨"java/lang/String", "equals", "(Ljava/lang/Object;)Z"⟩
theorem pd_4 : parseMethodDescriptor "([B[B)Z" = some ⟨[(.array .byte), (.array .byte)], some .boolean⟩ := by decide +kernel
theorem d_seq_0 : decode jdk_42_method_66_code 0 = .ok (.aload_n 0, 1) := by decide +kernel
theorem d_seq_1 : decode jdk_42_method_66_code 1 = .ok (.aload_n 1, 1) := by decide +kernel
theorem d_seq_2 : decode jdk_42_method_66_code 2 = .ok (.if_acmp .ne 5, 3) := by decide +kernel
theorem d_seq_5 : decode jdk_42_method_66_code 5 = .ok (.iconst 1, 1) := by decide +kernel
theorem d_seq_6 : decode jdk_42_method_66_code 6 = .ok (.ireturn, 1) := by decide +kernel
theorem d_seq_7 : decode jdk_42_method_66_code 7 = .ok (.aload_n 1, 1) := by decide +kernel
theorem d_seq_8 : decode jdk_42_method_66_code 8 = .ok (.instanceof 10, 3) := by decide +kernel
theorem d_seq_11 : decode jdk_42_method_66_code 11 = .ok (.ifCond .eq 43, 3) := by decide +kernel
theorem d_seq_14 : decode jdk_42_method_66_code 14 = .ok (.aload_n 1, 1) := by decide +kernel
theorem d_seq_15 : decode jdk_42_method_66_code 15 = .ok (.checkcast 10, 3) := by decide +kernel
theorem d_seq_18 : decode jdk_42_method_66_code 18 = .ok (.astore_n 2, 1) := by decide +kernel
theorem d_seq_19 : decode jdk_42_method_66_code 19 = .ok (.getstatic 38, 3) := by decide +kernel
theorem d_seq_22 : decode jdk_42_method_66_code 22 = .ok (.ifCond .eq 14, 3) := by decide +kernel
theorem d_seq_25 : decode jdk_42_method_66_code 25 = .ok (.aload_n 0, 1) := by decide +kernel
theorem d_seq_26 : decode jdk_42_method_66_code 26 = .ok (.getfield 15, 3) := by decide +kernel
theorem d_seq_29 : decode jdk_42_method_66_code 29 = .ok (.aload_n 2, 1) := by decide +kernel
theorem d_seq_30 : decode jdk_42_method_66_code 30 = .ok (.getfield 15, 3) := by decide +kernel
theorem d_seq_33 : decode jdk_42_method_66_code 33 = .ok (.if_icmp .ne 21, 3) := by decide +kernel
theorem d_seq_36 : decode jdk_42_method_66_code 36 = .ok (.aload_n 0, 1) := by decide +kernel
theorem d_seq_37 : decode jdk_42_method_66_code 37 = .ok (.getfield 9, 3) := by decide +kernel
theorem d_seq_40 : decode jdk_42_method_66_code 40 = .ok (.aload_n 2, 1) := by decide +kernel
theorem d_seq_41 : decode jdk_42_method_66_code 41 = .ok (.getfield 9, 3) := by decide +kernel
theorem d_seq_44 : decode jdk_42_method_66_code 44 = .ok (.invokestatic 541, 3) := by decide +kernel
theorem d_seq_47 : decode jdk_42_method_66_code 47 = .ok (.ifCond .eq 7, 3) := by decide +kernel
theorem d_seq_50 : decode jdk_42_method_66_code 50 = .ok (.iconst 1, 1) := by decide +kernel
theorem d_seq_51 : decode jdk_42_method_66_code 51 = .ok (.goto 4, 3) := by decide +kernel
theorem d_seq_54 : decode jdk_42_method_66_code 54 = .ok (.iconst 0, 1) := by decide +kernel
theorem d_seq_55 : decode jdk_42_method_66_code 55 = .ok (.ireturn, 1) := by decide +kernel
abbrev rm_seq : Room := { frames := 1, cells := 0, slots := 0, locals := 14 }
abbrev M_seq : Mx := (jdk_42_method_66_code, y_seq.cls, (some .boolean), y_seq.name, 3, rm_seq)
theorem ef_seq (m : MethodId) (x0 : Addr) (x1 : Addr) : entryFrame m #[.ref x0, .ref x1] 3 = mkF m 0 #[.val (.ref x0), .val (.ref x1), .unset] [] := by first | (simp [entryFrame, mkF, argsToLocals, Value.category]; done) | rfl
set_option maxRecDepth 65536 in
set_option maxHeartbeats 4000000 in
theorem con_seq {G : Gx} (hG : OGood G) {h0 : Heap} {a b : Addr} {xs ys : List Int32} (S1 : Str G.Z h0 a xs) (S2 : Str G.Z h0 b ys) : OCon G y_seq jdk_42_method_66_code 3 (some .boolean) [] rm_seq #[.ref a, .ref b] [] h0 (fun v h' _ => v = some (.int (if xs = ys then 1 else 0)) ∧ h' = h0) := by
  refine OCon.intro (plainFor_of_name pn_1) (own_ew hG) #[.val (.ref a), .val (.ref b), .unset] (fun m => ef_seq m a b) ?_
  intro K c
  replace c : OAt G K M_seq [] 0 0 h0 0 #[.val (.ref a), .val (.ref b), .unset] [] := c
  replace c := c.aloadN 1 d_seq_0 rfl rfl
  replace c := c.aloadN 2 d_seq_1 rfl rfl
  by_cases q : a = b
  · subst q
    replace c := c.acF 5 d_seq_2 rfl rfl (by simp [Jvm.Free.XT.acmp])
    replace c := c.iconst 6 d_seq_5 1 (by decide)
    have hq := S1.inj S2
    exact c.reti (t := .boolean) d_seq_6 rfl rfl (by simp) (fun sf hs => ⟨by rw [if_pos hq], rfl⟩) (by decide) (by decide)
  · skip
    replace c := c.acT 7 d_seq_2 rfl rfl (by simp [Jvm.Free.XT.acmp, q])
    replace c := c.aloadN 8 d_seq_7 rfl rfl
    obtain ⟨co1, us, ⟨E1, C1, b1, V1, Y1⟩, inj1⟩ := own_strE S1
    obtain ⟨co2, vs, ⟨E2, C2, b2, V2, Y2⟩, inj2⟩ := own_strE S2
    have hcmp := own_strC inj1 inj2
    replace c := c.inst1 11 d_seq_8 (hG.1 _ (List.mem_of_getElem? (i := 79) rfl)) (Ins.self E2)
    replace c := c.ifF 14 d_seq_11 (own_if_eq_f (by decide))
    replace c := c.aloadN 15 d_seq_14 rfl rfl
    replace c := c.cast 18 d_seq_15 (hG.1 _ (List.mem_of_getElem? (i := 79) rfl)) (Ins.self E2)
    replace c := c.astoreN 19 d_seq_18 rfl #[.val (.ref a), .val (.ref b), .val (.ref b)] rfl
    obtain ⟨z, hz, hz0⟩ := hG.2.2.1
    replace c := c.getS 22 d_seq_19 (hG.1 _ (List.mem_of_getElem? (i := 20) rfl)) hz
    replace c := c.ifF 25 d_seq_22 (own_if_eq_f hz0)
    replace c := c.aloadN 26 d_seq_25 rfl rfl
    replace c := c.getF 29 d_seq_26 (hG.1 _ (List.mem_of_getElem? (i := 21) rfl)) C1
    replace c := c.aloadN 30 d_seq_29 rfl rfl
    replace c := c.getF 33 d_seq_30 (hG.1 _ (List.mem_of_getElem? (i := 21) rfl)) C2
    by_cases e : co1 = co2
    · skip
      replace c := c.icF 36 d_seq_33 (own_ic_ne_f e)
      replace c := c.aloadN 37 d_seq_36 rfl rfl
      replace c := c.getF 40 d_seq_37 (hG.1 _ (List.mem_of_getElem? (i := 14) rfl)) V1
      replace c := c.aloadN 41 d_seq_40 rfl rfl
      replace c := c.getF 44 d_seq_41 (hG.1 _ (List.mem_of_getElem? (i := 14) rfl)) V2
      obtain ⟨v, h1, sf, ⟨rfl, hh⟩, c⟩ := c.callS (y := y_sl1eq) (argsL := [.ref b1, .ref b2]) (rest := []) 47 d_seq_44 (con_sl1eq hG Y1 Y2) rfl (hG.1 _ (List.mem_of_getElem? (i := 80) rfl)) (hG.1 _ (List.mem_of_getElem? (i := 81) rfl)) (hG.1 _ (List.mem_of_getElem? (i := 43) rfl)) (hG.1 _ (List.mem_of_getElem? (i := 82) rfl)) (lenOf pd_4 rfl) (by simp) (W := 0) rfl (by decide) (by decide) (by decide) (by decide)
      rw [hh] at c
      replace c := c [] (by simp)
      replace c : OAt G K M_seq [] 0 0 h0 47 #[.val (.ref a), .val (.ref b), .val (.ref b)] [.int (if us = vs then 1 else 0)] := c
      by_cases eb : us = vs
      · skip
        replace c := c.ifF 50 d_seq_47 (own_if_eq_f (by rw [if_pos eb]; decide))
        replace c := c.iconst 51 d_seq_50 1 (by decide)
        replace c := c.goto 55 d_seq_51
        exact c.reti (t := .boolean) d_seq_55 rfl rfl (by simp) (fun sf hs => ⟨by rw [if_pos (hcmp.mp ⟨e, eb⟩)], rfl⟩) (by decide) (by decide)
      · skip
        replace c := c.ifT 54 d_seq_47 (own_if_eq_t (by rw [if_neg eb]))
        replace c := c.iconst 55 d_seq_54 0 (by decide)
        exact c.reti (t := .boolean) d_seq_55 rfl rfl (by simp) (fun sf hs => ⟨by rw [if_neg (fun q => eb (hcmp.mpr q).2)], rfl⟩) (by decide) (by decide)
    · skip
      replace c := c.icT 54 d_seq_33 (own_ic_ne_t e)
      replace c := c.iconst 55 d_seq_54 0 (by decide)
      exact c.reti (t := .boolean) d_seq_55 rfl rfl (by simp) (fun sf hs => ⟨by rw [if_neg (fun q => e (hcmp.mpr q).1)], rfl⟩) (by decide) (by decide)
abbrev y_coder : MethodName := ⟨"java/lang/String", "coder", "()B"⟩
theorem d_coder_0 : decode jdk_42_method_152_code 0 = .ok (.getstatic 38, 3) := by decide +kernel
theorem d_coder_3 : decode jdk_42_method_152_code 3 = .ok (.ifCond .eq 10, 3) := by decide +kernel
theorem d_coder_6 : decode jdk_42_method_152_code 6 = .ok (.aload_n 0, 1) := by decide +kernel
theorem d_coder_7 : decode jdk_42_method_152_code 7 = .ok (.getfield 15, 3) := by decide +kernel
theorem d_coder_10 : decode jdk_42_method_152_code 10 = .ok (.goto 4, 3) := by decide +kernel
theorem d_coder_14 : decode jdk_42_method_152_code 14 = .ok (.ireturn, 1) := by decide +kernel
abbrev rm_coder : Room := { frames := 0, cells := 0, slots := 0, locals := 0 }
abbrev M_coder : Mx := (jdk_42_method_152_code, y_coder.cls, (some .byte), y_coder.name, 1, rm_coder)
theorem ef_coder (m : MethodId) (x0 : Addr) : entryFrame m #[.ref x0] 1 = mkF m 0 #[.val (.ref x0)] [] := by first | (simp [entryFrame, mkF, argsToLocals, Value.category]; done) | rfl
set_option maxRecDepth 65536 in
set_option maxHeartbeats 4000000 in
theorem con_coder {G : Gx} (hG : OGood G) {h0 : Heap} {a : Addr} {co : Int32} {bs : List Value} (hco : co = 0 ∨ co = 1) (B : StrB G.Z h0 a co bs) : OCon G y_coder jdk_42_method_152_code 1 (some .byte) [] rm_coder #[.ref a] [] h0 (fun v h' _ => v = some (.int co) ∧ h' = h0) := by
  refine OCon.intro (plainFor_of_name pn_1) (own_ew hG) #[.val (.ref a)] (fun m => ef_coder m a) ?_
  intro K c
  replace c : OAt G K M_coder [] 0 0 h0 0 #[.val (.ref a)] [] := c
  obtain ⟨E, C, b, V, Y⟩ := B
  obtain ⟨z, hz, hz0⟩ := hG.2.2.1
  replace c := c.getS 3 d_coder_0 (hG.1 _ (List.mem_of_getElem? (i := 20) rfl)) hz
  replace c := c.ifF 6 d_coder_3 (own_if_eq_f hz0)
  replace c := c.aloadN 7 d_coder_6 rfl rfl
  replace c := c.getF 10 d_coder_7 (hG.1 _ (List.mem_of_getElem? (i := 21) rfl)) C
  replace c := c.goto 14 d_coder_10
  exact c.reti (t := .byte) d_coder_14 rfl (by rcases hco with rfl | rfl <;> rfl) (by simp) (fun sf hs => ⟨rfl, rfl⟩) (by decide) (by decide)
abbrev y_isl : MethodName := ⟨"java/lang/String", "isLatin1", "()Z"⟩
theorem d_isl_0 : decode jdk_42_method_154_code 0 = .ok (.getstatic 38, 3) := by decide +kernel
theorem d_isl_3 : decode jdk_42_method_154_code 3 = .ok (.ifCond .eq 14, 3) := by decide +kernel
theorem d_isl_6 : decode jdk_42_method_154_code 6 = .ok (.aload_n 0, 1) := by decide +kernel
theorem d_isl_7 : decode jdk_42_method_154_code 7 = .ok (.getfield 15, 3) := by decide +kernel
theorem d_isl_10 : decode jdk_42_method_154_code 10 = .ok (.ifCond .ne 7, 3) := by decide +kernel
theorem d_isl_13 : decode jdk_42_method_154_code 13 = .ok (.iconst 1, 1) := by decide +kernel
theorem d_isl_14 : decode jdk_42_method_154_code 14 = .ok (.goto 4, 3) := by decide +kernel
theorem d_isl_18 : decode jdk_42_method_154_code 18 = .ok (.ireturn, 1) := by decide +kernel
abbrev rm_isl : Room := { frames := 0, cells := 0, slots := 0, locals := 0 }
abbrev M_isl : Mx := (jdk_42_method_154_code, y_isl.cls, (some .boolean), y_isl.name, 1, rm_isl)
theorem ef_isl (m : MethodId) (x0 : Addr) : entryFrame m #[.ref x0] 1 = mkF m 0 #[.val (.ref x0)] [] := by first | (simp [entryFrame, mkF, argsToLocals, Value.category]; done) | rfl
set_option maxRecDepth 65536 in
set_option maxHeartbeats 4000000 in
theorem con_isl {G : Gx} (hG : OGood G) {h0 : Heap} {a : Addr} {bs : List Value} (B : StrB G.Z h0 a 0 bs) : OCon G y_isl jdk_42_method_154_code 1 (some .boolean) [] rm_isl #[.ref a] [] h0 (fun v h' _ => v = some (.int 1) ∧ h' = h0) := by
  refine OCon.intro (plainFor_of_name pn_1) (own_ew hG) #[.val (.ref a)] (fun m => ef_isl m a) ?_
  intro K c
  replace c : OAt G K M_isl [] 0 0 h0 0 #[.val (.ref a)] [] := c
  obtain ⟨E, C, b, V, Y⟩ := B
  obtain ⟨z, hz, hz0⟩ := hG.2.2.1
  replace c := c.getS 3 d_isl_0 (hG.1 _ (List.mem_of_getElem? (i := 20) rfl)) hz
  replace c := c.ifF 6 d_isl_3 (own_if_eq_f hz0)
  replace c := c.aloadN 7 d_isl_6 rfl rfl
  replace c := c.getF 10 d_isl_7 (hG.1 _ (List.mem_of_getElem? (i := 21) rfl)) C
  replace c := c.ifF 13 d_isl_10 (own_if_ne_f rfl)
  replace c := c.iconst 14 d_isl_13 1 (by decide)
  replace c := c.goto 18 d_isl_14
  exact c.reti (t := .boolean) d_isl_18 rfl rfl (by simp) (fun sf hs => ⟨rfl, rfl⟩) (by decide) (by decide)
abbrev y_slen : MethodName := ⟨"java/lang/String", "length", "()I"⟩
theorem pd_5 : parseMethodDescriptor "()B" = some ⟨[], some .byte⟩ := by decide +kernel
theorem d_slen_0 : decode jdk_42_method_54_code 0 = .ok (.aload_n 0, 1) := by decide +kernel
theorem d_slen_1 : decode jdk_42_method_54_code 1 = .ok (.getfield 9, 3) := by decide +kernel
theorem d_slen_4 : decode jdk_42_method_54_code 4 = .ok (.arraylength, 1) := by decide +kernel
theorem d_slen_5 : decode jdk_42_method_54_code 5 = .ok (.aload_n 0, 1) := by decide +kernel
theorem d_slen_6 : decode jdk_42_method_54_code 6 = .ok (.invokevirtual 335, 3) := by decide +kernel
theorem d_slen_9 : decode jdk_42_method_54_code 9 = .ok (.ishr, 1) := by decide +kernel
theorem d_slen_10 : decode jdk_42_method_54_code 10 = .ok (.ireturn, 1) := by decide +kernel
abbrev rm_slen : Room := { frames := 1, cells := 0, slots := 0, locals := 13 }
abbrev M_slen : Mx := (jdk_42_method_54_code, y_slen.cls, (some .int), y_slen.name, 1, rm_slen)
theorem ef_slen (m : MethodId) (x0 : Addr) : entryFrame m #[.ref x0] 1 = mkF m 0 #[.val (.ref x0)] [] := by first | (simp [entryFrame, mkF, argsToLocals, Value.category]; done) | rfl
set_option maxRecDepth 65536 in
set_option maxHeartbeats 4000000 in
theorem con_slen {G : Gx} (hG : OGood G) {h0 : Heap} {a : Addr} {co r : Int32} {bs : List Value} (hco : co = 0 ∨ co = 1) (hr : Int32.ofNat bs.length >>> (co &&& 31) = r) (B : StrB G.Z h0 a co bs) : OCon G y_slen jdk_42_method_54_code 1 (some .int) [] rm_slen #[.ref a] [] h0 (fun v h' _ => v = some (.int r) ∧ h' = h0) := by
  refine OCon.intro (plainFor_of_name pn_1) (own_ew hG) #[.val (.ref a)] (fun m => ef_slen m a) ?_
  intro K c
  replace c : OAt G K M_slen [] 0 0 h0 0 #[.val (.ref a)] [] := c
  obtain ⟨E, C, b, V, Y⟩ := id B
  replace c := c.aloadN 1 d_slen_0 rfl rfl
  replace c := c.getF 4 d_slen_1 (hG.1 _ (List.mem_of_getElem? (i := 14) rfl)) V
  replace c := c.arrlen 5 d_slen_4 Y (Int32.ofNat bs.length) rfl
  replace c := c.aloadN 6 d_slen_5 rfl rfl
  obtain ⟨v, h1, sf, ⟨rfl, hh⟩, c⟩ := c.callV (y := (⟨"java/lang/String", "coder", "()B"⟩ : MethodName)) (z := y_coder) (C := "java/lang/String") (a := a) (argsL := []) (rest := [.int (Int32.ofNat bs.length)]) 9 d_slen_6 (con_coder hG hco B) rfl E (hG.1 _ (List.mem_of_getElem? (i := 15) rfl)) (hG.1 _ (List.mem_of_getElem? (i := 16) rfl)) (own_nf (hG.1 _ (List.mem_of_getElem? (i := 18) rfl))) (hG.1 _ (List.mem_of_getElem? (i := 18) rfl)) (hG.1 _ (List.mem_of_getElem? (i := 17) rfl)) (hG.1 _ (List.mem_of_getElem? (i := 2) rfl)) (hG.1 _ (List.mem_of_getElem? (i := 19) rfl)) (lenOf pd_5 rfl) (by simp) (W := 1) rfl (by decide) (by decide) (by decide) (by decide)
  rw [hh] at c
  replace c := c [] (by simp)
  replace c : OAt G K M_slen [] 0 0 h0 9 #[.val (.ref a)] [.int co, .int (Int32.ofNat bs.length)] := c
  replace c := c.ishr 10 d_slen_9
  rw [hr] at c
  exact c.reti (t := .int) d_slen_10 rfl rfl (by simp) (fun sf hs => ⟨rfl, rfl⟩) (by decide) (by decide)
abbrev y_ciR : MethodName := ⟨"jdk/internal/util/Preconditions", "checkIndex", "(IILjava/util/function/BiFunction;)I"⟩
theorem pn_3 : plainName "jdk/internal/util/Preconditions" = true := by first | (simp [plainName, overriddenIn]; done) | decide +kernel
theorem d_ciR_0 : decode jdk_41_method_11_code 0 = .ok (.iload_n 0, 1) := by decide +kernel
theorem d_ciR_1 : decode jdk_41_method_11_code 1 = .ok (.ifCond .lt 8, 3) := by decide +kernel
theorem d_ciR_4 : decode jdk_41_method_11_code 4 = .ok (.iload_n 0, 1) := by decide +kernel
theorem d_ciR_5 : decode jdk_41_method_11_code 5 = .ok (.iload_n 1, 1) := by decide +kernel
theorem d_ciR_6 : decode jdk_41_method_11_code 6 = .ok (.if_icmp .lt 10, 3) := by decide +kernel
theorem d_ciR_16 : decode jdk_41_method_11_code 16 = .ok (.iload_n 0, 1) := by decide +kernel
theorem d_ciR_17 : decode jdk_41_method_11_code 17 = .ok (.ireturn, 1) := by decide +kernel
abbrev rm_ciR : Room := { frames := 0, cells := 0, slots := 0, locals := 0 }
abbrev M_ciR : Mx := (jdk_41_method_11_code, y_ciR.cls, (some .int), y_ciR.name, 3, rm_ciR)
theorem ef_ciR (m : MethodId) (x0 : Int32) (x1 : Int32) (x2 : Addr) : entryFrame m #[.int x0, .int x1, .ref x2] 3 = mkF m 0 #[.val (.int x0), .val (.int x1), .val (.ref x2)] [] := by first | (simp [entryFrame, mkF, argsToLocals, Value.category]; done) | rfl
set_option maxRecDepth 65536 in
set_option maxHeartbeats 4000000 in
theorem con_ciR {G : Gx} (hG : OGood G) {h0 : Heap} {i n : Nat} {f : Addr} (hin : i < n) (hn : n ≤ 8000) : OCon G y_ciR jdk_41_method_11_code 3 (some .int) [] rm_ciR #[.int (Int32.ofNat i), .int (Int32.ofNat n), .ref f] [] h0 (fun v h' _ => v = some (.int (Int32.ofNat i)) ∧ h' = h0) := by
  refine OCon.intro (plainFor_of_name pn_3) (own_ew hG) #[.val (.int (Int32.ofNat i)), .val (.int (Int32.ofNat n)), .val (.ref f)] (fun m => ef_ciR m (Int32.ofNat i) (Int32.ofNat n) f) ?_
  intro K c
  replace c : OAt G K M_ciR [] 0 0 h0 0 #[.val (.int (Int32.ofNat i)), .val (.int (Int32.ofNat n)), .val (.ref f)] [] := c
  replace c := c.iloadN 1 d_ciR_0 rfl
  replace c := c.ifF 4 d_ciR_1 (own_if_lt_f (own_nneg (by omega)))
  replace c := c.iloadN 5 d_ciR_4 rfl
  replace c := c.iloadN 6 d_ciR_5 rfl
  replace c := c.icT 16 d_ciR_6 (own_ic_lt_t (own_lt hin (by omega)))
  replace c := c.iloadN 17 d_ciR_16 rfl
  exact c.reti (t := .int) d_ciR_17 rfl rfl (by simp) (fun sf hs => ⟨rfl, rfl⟩) (by decide) (by decide)
abbrev y_ciN : MethodName := ⟨"jdk/internal/util/Preconditions", "checkIndex", "(IILjava/util/function/BiFunction;)I"⟩
theorem d_ciN_0 : decode jdk_41_method_11_code 0 = .ok (.iload_n 0, 1) := by decide +kernel
theorem d_ciN_1 : decode jdk_41_method_11_code 1 = .ok (.ifCond .lt 8, 3) := by decide +kernel
theorem d_ciN_4 : decode jdk_41_method_11_code 4 = .ok (.iload_n 0, 1) := by decide +kernel
theorem d_ciN_5 : decode jdk_41_method_11_code 5 = .ok (.iload_n 1, 1) := by decide +kernel
theorem d_ciN_6 : decode jdk_41_method_11_code 6 = .ok (.if_icmp .lt 10, 3) := by decide +kernel
theorem d_ciN_16 : decode jdk_41_method_11_code 16 = .ok (.iload_n 0, 1) := by decide +kernel
theorem d_ciN_17 : decode jdk_41_method_11_code 17 = .ok (.ireturn, 1) := by decide +kernel
abbrev rm_ciN : Room := { frames := 0, cells := 0, slots := 0, locals := 0 }
abbrev M_ciN : Mx := (jdk_41_method_11_code, y_ciN.cls, (some .int), y_ciN.name, 3, rm_ciN)
theorem ef_ciN (m : MethodId) (x0 : Int32) (x1 : Int32) : entryFrame m #[.int x0, .int x1, .null] 3 = mkF m 0 #[.val (.int x0), .val (.int x1), .val .null] [] := by first | (simp [entryFrame, mkF, argsToLocals, Value.category]; done) | rfl
set_option maxRecDepth 65536 in
set_option maxHeartbeats 4000000 in
theorem con_ciN {G : Gx} (hG : OGood G) {h0 : Heap} {i n : Nat} (hin : i < n) (hn : n ≤ 8000) : OCon G y_ciN jdk_41_method_11_code 3 (some .int) [] rm_ciN #[.int (Int32.ofNat i), .int (Int32.ofNat n), .null] [] h0 (fun v h' _ => v = some (.int (Int32.ofNat i)) ∧ h' = h0) := by
  refine OCon.intro (plainFor_of_name pn_3) (own_ew hG) #[.val (.int (Int32.ofNat i)), .val (.int (Int32.ofNat n)), .val (.null)] (fun m => ef_ciN m (Int32.ofNat i) (Int32.ofNat n)) ?_
  intro K c
  replace c : OAt G K M_ciN [] 0 0 h0 0 #[.val (.int (Int32.ofNat i)), .val (.int (Int32.ofNat n)), .val (.null)] [] := c
  replace c := c.iloadN 1 d_ciN_0 rfl
  replace c := c.ifF 4 d_ciN_1 (own_if_lt_f (own_nneg (by omega)))
  replace c := c.iloadN 5 d_ciN_4 rfl
  replace c := c.iloadN 6 d_ciN_5 rfl
  replace c := c.icT 16 d_ciN_6 (own_ic_lt_t (own_lt hin (by omega)))
  replace c := c.iloadN 17 d_ciN_16 rfl
  exact c.reti (t := .int) d_ciN_17 rfl rfl (by simp) (fun sf hs => ⟨rfl, rfl⟩) (by decide) (by decide)
abbrev y_ci : MethodName := ⟨"java/lang/String", "checkIndex", "(II)V"⟩
theorem pd_6 : parseMethodDescriptor "(IILjava/util/function/BiFunction;)I" = some ⟨[.int, .int, (.object "java/util/function/BiFunction")], some .int⟩ := by decide +kernel
theorem d_ci_0 : decode jdk_42_method_155_code 0 = .ok (.iload_n 0, 1) := by decide +kernel
theorem d_ci_1 : decode jdk_42_method_155_code 1 = .ok (.iload_n 1, 1) := by decide +kernel
theorem d_ci_2 : decode jdk_42_method_155_code 2 = .ok (.getstatic 1053, 3) := by decide +kernel
theorem d_ci_5 : decode jdk_42_method_155_code 5 = .ok (.invokestatic 1059, 3) := by decide +kernel
theorem d_ci_8 : decode jdk_42_method_155_code 8 = .ok (.pop, 1) := by decide +kernel
theorem d_ci_9 : decode jdk_42_method_155_code 9 = .ok (.return_, 1) := by decide +kernel
abbrev rm_ci : Room := { frames := 1, cells := 0, slots := 0, locals := 14 }
abbrev M_ci : Mx := (jdk_42_method_155_code, y_ci.cls, none, y_ci.name, 2, rm_ci)
theorem ef_ci (m : MethodId) (x0 : Int32) (x1 : Int32) : entryFrame m #[.int x0, .int x1] 2 = mkF m 0 #[.val (.int x0), .val (.int x1)] [] := by first | (simp [entryFrame, mkF, argsToLocals, Value.category]; done) | rfl
set_option maxRecDepth 65536 in
set_option maxHeartbeats 4000000 in
theorem con_ci {G : Gx} (hG : OGood G) {h0 : Heap} {i n : Nat} (hin : i < n) (hn : n ≤ 8000) : OCon G y_ci jdk_42_method_155_code 2 none [] rm_ci #[.int (Int32.ofNat i), .int (Int32.ofNat n)] [] h0 (fun v h' _ => v = none ∧ h' = h0) := by
  refine OCon.intro (plainFor_of_name pn_1) (own_ew hG) #[.val (.int (Int32.ofNat i)), .val (.int (Int32.ofNat n))] (fun m => ef_ci m (Int32.ofNat i) (Int32.ofNat n)) ?_
  intro K c
  replace c : OAt G K M_ci [] 0 0 h0 0 #[.val (.int (Int32.ofNat i)), .val (.int (Int32.ofNat n))] [] := c
  replace c := c.iloadN 1 d_ci_0 rfl
  replace c := c.iloadN 2 d_ci_1 rfl
  obtain ⟨z, hz, hzr⟩ := hG.2.2.2.1
  replace c := c.getS 5 d_ci_2 (hG.1 _ (List.mem_of_getElem? (i := 48) rfl)) hz
  rcases ref_cases hzr with rfl | ⟨f, rfl⟩
  · skip
    obtain ⟨v, h1, sf, ⟨rfl, hh⟩, c⟩ := c.callS (y := y_ciN) (argsL := [.int (Int32.ofNat i), .int (Int32.ofNat n), .null]) (rest := []) 8 d_ci_5 (con_ciN hG hin hn) rfl (hG.1 _ (List.mem_of_getElem? (i := 50) rfl)) (hG.1 _ (List.mem_of_getElem? (i := 51) rfl)) (hG.1 _ (List.mem_of_getElem? (i := 49) rfl)) (hG.1 _ (List.mem_of_getElem? (i := 52) rfl)) (lenOf pd_6 rfl) (by simp) (W := 0) rfl (by decide) (by decide) (by decide) (by decide)
    rw [hh] at c
    replace c := c [] (by simp)
    replace c : OAt G K M_ci [] 0 0 h0 8 #[.val (.int (Int32.ofNat i)), .val (.int (Int32.ofNat n))] [.int (Int32.ofNat i)] := c
    replace c := c.pop 9 d_ci_8 rfl
    exact c.ret d_ci_9 rfl (fun sf hs => ⟨rfl, rfl⟩) (by decide) (by decide)
  · skip
    obtain ⟨v, h1, sf, ⟨rfl, hh⟩, c⟩ := c.callS (y := y_ciR) (argsL := [.int (Int32.ofNat i), .int (Int32.ofNat n), .ref f]) (rest := []) 8 d_ci_5 (con_ciR hG (f := f) hin hn) rfl (hG.1 _ (List.mem_of_getElem? (i := 50) rfl)) (hG.1 _ (List.mem_of_getElem? (i := 51) rfl)) (hG.1 _ (List.mem_of_getElem? (i := 49) rfl)) (hG.1 _ (List.mem_of_getElem? (i := 52) rfl)) (lenOf pd_6 rfl) (by simp) (W := 0) rfl (by decide) (by decide) (by decide) (by decide)
    rw [hh] at c
    replace c := c [] (by simp)
    replace c : OAt G K M_ci [] 0 0 h0 8 #[.val (.int (Int32.ofNat i)), .val (.int (Int32.ofNat n))] [.int (Int32.ofNat i)] := c
    replace c := c.pop 9 d_ci_8 rfl
    exact c.ret d_ci_9 rfl (fun sf hs => ⟨rfl, rfl⟩) (by decide) (by decide)
abbrev y_chl : MethodName := ⟨"java/lang/StringLatin1", "charAt", "([BI)C"⟩
theorem pd_7 : parseMethodDescriptor "(II)V" = some ⟨[.int, .int], none⟩ := by decide +kernel
theorem d_chl_0 : decode jdk_43_method_2_code 0 = .ok (.iload_n 1, 1) := by decide +kernel
theorem d_chl_1 : decode jdk_43_method_2_code 1 = .ok (.aload_n 0, 1) := by decide +kernel
theorem d_chl_2 : decode jdk_43_method_2_code 2 = .ok (.arraylength, 1) := by decide +kernel
theorem d_chl_3 : decode jdk_43_method_2_code 3 = .ok (.invokestatic 9, 3) := by decide +kernel
theorem d_chl_6 : decode jdk_43_method_2_code 6 = .ok (.aload_n 0, 1) := by decide +kernel
theorem d_chl_7 : decode jdk_43_method_2_code 7 = .ok (.iload_n 1, 1) := by decide +kernel
theorem d_chl_8 : decode jdk_43_method_2_code 8 = .ok (.baload, 1) := by decide +kernel
theorem d_chl_9 : decode jdk_43_method_2_code 9 = .ok (.sipush 255, 3) := by decide +kernel
theorem d_chl_12 : decode jdk_43_method_2_code 12 = .ok (.iand, 1) := by decide +kernel
theorem d_chl_13 : decode jdk_43_method_2_code 13 = .ok (.i2c, 1) := by decide +kernel
theorem d_chl_14 : decode jdk_43_method_2_code 14 = .ok (.ireturn, 1) := by decide +kernel
abbrev rm_chl : Room := { frames := 2, cells := 0, slots := 0, locals := 27 }
abbrev M_chl : Mx := (jdk_43_method_2_code, y_chl.cls, (some .char), y_chl.name, 2, rm_chl)
theorem ef_chl (m : MethodId) (x0 : Addr) (x1 : Int32) : entryFrame m #[.ref x0, .int x1] 2 = mkF m 0 #[.val (.ref x0), .val (.int x1)] [] := by first | (simp [entryFrame, mkF, argsToLocals, Value.category]; done) | rfl
set_option maxRecDepth 65536 in
set_option maxHeartbeats 4000000 in
theorem con_chl {G : Gx} (hG : OGood G) {h0 : Heap} {b : Addr} {i : Nat} {x : Int32} {cs : List Int32} (hl : Lat cs) (hx : cs[i]? = some x) (h4 : cs.length ≤ 4000) (Y : Ary G.Z h0 b .byte (encL cs)) : OCon G y_chl jdk_43_method_2_code 2 (some .char) [] rm_chl #[.ref b, .int (Int32.ofNat i)] [] h0 (fun v h' _ => v = some (.int x) ∧ h' = h0) := by
  refine OCon.intro (plainFor_of_name pn_2) (own_ew hG) #[.val (.ref b), .val (.int (Int32.ofNat i))] (fun m => ef_chl m b (Int32.ofNat i)) ?_
  intro K c
  replace c : OAt G K M_chl [] 0 0 h0 0 #[.val (.ref b), .val (.int (Int32.ofNat i))] [] := c
  have hi := (List.getElem?_eq_some_iff.mp hx).1
  have rx := hl x (List.mem_of_getElem? hx)
  replace c := c.iloadN 1 d_chl_0 rfl
  replace c := c.aloadN 2 d_chl_1 rfl rfl
  replace c := c.arrlen 3 d_chl_2 Y (Int32.ofNat cs.length) (by rw [encL_len])
  obtain ⟨v, h1, sf, ⟨rfl, hh⟩, c⟩ := c.callS (y := y_ci) (argsL := [.int (Int32.ofNat i), .int (Int32.ofNat cs.length)]) (rest := []) 6 d_chl_3 (con_ci hG hi (by omega)) rfl (hG.1 _ (List.mem_of_getElem? (i := 45) rfl)) (hG.1 _ (List.mem_of_getElem? (i := 46) rfl)) (hG.1 _ (List.mem_of_getElem? (i := 2) rfl)) (hG.1 _ (List.mem_of_getElem? (i := 47) rfl)) (lenOf pd_7 rfl) (by simp) (W := 0) rfl (by decide) (by decide) (by decide) (by decide)
  rw [hh] at c
  replace c := c [] (by simp)
  replace c : OAt G K M_chl [] 0 0 h0 6 #[.val (.ref b), .val (.int (Int32.ofNat i))] [] := c
  replace c := c.aloadN 7 d_chl_6 rfl rfl
  replace c := c.iloadN 8 d_chl_7 rfl
  replace c := c.baload 9 d_chl_8 Y (i) rfl (.int (lo8 x)) (by simp [encL, hx])
  replace c := c.sipush 12 d_chl_9 255 (by decide)
  replace c := c.iand 13 d_chl_12
  rw [own_mask rx] at c
  replace c := c.i2c 14 d_chl_13
  rw [own_i2c ⟨rx.1, by omega⟩] at c
  exact c.reti (t := .char) d_chl_14 rfl (by show Value.int _ = _; rw [own_i2c ⟨rx.1, by omega⟩]) (by simp) (fun sf hs => ⟨rfl, rfl⟩) (by decide) (by decide)
abbrev y_cha : MethodName := ⟨"java/lang/String", "charAt", "(I)C"⟩
theorem pd_8 : parseMethodDescriptor "()Z" = some ⟨[], some .boolean⟩ := by decide +kernel
theorem pd_9 : parseMethodDescriptor "([BI)C" = some ⟨[(.array .byte), .int], some .char⟩ := by decide +kernel
theorem d_cha_0 : decode jdk_42_method_56_code 0 = .ok (.aload_n 0, 1) := by decide +kernel
theorem d_cha_1 : decode jdk_42_method_56_code 1 = .ok (.invokevirtual 492, 3) := by decide +kernel
theorem d_cha_4 : decode jdk_42_method_56_code 4 = .ok (.ifCond .eq 12, 3) := by decide +kernel
theorem d_cha_7 : decode jdk_42_method_56_code 7 = .ok (.aload_n 0, 1) := by decide +kernel
theorem d_cha_8 : decode jdk_42_method_56_code 8 = .ok (.getfield 9, 3) := by decide +kernel
theorem d_cha_11 : decode jdk_42_method_56_code 11 = .ok (.iload_n 1, 1) := by decide +kernel
theorem d_cha_12 : decode jdk_42_method_56_code 12 = .ok (.invokestatic 495, 3) := by decide +kernel
theorem d_cha_15 : decode jdk_42_method_56_code 15 = .ok (.ireturn, 1) := by decide +kernel
abbrev rm_cha : Room := { frames := 3, cells := 0, slots := 0, locals := 40 }
abbrev M_cha : Mx := (jdk_42_method_56_code, y_cha.cls, (some .char), y_cha.name, 2, rm_cha)
theorem ef_cha (m : MethodId) (x0 : Addr) (x1 : Int32) : entryFrame m #[.ref x0, .int x1] 2 = mkF m 0 #[.val (.ref x0), .val (.int x1)] [] := by first | (simp [entryFrame, mkF, argsToLocals, Value.category]; done) | rfl
set_option maxRecDepth 65536 in
set_option maxHeartbeats 4000000 in
theorem con_cha {G : Gx} (hG : OGood G) {h0 : Heap} {a : Addr} {i : Nat} {x : Int32} {cs : List Int32} (hl : Lat cs) (hx : cs[i]? = some x) (h4 : cs.length ≤ 4000) (B : StrB G.Z h0 a 0 (encL cs)) : OCon G y_cha jdk_42_method_56_code 2 (some .char) [] rm_cha #[.ref a, .int (Int32.ofNat i)] [] h0 (fun v h' _ => v = some (.int x) ∧ h' = h0) := by
  refine OCon.intro (plainFor_of_name pn_1) (own_ew hG) #[.val (.ref a), .val (.int (Int32.ofNat i))] (fun m => ef_cha m a (Int32.ofNat i)) ?_
  intro K c
  replace c : OAt G K M_cha [] 0 0 h0 0 #[.val (.ref a), .val (.int (Int32.ofNat i))] [] := c
  obtain ⟨E, C, b, V, Y⟩ := id B
  have rx := hl x (List.mem_of_getElem? hx)
  replace c := c.aloadN 1 d_cha_0 rfl rfl
  obtain ⟨v, h1, sf, ⟨rfl, hh⟩, c⟩ := c.callV (y := (⟨"java/lang/String", "isLatin1", "()Z"⟩ : MethodName)) (z := y_isl) (C := "java/lang/String") (a := a) (argsL := []) (rest := []) 4 d_cha_1 (con_isl hG B) rfl E (hG.1 _ (List.mem_of_getElem? (i := 36) rfl)) (hG.1 _ (List.mem_of_getElem? (i := 37) rfl)) (own_nf (hG.1 _ (List.mem_of_getElem? (i := 39) rfl))) (hG.1 _ (List.mem_of_getElem? (i := 39) rfl)) (hG.1 _ (List.mem_of_getElem? (i := 38) rfl)) (hG.1 _ (List.mem_of_getElem? (i := 2) rfl)) (hG.1 _ (List.mem_of_getElem? (i := 40) rfl)) (lenOf pd_8 rfl) (by simp) (W := 0) rfl (by decide) (by decide) (by decide) (by decide)
  rw [hh] at c
  replace c := c [] (by simp)
  replace c : OAt G K M_cha [] 0 0 h0 4 #[.val (.ref a), .val (.int (Int32.ofNat i))] [.int 1] := c
  replace c := c.ifF 7 d_cha_4 (own_if_eq_f (by decide))
  replace c := c.aloadN 8 d_cha_7 rfl rfl
  replace c := c.getF 11 d_cha_8 (hG.1 _ (List.mem_of_getElem? (i := 14) rfl)) V
  replace c := c.iloadN 12 d_cha_11 rfl
  obtain ⟨v, h1, sf, ⟨rfl, hh⟩, c⟩ := c.callS (y := y_chl) (argsL := [.ref b, .int (Int32.ofNat i)]) (rest := []) 15 d_cha_12 (con_chl hG hl hx h4 Y) rfl (hG.1 _ (List.mem_of_getElem? (i := 41) rfl)) (hG.1 _ (List.mem_of_getElem? (i := 42) rfl)) (hG.1 _ (List.mem_of_getElem? (i := 43) rfl)) (hG.1 _ (List.mem_of_getElem? (i := 44) rfl)) (lenOf pd_9 rfl) (by simp) (W := 0) rfl (by decide) (by decide) (by decide) (by decide)
  rw [hh] at c
  replace c := c [] (by simp)
  replace c : OAt G K M_cha [] 0 0 h0 15 #[.val (.ref a), .val (.int (Int32.ofNat i))] [.int x] := c
  exact c.reti (t := .char) d_cha_15 rfl (by show Value.int _ = _; rw [own_i2c ⟨rx.1, by omega⟩]) (by simp) (fun sf hs => ⟨rfl, rfl⟩) (by decide) (by decide)
abbrev y_max : MethodName := ⟨"java/lang/Math", "max", "(II)I"⟩
theorem d_max_0 : decode jdk_29_method_65_code 0 = .ok (.iload_n 0, 1) := by decide +kernel
theorem d_max_1 : decode jdk_29_method_65_code 1 = .ok (.iload_n 1, 1) := by decide +kernel
theorem d_max_2 : decode jdk_29_method_65_code 2 = .ok (.if_icmp .lt 7, 3) := by decide +kernel
theorem d_max_5 : decode jdk_29_method_65_code 5 = .ok (.iload_n 0, 1) := by decide +kernel
theorem d_max_6 : decode jdk_29_method_65_code 6 = .ok (.goto 4, 3) := by decide +kernel
theorem d_max_9 : decode jdk_29_method_65_code 9 = .ok (.iload_n 1, 1) := by decide +kernel
theorem d_max_10 : decode jdk_29_method_65_code 10 = .ok (.ireturn, 1) := by decide +kernel
abbrev rm_max : Room := { frames := 0, cells := 0, slots := 0, locals := 0 }
abbrev M_max : Mx := (jdk_29_method_65_code, y_max.cls, (some .int), y_max.name, 2, rm_max)
theorem ef_max (m : MethodId) (x0 : Int32) (x1 : Int32) : entryFrame m #[.int x0, .int x1] 2 = mkF m 0 #[.val (.int x0), .val (.int x1)] [] := by first | (simp [entryFrame, mkF, argsToLocals, Value.category]; done) | rfl
set_option maxRecDepth 65536 in
set_option maxHeartbeats 4000000 in
theorem con_max {G : Gx} (hG : OGood G) {h0 : Heap} {x y : Int32} : OCon G y_max jdk_29_method_65_code 2 (some .int) [] rm_max #[.int x, .int y] [] h0 (fun v h' _ => ∃ r : Int32, v = some (.int r) ∧ ((r = x ∧ ¬ x < y) ∨ (r = y ∧ x < y)) ∧ h' = h0) := by
  refine OCon.intro (by decide +kernel) (own_ew hG) #[.val (.int x), .val (.int y)] (fun m => ef_max m x y) ?_
  intro K c
  replace c : OAt G K M_max [] 0 0 h0 0 #[.val (.int x), .val (.int y)] [] := c
  replace c := c.iloadN 1 d_max_0 rfl
  replace c := c.iloadN 2 d_max_1 rfl
  by_cases q1 : x < y
  · skip
    replace c := c.icT 9 d_max_2 (own_ic_lt_t q1)
    replace c := c.iloadN 10 d_max_9 rfl
    exact c.reti (t := .int) d_max_10 rfl rfl (by simp) (fun sf hs => ⟨_, rfl, Or.inr ⟨rfl, q1⟩, rfl⟩) (by decide) (by decide)
  · skip
    replace c := c.icF 5 d_max_2 (own_ic_lt_f q1)
    replace c := c.iloadN 6 d_max_5 rfl
    replace c := c.goto 10 d_max_6
    exact c.reti (t := .int) d_max_10 rfl rfl (by simp) (fun sf hs => ⟨_, rfl, Or.inl ⟨rfl, q1⟩, rfl⟩) (by decide) (by decide)
theorem Str.lat {Z : State} {h : Heap} {a : Addr} {cs : List Int32} (S : Str Z h a cs) (hl : Lat cs) : StrB Z h a 0 (encL cs) := by
  rcases S with ⟨-, B⟩ | ⟨-, ⟨c, hc, q⟩, -⟩
  · exact B
  · have := (hl c hc).2; omega
theorem own_setmap (cs : List Int32) (i : Nat) (y : Int32) : (cs.map Value.int).set i (.int y) = (cs.set i y).map Value.int := by rw [List.map_set]
theorem own_latset {cs : List Int32} (hl : Lat cs) (i : Nat) {y : Int32} (hy : 0 ≤ y.toInt ∧ y.toInt < 256) : Lat (cs.set i y) := fun c hc => (List.mem_or_eq_of_mem_set hc).elim (hl c) (fun e => e ▸ hy)
theorem own_mask_rng (x : Int32) : 0 ≤ ((x &&& 255).toUInt32.toUInt16.toUInt32.toInt32).toInt ∧ ((x &&& 255).toUInt32.toUInt16.toUInt32.toInt32).toInt < 256 := by
  have h := c_mask x 255 8 (by decide) (by decide)
  rw [own_i2c (by omega), h]
  omega
theorem own_pos31 (x : Int32) : 0 ≤ (x &&& 2147483647).toInt := by
  have h := c_mask x 2147483647 31 (by decide) (by decide)
  omega
/-- the length drawn: the base's, one less, or one more, not below 0 -/
theorem own_n (x : Int32) (b : Nat) (hb : b ≤ 13) {r : Int32} (h : (r = 0 ∧ ¬ (0 : Int32) < Int32.ofNat b + ((x &&& 2147483647) % 3 - 1)) ∨ (r = Int32.ofNat b + ((x &&& 2147483647) % 3 - 1) ∧ (0 : Int32) < Int32.ofNat b + ((x &&& 2147483647) % 3 - 1))) : ∃ n : Nat, r = Int32.ofNat n ∧ n ≤ 14 := by
  rcases h with ⟨rfl, -⟩ | ⟨rfl, h⟩
  · exact ⟨0, rfl, by omega⟩
  · have h1 := own_pos31 x
    have h2 := (c_irem (x &&& 2147483647) 3 3 (by decide)).1 h1
    have h3 := c_isub ((x &&& 2147483647) % 3) 1
    have h4 := c_iadd (Int32.ofNat b) ((x &&& 2147483647) % 3 - 1)
    rw [own_toInt (by omega)] at h4
    have e1 : (1 : Int32).toInt = 1 := by decide
    have r1 := rng32 ((x &&& 2147483647) % 3 - 1)
    have r2 := rng32 (Int32.ofNat b + ((x &&& 2147483647) % 3 - 1))
    rw [Int32.lt_iff_toInt_lt] at h
    have e0 : (0 : Int32).toInt = 0 := by decide
    refine ⟨(Int32.ofNat b + ((x &&& 2147483647) % 3 - 1)).toInt.toNat, ?_, by omega⟩
    apply Int32.toInt_inj.mp
    rw [own_toInt (by omega)]; omega
theorem own_idx (x : Int32) {n : Nat} (hn : 0 < n) (h14 : n ≤ 14) : ∃ i : Nat, (x &&& 2147483647) % Int32.ofNat n = Int32.ofNat i ∧ i < n := by
  have h1 := own_pos31 x
  have h2 := (c_irem (x &&& 2147483647) (Int32.ofNat n) n (own_toInt (by omega))).1 h1
  have h3 := Int.emod_nonneg (x &&& 2147483647).toInt (show (n : Int) ≠ 0 by omega)
  have h4 := Int.emod_lt_of_pos (x &&& 2147483647).toInt (show (0 : Int) < n by omega)
  refine ⟨((x &&& 2147483647) % Int32.ofNat n).toInt.toNat, ?_, by omega⟩
  apply Int32.toInt_inj.mp
  rw [own_toInt (by omega)]; omega
abbrev y_put : MethodName := ⟨"com/example/mimico/mimico/agreement/PointNamedPinLaw", "put", "([CILjava/lang/String;C)V"⟩
theorem pd_10 : parseMethodDescriptor "()I" = some ⟨[], some .int⟩ := by decide +kernel
theorem pd_11 : parseMethodDescriptor "(I)C" = some ⟨[.int], some .char⟩ := by decide +kernel
theorem pn_4 : plainName "com/example/mimico/mimico/agreement/PointNamedPinLaw" = true := by first | (simp [plainName, overriddenIn]; done) | decide +kernel
theorem d_put_0 : decode method_3_code 0 = .ok (.iload_n 1, 1) := by decide +kernel
theorem d_put_1 : decode method_3_code 1 = .ok (.aload_n 0, 1) := by decide +kernel
theorem d_put_2 : decode method_3_code 2 = .ok (.arraylength, 1) := by decide +kernel
theorem d_put_3 : decode method_3_code 3 = .ok (.if_icmp .ge 23, 3) := by decide +kernel
theorem d_put_6 : decode method_3_code 6 = .ok (.aload_n 0, 1) := by decide +kernel
theorem d_put_7 : decode method_3_code 7 = .ok (.iload_n 1, 1) := by decide +kernel
theorem d_put_8 : decode method_3_code 8 = .ok (.iload_n 1, 1) := by decide +kernel
theorem d_put_9 : decode method_3_code 9 = .ok (.aload_n 2, 1) := by decide +kernel
theorem d_put_10 : decode method_3_code 10 = .ok (.invokevirtual 18, 3) := by decide +kernel
theorem d_put_13 : decode method_3_code 13 = .ok (.if_icmp .ge 11, 3) := by decide +kernel
theorem d_put_16 : decode method_3_code 16 = .ok (.aload_n 2, 1) := by decide +kernel
theorem d_put_17 : decode method_3_code 17 = .ok (.iload_n 1, 1) := by decide +kernel
theorem d_put_18 : decode method_3_code 18 = .ok (.invokevirtual 65, 3) := by decide +kernel
theorem d_put_21 : decode method_3_code 21 = .ok (.goto 4, 3) := by decide +kernel
theorem d_put_24 : decode method_3_code 24 = .ok (.iload_n 3, 1) := by decide +kernel
theorem d_put_25 : decode method_3_code 25 = .ok (.castore, 1) := by decide +kernel
theorem d_put_26 : decode method_3_code 26 = .ok (.return_, 1) := by decide +kernel
abbrev rm_put : Room := { frames := 4, cells := 0, slots := 0, locals := 55 }
abbrev M_put : Mx := (method_3_code, y_put.cls, none, y_put.name, 4, rm_put)
theorem ef_put (m : MethodId) (x0 : Addr) (x1 : Int32) (x2 : Addr) (x3 : Int32) : entryFrame m #[.ref x0, .int x1, .ref x2, .int x3] 4 = mkF m 0 #[.val (.ref x0), .val (.int x1), .val (.ref x2), .val (.int x3)] [] := by first | (simp [entryFrame, mkF, argsToLocals, Value.category]; done) | rfl
set_option maxRecDepth 65536 in
set_option maxHeartbeats 4000000 in
theorem con_put {G : Gx} (hG : OGood G) {h0 : Heap} {ca b : Addr} {i : Nat} {ch : Int32} {cs bs : List Int32} (hi : i < 14) (hb : bs.length ≤ 13) (hca : G.n0 ≤ ca) (lc : Lat cs) (Y : Ary G.Z h0 ca .char (cs.map Value.int)) (lb : Lat bs) (B : StrB G.Z h0 b 0 (encL bs)) (rc : 0 ≤ ch.toInt ∧ ch.toInt < 256) : OCon G y_put method_3_code 4 none [] rm_put #[.ref ca, .int (Int32.ofNat i), .ref b, .int ch] [] h0 (fun v h' _ => v = none ∧ Keep h0 h' [ca] ∧ ∃ cs' : List Int32, cs'.length = cs.length ∧ Lat cs' ∧ Ary G.Z h' ca .char (cs'.map Value.int)) := by
  refine OCon.intro (plainFor_of_name pn_4) (own_ew hG) #[.val (.ref ca), .val (.int (Int32.ofNat i)), .val (.ref b), .val (.int ch)] (fun m => ef_put m ca (Int32.ofNat i) b ch) ?_
  intro K c
  replace c : OAt G K M_put [] 0 0 h0 0 #[.val (.ref ca), .val (.int (Int32.ofNat i)), .val (.ref b), .val (.int ch)] [] := c
  have hl := Y.len
  rw [List.length_map] at hl
  replace c := c.iloadN 1 d_put_0 rfl
  replace c := c.aloadN 2 d_put_1 rfl rfl
  replace c := c.arrlen 3 d_put_2 Y (Int32.ofNat cs.length) (by simp)
  by_cases q : i < cs.length
  · skip
    replace c := c.icF 6 d_put_3 (own_ic_ge_f (own_lt q (by omega)))
    replace c := c.aloadN 7 d_put_6 rfl rfl
    replace c := c.iloadN 8 d_put_7 rfl
    replace c := c.iloadN 9 d_put_8 rfl
    replace c := c.aloadN 10 d_put_9 rfl rfl
    obtain ⟨v, h1, sf, ⟨rfl, hh⟩, c⟩ := c.callV (y := (⟨"java/lang/String", "length", "()I"⟩ : MethodName)) (z := y_slen) (C := "java/lang/String") (a := b) (argsL := []) (rest := [.int (Int32.ofNat i), .int (Int32.ofNat i), .ref ca]) 13 d_put_10 (con_slen hG (Or.inl rfl) (own_shr0 _) B) rfl B.1 (hG.1 _ (List.mem_of_getElem? (i := 9) rfl)) (hG.1 _ (List.mem_of_getElem? (i := 10) rfl)) (own_nf (hG.1 _ (List.mem_of_getElem? (i := 12) rfl))) (hG.1 _ (List.mem_of_getElem? (i := 12) rfl)) (hG.1 _ (List.mem_of_getElem? (i := 11) rfl)) (hG.1 _ (List.mem_of_getElem? (i := 2) rfl)) (hG.1 _ (List.mem_of_getElem? (i := 13) rfl)) (lenOf pd_10 rfl) (by simp) (W := 3) rfl (by decide) (by decide) (by decide) (by decide)
    rw [hh] at c
    replace c := c [] (by simp)
    replace c : OAt G K M_put [] 0 0 h0 13 #[.val (.ref ca), .val (.int (Int32.ofNat i)), .val (.ref b), .val (.int ch)] [.int (Int32.ofNat (encL bs).length), .int (Int32.ofNat i), .int (Int32.ofNat i), .ref ca] := c
    rw [encL_len] at c
    by_cases q2 : i < bs.length
    · skip
      obtain ⟨x, hx⟩ : ∃ x, bs[i]? = some x := ⟨bs[i], List.getElem?_eq_getElem q2⟩
      have rx := lb x (List.mem_of_getElem? hx)
      replace c := c.icF 16 d_put_13 (own_ic_ge_f (own_lt q2 (by omega)))
      replace c := c.aloadN 17 d_put_16 rfl rfl
      replace c := c.iloadN 18 d_put_17 rfl
      obtain ⟨v, h1, sf, ⟨rfl, hh⟩, c⟩ := c.callV (y := (⟨"java/lang/String", "charAt", "(I)C"⟩ : MethodName)) (z := y_cha) (C := "java/lang/String") (a := b) (argsL := [.int (Int32.ofNat i)]) (rest := [.int (Int32.ofNat i), .ref ca]) 21 d_put_18 (con_cha hG lb hx (by omega) B) rfl B.1 (hG.1 _ (List.mem_of_getElem? (i := 31) rfl)) (hG.1 _ (List.mem_of_getElem? (i := 32) rfl)) (own_nf (hG.1 _ (List.mem_of_getElem? (i := 34) rfl))) (hG.1 _ (List.mem_of_getElem? (i := 34) rfl)) (hG.1 _ (List.mem_of_getElem? (i := 33) rfl)) (hG.1 _ (List.mem_of_getElem? (i := 2) rfl)) (hG.1 _ (List.mem_of_getElem? (i := 35) rfl)) (lenOf pd_11 rfl) (by simp) (W := 2) rfl (by decide) (by decide) (by decide) (by decide)
      rw [hh] at c
      replace c := c [] (by simp)
      replace c : OAt G K M_put [] 0 0 h0 21 #[.val (.ref ca), .val (.int (Int32.ofNat i)), .val (.ref b), .val (.int ch)] [.int x, .int (Int32.ofNat i), .ref ca] := c
      replace c := c.goto 25 d_put_21
      obtain ⟨hw, Ww, Yw, c⟩ := c.castore 26 d_put_25 Y (i) rfl (by simpa using q) hca (x) (own_narc ⟨rx.1, by omega⟩)
      rw [own_setmap] at Yw
      exact c.ret d_put_26 rfl (fun sf hs => ⟨rfl, Keep.of_wr Ww, _, by simp, own_latset lc i rx, Yw⟩) (by decide) (by decide)
    · skip
      replace c := c.icT 24 d_put_13 (own_ic_ge_t (own_nlt q2 (by omega)))
      replace c := c.iloadN 25 d_put_24 rfl
      obtain ⟨hw, Ww, Yw, c⟩ := c.castore 26 d_put_25 Y (i) rfl (by simpa using q) hca (ch) (own_narc ⟨rc.1, by omega⟩)
      rw [own_setmap] at Yw
      exact c.ret d_put_26 rfl (fun sf hs => ⟨rfl, Keep.of_wr Ww, _, by simp, own_latset lc i rc, Yw⟩) (by decide) (by decide)
  · skip
    replace c := c.icT 26 d_put_3 (own_ic_ge_t (own_nlt q (by omega)))
    exact c.ret d_put_26 rfl (fun sf hs => ⟨rfl, Keep.refl _ _, cs, rfl, lc, Y⟩) (by decide) (by decide)
abbrev y_vals : MethodName := ⟨"com/example/mimico/mimico/agreement/Halt$Point", "values", "()[Lcom/example/mimico/mimico/agreement/Halt$Point;"⟩
theorem pn_5 : plainName "com/example/mimico/mimico/agreement/Halt$Point" = true := by first | (simp [plainName, overriddenIn]; done) | decide +kernel
theorem d_vals_0 : decode prog_7_method_1_code 0 = .ok (.getstatic 13, 3) := by decide +kernel
theorem d_vals_3 : decode prog_7_method_1_code 3 = .ok (.invokevirtual 17, 3) := by decide +kernel
theorem d_vals_6 : decode prog_7_method_1_code 6 = .ok (.checkcast 18, 3) := by decide +kernel
theorem d_vals_9 : decode prog_7_method_1_code 9 = .ok (.areturn, 1) := by decide +kernel
abbrev rm_vals : Room := { frames := 1, cells := 1, slots := 3, locals := 14 }
abbrev M_vals : Mx := (prog_7_method_1_code, y_vals.cls, (some (.array (.object "com/example/mimico/mimico/agreement/Halt$Point"))), y_vals.name, 0, rm_vals)
theorem ef_vals (m : MethodId)  : entryFrame m #[] 0 = mkF m 0 #[] [] := by first | (simp [entryFrame, mkF, argsToLocals, Value.category]; done) | rfl
set_option maxRecDepth 65536 in
set_option maxHeartbeats 4000000 in
theorem con_vals {G : Gx} (hG : OGood G) {h0 : Heap} {vals p0 p1 p2 l0 l1 l2 : Addr} (Pv : OPv G vals p0 p1 p2 l0 l1 l2) : OCon G y_vals prog_7_method_1_code 0 (some (.array (.object "com/example/mimico/mimico/agreement/Halt$Point"))) [] rm_vals #[] [] h0 (fun v h' _ => ∃ d : Addr, v = some (.ref d) ∧ Keep h0 h' [] ∧ Ary G.Z h' d (.object "com/example/mimico/mimico/agreement/Halt$Point") [.ref p0, .ref p1, .ref p2]) := by
  refine OCon.intro (plainFor_of_name pn_5) (own_ew hG) #[] (fun m => ef_vals m ) ?_
  intro K c
  replace c : OAt G K M_vals [] 0 0 h0 0 #[] [] := c
  replace c := c.getS 3 d_vals_0 (hG.1 _ (List.mem_of_getElem? (i := 92) rfl)) Pv.1
  obtain ⟨d, h_d, s_d, x_d, g_d, Y_d, E_d, c⟩ := c.clone (W := 0) 6 d_vals_3 (hG.1 _ (List.mem_of_getElem? (i := 94) rfl)) (hG.1 _ (List.mem_of_getElem? (i := 95) rfl)) (hG.1 _ (List.mem_of_getElem? (i := 99) rfl)) (hG.1 _ (List.mem_of_getElem? (i := 97) rfl)) (hG.1 _ (List.mem_of_getElem? (i := 98) rfl)) (hG.1 _ (List.mem_of_getElem? (i := 100) rfl)) (Pv.2.1.ext c.old.2) (Pv.2.2.1.ext c.old.2) 3 (by simp) rfl (by decide) (by decide) (by decide) (by decide)
  replace c := c.cast 9 d_vals_6 (hG.1 _ (List.mem_of_getElem? (i := 105) rfl)) (Ins.self E_d)
  exact c.reta (t := (.array (.object "com/example/mimico/mimico/agreement/Halt$Point"))) d_vals_9 rfl rfl rfl rfl (fun sf hs => ⟨d, rfl, (Keep.refl h0 []).ext x_d, Y_d⟩) (by decide) (by decide)
abbrev y_rnn : MethodName := ⟨"java/util/Objects", "requireNonNull", "(Ljava/lang/Object;)Ljava/lang/Object;"⟩
theorem pn_6 : plainName "java/util/Objects" = true := by first | (simp [plainName, overriddenIn]; done) | decide +kernel
theorem d_rnn_0 : decode jdk_31_method_10_code 0 = .ok (.aload_n 0, 1) := by decide +kernel
theorem d_rnn_1 : decode jdk_31_method_10_code 1 = .ok (.ifnonnull 11, 3) := by decide +kernel
theorem d_rnn_12 : decode jdk_31_method_10_code 12 = .ok (.aload_n 0, 1) := by decide +kernel
theorem d_rnn_13 : decode jdk_31_method_10_code 13 = .ok (.areturn, 1) := by decide +kernel
abbrev rm_rnn : Room := { frames := 0, cells := 0, slots := 0, locals := 0 }
abbrev M_rnn : Mx := (jdk_31_method_10_code, y_rnn.cls, (some (.object "java/lang/Object")), y_rnn.name, 1, rm_rnn)
theorem ef_rnn (m : MethodId) (x0 : Addr) : entryFrame m #[.ref x0] 1 = mkF m 0 #[.val (.ref x0)] [] := by first | (simp [entryFrame, mkF, argsToLocals, Value.category]; done) | rfl
set_option maxRecDepth 65536 in
set_option maxHeartbeats 4000000 in
theorem con_rnn {G : Gx} (hG : OGood G) {h0 : Heap} {a : Addr} : OCon G y_rnn jdk_31_method_10_code 1 (some (.object "java/lang/Object")) [] rm_rnn #[.ref a] [] h0 (fun v h' _ => v = some (.ref a) ∧ h' = h0) := by
  refine OCon.intro (plainFor_of_name pn_6) (own_ew hG) #[.val (.ref a)] (fun m => ef_rnn m a) ?_
  intro K c
  replace c : OAt G K M_rnn [] 0 0 h0 0 #[.val (.ref a)] [] := c
  replace c := c.aloadN 1 d_rnn_0 rfl rfl
  replace c := c.nonnullT 12 d_rnn_1
  replace c := c.aloadN 13 d_rnn_12 rfl rfl
  exact c.reta (t := (.object "java/lang/Object")) d_rnn_13 rfl rfl rfl rfl (fun sf hs => ⟨rfl, rfl⟩) (by decide) (by decide)
abbrev y_opi : MethodName := ⟨"java/util/Optional", "<init>", "(Ljava/lang/Object;)V"⟩
theorem pn_7 : plainName "java/util/Optional" = true := by first | (simp [plainName, overriddenIn]; done) | decide +kernel
theorem d_opi_0 : decode jdk_32_method_2_code 0 = .ok (.aload_n 0, 1) := by decide +kernel
theorem d_opi_1 : decode jdk_32_method_2_code 1 = .ok (.invokespecial 7, 3) := by decide +kernel
theorem d_opi_4 : decode jdk_32_method_2_code 4 = .ok (.aload_n 0, 1) := by decide +kernel
theorem d_opi_5 : decode jdk_32_method_2_code 5 = .ok (.aload_n 1, 1) := by decide +kernel
theorem d_opi_6 : decode jdk_32_method_2_code 6 = .ok (.putfield 13, 3) := by decide +kernel
theorem d_opi_9 : decode jdk_32_method_2_code 9 = .ok (.return_, 1) := by decide +kernel
abbrev rm_opi : Room := { frames := 1, cells := 0, slots := 0, locals := 12 }
abbrev M_opi : Mx := (jdk_32_method_2_code, y_opi.cls, none, y_opi.name, 2, rm_opi)
theorem ef_opi (m : MethodId) (x0 : Addr) (x1 : Addr) : entryFrame m #[.ref x0, .ref x1] 2 = mkF m 0 #[.val (.ref x0), .val (.ref x1)] [] := by first | (simp [entryFrame, mkF, argsToLocals, Value.category]; done) | rfl
set_option maxRecDepth 65536 in
set_option maxHeartbeats 4000000 in
theorem con_opi {G : Gx} (hG : OGood G) {h0 : Heap} {o a : Addr} (ho : G.n0 ≤ o) (E : Exa G.Z h0 o "java/util/Optional") (F : Fld G.Z h0 o "java/util/Optional" "value" "Ljava/lang/Object;" .null) : OCon G y_opi jdk_32_method_2_code 2 none [] rm_opi #[.ref o, .ref a] [o] h0 (fun v h' _ => v = none ∧ Keep h0 h' [o] ∧ Exa G.Z h' o "java/util/Optional" ∧ Fld G.Z h' o "java/util/Optional" "value" "Ljava/lang/Object;" (.ref a)) := by
  refine OCon.intro (plainFor_of_name pn_7) (own_ew hG) #[.val (.ref o), .val (.ref a)] (fun m => ef_opi m o a) ?_
  intro K c
  replace c : OAt G K M_opi [o] 0 0 h0 0 #[.val (.ref o), .val (.ref a)] [] := c
  replace c := c.aloadN 1 d_opi_0 rfl rfl
  replace c := c.initO 4 d_opi_1 (hG.1 _ (List.mem_of_getElem? (i := 139) rfl)) (hG.1 _ (List.mem_of_getElem? (i := 62) rfl)) (hG.1 _ (List.mem_of_getElem? (i := 63) rfl)) (W := 0) rfl (by decide) (by decide)
  replace c := c.aloadN 5 d_opi_4 rfl rfl
  replace c := c.aloadN 6 d_opi_5 rfl rfl
  obtain ⟨hp1, Wp1, c⟩ := c.putF (C := "java/util/Optional") (O := "java/util/Optional") (n := "value") (d := "Ljava/lang/Object;") (ty := (.object "java/lang/Object")) 9 d_opi_6 (hG.1 _ (List.mem_of_getElem? (i := 120) rfl)) F E (Or.inr ⟨(hG.1 _ (List.mem_of_getElem? (i := 121) rfl)), rfl, rfl⟩) (hG.1 _ (List.mem_of_getElem? (i := 130) rfl)) (by decide) rfl (by first | rfl | decide) ho (Or.inr ⟨by decide, by decide⟩)
  exact c.ret d_opi_9 rfl (fun sf hs => ⟨rfl, Keep.of_wr Wp1, E.wr Wp1, F.same Wp1⟩) (by decide) (by decide)
abbrev y_opof : MethodName := ⟨"java/util/Optional", "of", "(Ljava/lang/Object;)Ljava/util/Optional;"⟩
theorem pd_12 : parseMethodDescriptor "(Ljava/lang/Object;)Ljava/lang/Object;" = some ⟨[(.object "java/lang/Object")], some (.object "java/lang/Object")⟩ := by decide +kernel
theorem pd_13 : parseMethodDescriptor "(Ljava/lang/Object;)V" = some ⟨[(.object "java/lang/Object")], none⟩ := by decide +kernel
theorem d_opof_0 : decode jdk_32_method_3_code 0 = .ok (.new 2, 3) := by decide +kernel
theorem d_opof_3 : decode jdk_32_method_3_code 3 = .ok (.dup, 1) := by decide +kernel
theorem d_opof_4 : decode jdk_32_method_3_code 4 = .ok (.aload_n 0, 1) := by decide +kernel
theorem d_opof_5 : decode jdk_32_method_3_code 5 = .ok (.invokestatic 17, 3) := by decide +kernel
theorem d_opof_8 : decode jdk_32_method_3_code 8 = .ok (.invokespecial 23, 3) := by decide +kernel
theorem d_opof_11 : decode jdk_32_method_3_code 11 = .ok (.areturn, 1) := by decide +kernel
abbrev rm_opof : Room := { frames := 2, cells := 1, slots := 1, locals := 26 }
abbrev M_opof : Mx := (jdk_32_method_3_code, y_opof.cls, (some (.object "java/util/Optional")), y_opof.name, 1, rm_opof)
theorem ef_opof (m : MethodId) (x0 : Addr) : entryFrame m #[.ref x0] 1 = mkF m 0 #[.val (.ref x0)] [] := by first | (simp [entryFrame, mkF, argsToLocals, Value.category]; done) | rfl
set_option maxRecDepth 65536 in
set_option maxHeartbeats 4000000 in
theorem con_opof {G : Gx} (hG : OGood G) {h0 : Heap} {a : Addr} : OCon G y_opof jdk_32_method_3_code 1 (some (.object "java/util/Optional")) [] rm_opof #[.ref a] [] h0 (fun v h' _ => ∃ o : Addr, v = some (.ref o) ∧ Keep h0 h' [] ∧ Exa G.Z h' o "java/util/Optional" ∧ Fld G.Z h' o "java/util/Optional" "value" "Ljava/lang/Object;" (.ref a)) := by
  refine OCon.intro (plainFor_of_name pn_7) (own_ew hG) #[.val (.ref a)] (fun m => ef_opof m a) ?_
  intro K c
  replace c : OAt G K M_opof [] 0 0 h0 0 #[.val (.ref a)] [] := c
  obtain ⟨o, h_o, s_o, x_o, g_o, E_o, D_o, U_o, c⟩ := c.newO 3 d_opof_0 (C := "java/util/Optional") (hG.1 _ (List.mem_of_getElem? (i := 129) rfl)) (hG.1 _ (List.mem_of_getElem? (i := 130) rfl)) (hG.1 _ (List.mem_of_getElem? (i := 112) rfl)) (by decide) (by decide)
  replace c := c.dup 4 d_opof_3 rfl
  replace c := c.aloadN 5 d_opof_4 rfl rfl
  obtain ⟨v, h1, sf, ⟨rfl, hh⟩, c⟩ := c.callS (y := y_rnn) (argsL := [.ref a]) (rest := [.ref o, .ref o]) 8 d_opof_5 (con_rnn hG (a := a)) rfl (hG.1 _ (List.mem_of_getElem? (i := 131) rfl)) (hG.1 _ (List.mem_of_getElem? (i := 132) rfl)) (hG.1 _ (List.mem_of_getElem? (i := 133) rfl)) (hG.1 _ (List.mem_of_getElem? (i := 134) rfl)) (lenOf pd_12 rfl) (by simp) (W := 2) rfl (by decide) (by decide) (by decide) (by decide)
  rw [hh] at c
  replace c := c [] (by simp)
  replace c : OAt G K M_opof [o] 1 1 h_o 8 #[.val (.ref a)] [.ref a, .ref o, .ref o] := c
  have F0 : Fld G.Z h_o o "java/util/Optional" "value" "Ljava/lang/Object;" .null := D_o (Or.inr (hG.1 _ (List.mem_of_getElem? (i := 121) rfl))) (ty := .object "java/lang/Object") (by decide)
  obtain ⟨v, h1, sf, ⟨rfl, K1, E1, F1⟩, c⟩ := c.callI (y := y_opi) (a := o) (argsL := [.ref a]) (rest := [.ref o]) 11 d_opof_8 (con_opi hG (a := a) g_o E_o F0) rfl (hG.1 _ (List.mem_of_getElem? (i := 135) rfl)) (hG.1 _ (List.mem_of_getElem? (i := 136) rfl)) (hG.1 _ (List.mem_of_getElem? (i := 112) rfl)) (hG.1 _ (List.mem_of_getElem? (i := 138) rfl)) (lenOf pd_13 rfl) (by simp) (W := 1) rfl (by decide) (by decide) (by decide) (by decide)
  replace c := c [] (by simp)
  replace c : OAt G K M_opof [o] 1 1 h1 11 #[.val (.ref a)] [.ref o] := c
  exact c.reta (t := (.object "java/util/Optional")) d_opof_11 rfl rfl rfl rfl (fun sf hs => ⟨o, rfl, ((Keep.refl h0 []).ext x_o).trans K1 (fun x hx => by cases List.mem_singleton.mp hx; exact Or.inr (Nat.le_of_eq s_o.symm)), E1, F1⟩) (by decide) (by decide)
abbrev y_ope : MethodName := ⟨"java/util/Optional", "empty", "()Ljava/util/Optional;"⟩
theorem d_ope_0 : decode jdk_32_method_1_code 0 = .ok (.getstatic 1, 3) := by decide +kernel
theorem d_ope_3 : decode jdk_32_method_1_code 3 = .ok (.astore_n 0, 1) := by decide +kernel
theorem d_ope_4 : decode jdk_32_method_1_code 4 = .ok (.aload_n 0, 1) := by decide +kernel
theorem d_ope_5 : decode jdk_32_method_1_code 5 = .ok (.areturn, 1) := by decide +kernel
abbrev rm_ope : Room := { frames := 0, cells := 0, slots := 0, locals := 0 }
abbrev M_ope : Mx := (jdk_32_method_1_code, y_ope.cls, (some (.object "java/util/Optional")), y_ope.name, 1, rm_ope)
theorem ef_ope (m : MethodId)  : entryFrame m #[] 1 = mkF m 0 #[.unset] [] := by first | (simp [entryFrame, mkF, argsToLocals, Value.category]; done) | rfl
set_option maxRecDepth 65536 in
set_option maxHeartbeats 4000000 in
theorem con_ope {G : Gx} (hG : OGood G) {h0 : Heap} : OCon G y_ope jdk_32_method_1_code 1 (some (.object "java/util/Optional")) [] rm_ope #[] [] h0 (fun v h' _ => ∃ o : Addr, v = some (.ref o) ∧ Keep h0 h' [] ∧ Exa G.Z h' o "java/util/Optional" ∧ Fld G.Z h' o "java/util/Optional" "value" "Ljava/lang/Object;" .null) := by
  refine OCon.intro (plainFor_of_name pn_7) (own_ew hG) #[.unset] (fun m => ef_ope m ) ?_
  intro K c
  replace c : OAt G K M_ope [] 0 0 h0 0 #[.unset] [] := c
  obtain ⟨e, Se, Ee, Fe⟩ := hG.2.2.2.2.1
  replace c := c.getS 3 d_ope_0 (hG.1 _ (List.mem_of_getElem? (i := 114) rfl)) Se
  have Ee1 := Ee.ext c.old.2
  have Fe1 := Fe.ext c.old.2
  replace c := c.astoreN 4 d_ope_3 rfl #[.val (.ref e)] rfl
  replace c := c.aloadN 5 d_ope_4 rfl rfl
  exact c.reta (t := (.object "java/util/Optional")) d_ope_5 rfl rfl rfl rfl (fun sf hs => ⟨e, rfl, Keep.refl _ _, Ee1, Fe1⟩) (by decide) (by decide)
abbrev y_orR : MethodName := ⟨"java/util/Optional", "orElse", "(Ljava/lang/Object;)Ljava/lang/Object;"⟩
theorem d_orR_0 : decode jdk_32_method_15_code 0 = .ok (.aload_n 0, 1) := by decide +kernel
theorem d_orR_1 : decode jdk_32_method_15_code 1 = .ok (.getfield 13, 3) := by decide +kernel
theorem d_orR_4 : decode jdk_32_method_15_code 4 = .ok (.ifnull 10, 3) := by decide +kernel
theorem d_orR_7 : decode jdk_32_method_15_code 7 = .ok (.aload_n 0, 1) := by decide +kernel
theorem d_orR_8 : decode jdk_32_method_15_code 8 = .ok (.getfield 13, 3) := by decide +kernel
theorem d_orR_11 : decode jdk_32_method_15_code 11 = .ok (.goto 4, 3) := by decide +kernel
theorem d_orR_15 : decode jdk_32_method_15_code 15 = .ok (.areturn, 1) := by decide +kernel
abbrev rm_orR : Room := { frames := 0, cells := 0, slots := 0, locals := 0 }
abbrev M_orR : Mx := (jdk_32_method_15_code, y_orR.cls, (some (.object "java/lang/Object")), y_orR.name, 2, rm_orR)
theorem ef_orR (m : MethodId) (x0 : Addr) : entryFrame m #[.ref x0, .null] 2 = mkF m 0 #[.val (.ref x0), .val .null] [] := by first | (simp [entryFrame, mkF, argsToLocals, Value.category]; done) | rfl
set_option maxRecDepth 65536 in
set_option maxHeartbeats 4000000 in
theorem con_orR {G : Gx} (hG : OGood G) {h0 : Heap} {o a : Addr} (F : Fld G.Z h0 o "java/util/Optional" "value" "Ljava/lang/Object;" (.ref a)) : OCon G y_orR jdk_32_method_15_code 2 (some (.object "java/lang/Object")) [] rm_orR #[.ref o, .null] [] h0 (fun v h' _ => v = some (.ref a) ∧ h' = h0) := by
  refine OCon.intro (plainFor_of_name pn_7) (own_ew hG) #[.val (.ref o), .val (.null)] (fun m => ef_orR m o) ?_
  intro K c
  replace c : OAt G K M_orR [] 0 0 h0 0 #[.val (.ref o), .val (.null)] [] := c
  replace c := c.aloadN 1 d_orR_0 rfl rfl
  replace c := c.getF 4 d_orR_1 (hG.1 _ (List.mem_of_getElem? (i := 120) rfl)) F
  replace c := c.nullF 7 d_orR_4
  replace c := c.aloadN 8 d_orR_7 rfl rfl
  replace c := c.getF 11 d_orR_8 (hG.1 _ (List.mem_of_getElem? (i := 120) rfl)) F
  replace c := c.goto 15 d_orR_11
  exact c.reta (t := (.object "java/lang/Object")) d_orR_15 rfl rfl rfl rfl (fun sf hs => ⟨rfl, rfl⟩) (by decide) (by decide)
abbrev y_orN : MethodName := ⟨"java/util/Optional", "orElse", "(Ljava/lang/Object;)Ljava/lang/Object;"⟩
theorem d_orN_0 : decode jdk_32_method_15_code 0 = .ok (.aload_n 0, 1) := by decide +kernel
theorem d_orN_1 : decode jdk_32_method_15_code 1 = .ok (.getfield 13, 3) := by decide +kernel
theorem d_orN_4 : decode jdk_32_method_15_code 4 = .ok (.ifnull 10, 3) := by decide +kernel
theorem d_orN_14 : decode jdk_32_method_15_code 14 = .ok (.aload_n 1, 1) := by decide +kernel
theorem d_orN_15 : decode jdk_32_method_15_code 15 = .ok (.areturn, 1) := by decide +kernel
abbrev rm_orN : Room := { frames := 0, cells := 0, slots := 0, locals := 0 }
abbrev M_orN : Mx := (jdk_32_method_15_code, y_orN.cls, (some (.object "java/lang/Object")), y_orN.name, 2, rm_orN)
theorem ef_orN (m : MethodId) (x0 : Addr) : entryFrame m #[.ref x0, .null] 2 = mkF m 0 #[.val (.ref x0), .val .null] [] := by first | (simp [entryFrame, mkF, argsToLocals, Value.category]; done) | rfl
set_option maxRecDepth 65536 in
set_option maxHeartbeats 4000000 in
theorem con_orN {G : Gx} (hG : OGood G) {h0 : Heap} {o : Addr} (F : Fld G.Z h0 o "java/util/Optional" "value" "Ljava/lang/Object;" .null) : OCon G y_orN jdk_32_method_15_code 2 (some (.object "java/lang/Object")) [] rm_orN #[.ref o, .null] [] h0 (fun v h' _ => v = some .null ∧ h' = h0) := by
  refine OCon.intro (plainFor_of_name pn_7) (own_ew hG) #[.val (.ref o), .val (.null)] (fun m => ef_orN m o) ?_
  intro K c
  replace c : OAt G K M_orN [] 0 0 h0 0 #[.val (.ref o), .val (.null)] [] := c
  replace c := c.aloadN 1 d_orN_0 rfl rfl
  replace c := c.getF 4 d_orN_1 (hG.1 _ (List.mem_of_getElem? (i := 120) rfl)) F
  replace c := c.nullT 14 d_orN_4
  replace c := c.aloadN 15 d_orN_14 rfl rfl
  exact c.reta (t := (.object "java/lang/Object")) d_orN_15 rfl rfl rfl rfl (fun sf hs => ⟨rfl, rfl⟩) (by decide) (by decide)
def PtR (cs : List Int32) (p0 p1 p2 : Addr) (X : Value) : Prop := (cs = [97, 102, 116, 101, 114, 45, 99, 111, 108, 108, 101, 99, 116] ∧ X = .ref p0) ∨ (cs ≠ [97, 102, 116, 101, 114, 45, 99, 111, 108, 108, 101, 99, 116] ∧ cs = [97, 102, 116, 101, 114, 45, 97, 99, 99, 101, 112, 116] ∧ X = .ref p1) ∨ (cs ≠ [97, 102, 116, 101, 114, 45, 99, 111, 108, 108, 101, 99, 116] ∧ cs ≠ [97, 102, 116, 101, 114, 45, 97, 99, 99, 101, 112, 116] ∧ cs = [97, 102, 116, 101, 114, 45, 100, 101, 99, 105, 100, 101] ∧ X = .ref p2) ∨ (cs ≠ [97, 102, 116, 101, 114, 45, 99, 111, 108, 108, 101, 99, 116] ∧ cs ≠ [97, 102, 116, 101, 114, 45, 97, 99, 99, 101, 112, 116] ∧ cs ≠ [97, 102, 116, 101, 114, 45, 100, 101, 99, 105, 100, 101] ∧ X = .null)
abbrev Q_named (G : Gx) (h0 : Heap) (cs : List Int32) (p0 p1 p2 : Addr) : Option Value → Heap → (Addr → Prop) → Prop := fun v h' _ => ∃ (o : Addr) (X : Value), v = some (.ref o) ∧ Keep h0 h' [] ∧ Exa G.Z h' o "java/util/Optional" ∧ Fld G.Z h' o "java/util/Optional" "value" "Ljava/lang/Object;" X ∧ PtR cs p0 p1 p2 X
abbrev y_named : MethodName := ⟨"com/example/mimico/mimico/agreement/Halt$Point", "named", "(Ljava/lang/String;)Ljava/util/Optional;"⟩
theorem pd_14 : parseMethodDescriptor "()[Lcom/example/mimico/mimico/agreement/Halt$Point;" = some ⟨[], some (.array (.object "com/example/mimico/mimico/agreement/Halt$Point"))⟩ := by decide +kernel
theorem pd_15 : parseMethodDescriptor "(Ljava/lang/Object;)Z" = some ⟨[(.object "java/lang/Object")], some .boolean⟩ := by decide +kernel
theorem pd_16 : parseMethodDescriptor "(Ljava/lang/Object;)Ljava/util/Optional;" = some ⟨[(.object "java/lang/Object")], some (.object "java/util/Optional")⟩ := by decide +kernel
theorem pd_17 : parseMethodDescriptor "()Ljava/util/Optional;" = some ⟨[], some (.object "java/util/Optional")⟩ := by decide +kernel
theorem d_named_0 : decode prog_7_method_5_code 0 = .ok (.invokestatic 36, 3) := by decide +kernel
theorem d_named_3 : decode prog_7_method_5_code 3 = .ok (.astore_n 1, 1) := by decide +kernel
theorem d_named_4 : decode prog_7_method_5_code 4 = .ok (.aload_n 1, 1) := by decide +kernel
theorem d_named_5 : decode prog_7_method_5_code 5 = .ok (.arraylength, 1) := by decide +kernel
theorem d_named_6 : decode prog_7_method_5_code 6 = .ok (.istore_n 2, 1) := by decide +kernel
theorem d_named_7 : decode prog_7_method_5_code 7 = .ok (.iconst 0, 1) := by decide +kernel
theorem d_named_8 : decode prog_7_method_5_code 8 = .ok (.istore_n 3, 1) := by decide +kernel
theorem d_named_9 : decode prog_7_method_5_code 9 = .ok (.iload_n 3, 1) := by decide +kernel
theorem d_named_10 : decode prog_7_method_5_code 10 = .ok (.iload_n 2, 1) := by decide +kernel
theorem d_named_11 : decode prog_7_method_5_code 11 = .ok (.if_icmp .ge 32, 3) := by decide +kernel
theorem d_named_14 : decode prog_7_method_5_code 14 = .ok (.aload_n 1, 1) := by decide +kernel
theorem d_named_15 : decode prog_7_method_5_code 15 = .ok (.iload_n 3, 1) := by decide +kernel
theorem d_named_16 : decode prog_7_method_5_code 16 = .ok (.aaload, 1) := by decide +kernel
theorem d_named_17 : decode prog_7_method_5_code 17 = .ok (.astore 4, 2) := by decide +kernel
theorem d_named_19 : decode prog_7_method_5_code 19 = .ok (.aload 4, 2) := by decide +kernel
theorem d_named_21 : decode prog_7_method_5_code 21 = .ok (.getfield 32, 3) := by decide +kernel
theorem d_named_24 : decode prog_7_method_5_code 24 = .ok (.aload_n 0, 1) := by decide +kernel
theorem d_named_25 : decode prog_7_method_5_code 25 = .ok (.invokevirtual 40, 3) := by decide +kernel
theorem d_named_28 : decode prog_7_method_5_code 28 = .ok (.ifCond .eq 9, 3) := by decide +kernel
theorem d_named_31 : decode prog_7_method_5_code 31 = .ok (.aload 4, 2) := by decide +kernel
theorem d_named_33 : decode prog_7_method_5_code 33 = .ok (.invokestatic 46, 3) := by decide +kernel
theorem d_named_36 : decode prog_7_method_5_code 36 = .ok (.areturn, 1) := by decide +kernel
theorem d_named_37 : decode prog_7_method_5_code 37 = .ok (.iinc 3 1, 3) := by decide +kernel
theorem d_named_40 : decode prog_7_method_5_code 40 = .ok (.goto (-31), 3) := by decide +kernel
theorem d_named_43 : decode prog_7_method_5_code 43 = .ok (.invokestatic 52, 3) := by decide +kernel
theorem d_named_46 : decode prog_7_method_5_code 46 = .ok (.areturn, 1) := by decide +kernel
abbrev rm_named : Room := { frames := 3, cells := 2, slots := 4, locals := 38 }
abbrev M_named : Mx := (prog_7_method_5_code, y_named.cls, (some (.object "java/util/Optional")), y_named.name, 5, rm_named)
theorem ef_named (m : MethodId) (x0 : Addr) : entryFrame m #[.ref x0] 5 = mkF m 0 #[.val (.ref x0), .unset, .unset, .unset, .unset] [] := by first | (simp [entryFrame, mkF, argsToLocals, Value.category]; done) | rfl
set_option maxRecDepth 65536 in
set_option maxHeartbeats 4000000 in
theorem con_named {G : Gx} (hG : OGood G) {h0 : Heap} {a : Addr} {cs : List Int32} {vals p0 p1 p2 l0 l1 l2 : Addr} (Pv : OPv G vals p0 p1 p2 l0 l1 l2) (S : Str G.Z h0 a cs) : OCon G y_named prog_7_method_5_code 5 (some (.object "java/util/Optional")) [] rm_named #[.ref a] [] h0 (Q_named G h0 cs p0 p1 p2) := by
  refine OCon.intro (plainFor_of_name pn_5) (own_ew hG) #[.val (.ref a), .unset, .unset, .unset, .unset] (fun m => ef_named m a) ?_
  intro K c
  replace c : OAt G K M_named [] 0 0 h0 0 #[.val (.ref a), .unset, .unset, .unset, .unset] [] := c
  have Pv' := Pv
  obtain ⟨-, -, -, -, -, -, X0, X1, X2, F0, F1, F2, T0, T1, T2⟩ := Pv'
  obtain ⟨v, h1, sf, ⟨d, rfl, K1, Y1⟩, c⟩ := c.callS (y := y_vals) (argsL := []) (rest := []) 3 d_named_0 (con_vals hG Pv) rfl (hG.1 _ (List.mem_of_getElem? (i := 89) rfl)) (hG.1 _ (List.mem_of_getElem? (i := 90) rfl)) (hG.1 _ (List.mem_of_getElem? (i := 87) rfl)) (hG.1 _ (List.mem_of_getElem? (i := 91) rfl)) (lenOf pd_14 rfl) (by simp) (W := 0) rfl (by decide) (by decide) (by decide) (by decide)
  replace c := c [] (by simp)
  replace c : OAt G K M_named [] 1 3 h1 3 #[.val (.ref a), .unset, .unset, .unset, .unset] [.ref d] := c
  replace c := c.astoreN 4 d_named_3 rfl #[.val (.ref a), .val (.ref d), .unset, .unset, .unset] rfl
  replace c := c.aloadN 5 d_named_4 rfl rfl
  replace c := c.arrlen 6 d_named_5 Y1 (3) rfl
  replace c := c.istoreN 7 d_named_6 #[.val (.ref a), .val (.ref d), .val (.int 3), .unset, .unset] rfl
  replace c := c.iconst 8 d_named_7 0 (by decide)
  replace c := c.istoreN 9 d_named_8 #[.val (.ref a), .val (.ref d), .val (.int 3), .val (.int 0), .unset] rfl
  have S1 := S.keep K1 (fun x hx => by cases hx)
  replace c := c.iloadN 10 d_named_9 rfl
  replace c := c.iloadN 11 d_named_10 rfl
  replace c := c.icF 14 d_named_11 (own_ic_ge_f (by decide))
  replace c := c.aloadN 15 d_named_14 rfl rfl
  replace c := c.iloadN 16 d_named_15 rfl
  replace c := c.aaload 17 d_named_16 Y1 rfl (0) (by decide) (.ref p0) rfl
  replace c := c.astore 19 d_named_17 rfl #[.val (.ref a), .val (.ref d), .val (.int 3), .val (.int 0), .val (.ref p0)] rfl
  replace c := c.aload 21 d_named_19 rfl rfl
  replace c := c.getF 24 d_named_21 (hG.1 _ (List.mem_of_getElem? (i := 107) rfl)) (F0.ext c.old.2)
  replace c := c.aloadN 25 d_named_24 rfl rfl
  have T0' := T0.ext c.old.2
  obtain ⟨v, h2, sf, ⟨hv, hh⟩, c⟩ := c.callV (y := (⟨"java/lang/String", "equals", "(Ljava/lang/Object;)Z"⟩ : MethodName)) (z := y_seq) (C := "java/lang/String") (a := l0) (argsL := [.ref a]) (rest := []) 28 d_named_25 (con_seq hG T0' S1) rfl T0'.exa (hG.1 _ (List.mem_of_getElem? (i := 109) rfl)) (hG.1 _ (List.mem_of_getElem? (i := 75) rfl)) (own_nf (hG.1 _ (List.mem_of_getElem? (i := 77) rfl))) (hG.1 _ (List.mem_of_getElem? (i := 77) rfl)) (hG.1 _ (List.mem_of_getElem? (i := 76) rfl)) (hG.1 _ (List.mem_of_getElem? (i := 2) rfl)) (hG.1 _ (List.mem_of_getElem? (i := 78) rfl)) (lenOf pd_15 rfl) (by simp) (W := 0) rfl (by decide) (by decide) (by decide) (by decide)
  subst hv
  rw [hh] at c
  replace c := c [] (by simp)
  replace c : OAt G K M_named [] 1 3 h1 28 #[.val (.ref a), .val (.ref d), .val (.int 3), .val (.int 0), .val (.ref p0)] [.int (if [97, 102, 116, 101, 114, 45, 99, 111, 108, 108, 101, 99, 116] = cs then 1 else 0)] := c
  by_cases q0 : [97, 102, 116, 101, 114, 45, 99, 111, 108, 108, 101, 99, 116] = cs
  · skip
    replace c := c.ifF 31 d_named_28 (own_if_eq_f (by rw [if_pos q0]; decide))
    replace c := c.aload 33 d_named_31 rfl rfl
    obtain ⟨v, h3, sf, ⟨o, rfl, K2, E2, F2'⟩, c⟩ := c.callS (y := y_opof) (argsL := [.ref p0]) (rest := []) 36 d_named_33 (con_opof hG (a := p0)) rfl (hG.1 _ (List.mem_of_getElem? (i := 126) rfl)) (hG.1 _ (List.mem_of_getElem? (i := 127) rfl)) (hG.1 _ (List.mem_of_getElem? (i := 112) rfl)) (hG.1 _ (List.mem_of_getElem? (i := 128) rfl)) (lenOf pd_16 rfl) (by simp) (W := 0) rfl (by decide) (by decide) (by decide) (by decide)
    replace c := c [] (by simp)
    replace c : OAt G K M_named [] 2 4 h3 36 #[.val (.ref a), .val (.ref d), .val (.int 3), .val (.int 0), .val (.ref p0)] [.ref o] := c
    exact c.reta (t := (.object "java/util/Optional")) d_named_36 rfl rfl rfl rfl (fun sf hs => ⟨o, _, rfl, K1.trans K2 (fun x hx => by cases hx), E2, F2', Or.inl ⟨q0.symm, rfl⟩⟩) (by decide) (by decide)
  · skip
    replace c := c.ifT 37 d_named_28 (own_if_eq_t (by rw [if_neg q0]))
    replace c := c.iinc 40 d_named_37 rfl (1) (by decide) #[.val (.ref a), .val (.ref d), .val (.int 3), .val (.int 1), .val (.ref p0)] rfl
    replace c := c.goto 9 d_named_40
    replace c := c.iloadN 10 d_named_9 rfl
    replace c := c.iloadN 11 d_named_10 rfl
    replace c := c.icF 14 d_named_11 (own_ic_ge_f (by decide))
    replace c := c.aloadN 15 d_named_14 rfl rfl
    replace c := c.iloadN 16 d_named_15 rfl
    replace c := c.aaload 17 d_named_16 Y1 rfl (1) (by decide) (.ref p1) rfl
    replace c := c.astore 19 d_named_17 rfl #[.val (.ref a), .val (.ref d), .val (.int 3), .val (.int 1), .val (.ref p1)] rfl
    replace c := c.aload 21 d_named_19 rfl rfl
    replace c := c.getF 24 d_named_21 (hG.1 _ (List.mem_of_getElem? (i := 107) rfl)) (F1.ext c.old.2)
    replace c := c.aloadN 25 d_named_24 rfl rfl
    have T1' := T1.ext c.old.2
    obtain ⟨v, h2, sf, ⟨hv, hh⟩, c⟩ := c.callV (y := (⟨"java/lang/String", "equals", "(Ljava/lang/Object;)Z"⟩ : MethodName)) (z := y_seq) (C := "java/lang/String") (a := l1) (argsL := [.ref a]) (rest := []) 28 d_named_25 (con_seq hG T1' S1) rfl T1'.exa (hG.1 _ (List.mem_of_getElem? (i := 109) rfl)) (hG.1 _ (List.mem_of_getElem? (i := 75) rfl)) (own_nf (hG.1 _ (List.mem_of_getElem? (i := 77) rfl))) (hG.1 _ (List.mem_of_getElem? (i := 77) rfl)) (hG.1 _ (List.mem_of_getElem? (i := 76) rfl)) (hG.1 _ (List.mem_of_getElem? (i := 2) rfl)) (hG.1 _ (List.mem_of_getElem? (i := 78) rfl)) (lenOf pd_15 rfl) (by simp) (W := 0) rfl (by decide) (by decide) (by decide) (by decide)
    subst hv
    rw [hh] at c
    replace c := c [] (by simp)
    replace c : OAt G K M_named [] 1 3 h1 28 #[.val (.ref a), .val (.ref d), .val (.int 3), .val (.int 1), .val (.ref p1)] [.int (if [97, 102, 116, 101, 114, 45, 97, 99, 99, 101, 112, 116] = cs then 1 else 0)] := c
    by_cases q1 : [97, 102, 116, 101, 114, 45, 97, 99, 99, 101, 112, 116] = cs
    · skip
      replace c := c.ifF 31 d_named_28 (own_if_eq_f (by rw [if_pos q1]; decide))
      replace c := c.aload 33 d_named_31 rfl rfl
      obtain ⟨v, h3, sf, ⟨o, rfl, K2, E2, F2'⟩, c⟩ := c.callS (y := y_opof) (argsL := [.ref p1]) (rest := []) 36 d_named_33 (con_opof hG (a := p1)) rfl (hG.1 _ (List.mem_of_getElem? (i := 126) rfl)) (hG.1 _ (List.mem_of_getElem? (i := 127) rfl)) (hG.1 _ (List.mem_of_getElem? (i := 112) rfl)) (hG.1 _ (List.mem_of_getElem? (i := 128) rfl)) (lenOf pd_16 rfl) (by simp) (W := 0) rfl (by decide) (by decide) (by decide) (by decide)
      replace c := c [] (by simp)
      replace c : OAt G K M_named [] 2 4 h3 36 #[.val (.ref a), .val (.ref d), .val (.int 3), .val (.int 1), .val (.ref p1)] [.ref o] := c
      exact c.reta (t := (.object "java/util/Optional")) d_named_36 rfl rfl rfl rfl (fun sf hs => ⟨o, _, rfl, K1.trans K2 (fun x hx => by cases hx), E2, F2', Or.inr (Or.inl ⟨fun e => q0 e.symm, q1.symm, rfl⟩)⟩) (by decide) (by decide)
    · skip
      replace c := c.ifT 37 d_named_28 (own_if_eq_t (by rw [if_neg q1]))
      replace c := c.iinc 40 d_named_37 rfl (2) (by decide) #[.val (.ref a), .val (.ref d), .val (.int 3), .val (.int 2), .val (.ref p1)] rfl
      replace c := c.goto 9 d_named_40
      replace c := c.iloadN 10 d_named_9 rfl
      replace c := c.iloadN 11 d_named_10 rfl
      replace c := c.icF 14 d_named_11 (own_ic_ge_f (by decide))
      replace c := c.aloadN 15 d_named_14 rfl rfl
      replace c := c.iloadN 16 d_named_15 rfl
      replace c := c.aaload 17 d_named_16 Y1 rfl (2) (by decide) (.ref p2) rfl
      replace c := c.astore 19 d_named_17 rfl #[.val (.ref a), .val (.ref d), .val (.int 3), .val (.int 2), .val (.ref p2)] rfl
      replace c := c.aload 21 d_named_19 rfl rfl
      replace c := c.getF 24 d_named_21 (hG.1 _ (List.mem_of_getElem? (i := 107) rfl)) (F2.ext c.old.2)
      replace c := c.aloadN 25 d_named_24 rfl rfl
      have T2' := T2.ext c.old.2
      obtain ⟨v, h2, sf, ⟨hv, hh⟩, c⟩ := c.callV (y := (⟨"java/lang/String", "equals", "(Ljava/lang/Object;)Z"⟩ : MethodName)) (z := y_seq) (C := "java/lang/String") (a := l2) (argsL := [.ref a]) (rest := []) 28 d_named_25 (con_seq hG T2' S1) rfl T2'.exa (hG.1 _ (List.mem_of_getElem? (i := 109) rfl)) (hG.1 _ (List.mem_of_getElem? (i := 75) rfl)) (own_nf (hG.1 _ (List.mem_of_getElem? (i := 77) rfl))) (hG.1 _ (List.mem_of_getElem? (i := 77) rfl)) (hG.1 _ (List.mem_of_getElem? (i := 76) rfl)) (hG.1 _ (List.mem_of_getElem? (i := 2) rfl)) (hG.1 _ (List.mem_of_getElem? (i := 78) rfl)) (lenOf pd_15 rfl) (by simp) (W := 0) rfl (by decide) (by decide) (by decide) (by decide)
      subst hv
      rw [hh] at c
      replace c := c [] (by simp)
      replace c : OAt G K M_named [] 1 3 h1 28 #[.val (.ref a), .val (.ref d), .val (.int 3), .val (.int 2), .val (.ref p2)] [.int (if [97, 102, 116, 101, 114, 45, 100, 101, 99, 105, 100, 101] = cs then 1 else 0)] := c
      by_cases q2 : [97, 102, 116, 101, 114, 45, 100, 101, 99, 105, 100, 101] = cs
      · skip
        replace c := c.ifF 31 d_named_28 (own_if_eq_f (by rw [if_pos q2]; decide))
        replace c := c.aload 33 d_named_31 rfl rfl
        obtain ⟨v, h3, sf, ⟨o, rfl, K2, E2, F2'⟩, c⟩ := c.callS (y := y_opof) (argsL := [.ref p2]) (rest := []) 36 d_named_33 (con_opof hG (a := p2)) rfl (hG.1 _ (List.mem_of_getElem? (i := 126) rfl)) (hG.1 _ (List.mem_of_getElem? (i := 127) rfl)) (hG.1 _ (List.mem_of_getElem? (i := 112) rfl)) (hG.1 _ (List.mem_of_getElem? (i := 128) rfl)) (lenOf pd_16 rfl) (by simp) (W := 0) rfl (by decide) (by decide) (by decide) (by decide)
        replace c := c [] (by simp)
        replace c : OAt G K M_named [] 2 4 h3 36 #[.val (.ref a), .val (.ref d), .val (.int 3), .val (.int 2), .val (.ref p2)] [.ref o] := c
        exact c.reta (t := (.object "java/util/Optional")) d_named_36 rfl rfl rfl rfl (fun sf hs => ⟨o, _, rfl, K1.trans K2 (fun x hx => by cases hx), E2, F2', Or.inr (Or.inr (Or.inl ⟨fun e => q0 e.symm, fun e => q1 e.symm, q2.symm, rfl⟩))⟩) (by decide) (by decide)
      · skip
        replace c := c.ifT 37 d_named_28 (own_if_eq_t (by rw [if_neg q2]))
        replace c := c.iinc 40 d_named_37 rfl (3) (by decide) #[.val (.ref a), .val (.ref d), .val (.int 3), .val (.int 3), .val (.ref p2)] rfl
        replace c := c.goto 9 d_named_40
        replace c := c.iloadN 10 d_named_9 rfl
        replace c := c.iloadN 11 d_named_10 rfl
        replace c := c.icT 43 d_named_11 (own_ic_ge_t (by decide))
        obtain ⟨v, h3, sf, ⟨o, rfl, K2, E2, F2'⟩, c⟩ := c.callS (y := y_ope) (argsL := []) (rest := []) 46 d_named_43 (con_ope hG) rfl (hG.1 _ (List.mem_of_getElem? (i := 110) rfl)) (hG.1 _ (List.mem_of_getElem? (i := 111) rfl)) (hG.1 _ (List.mem_of_getElem? (i := 112) rfl)) (hG.1 _ (List.mem_of_getElem? (i := 113) rfl)) (lenOf pd_17 rfl) (by simp) (W := 0) rfl (by decide) (by decide) (by decide) (by decide)
        replace c := c [] (by simp)
        replace c : OAt G K M_named [] 1 3 h3 46 #[.val (.ref a), .val (.ref d), .val (.int 3), .val (.int 3), .val (.ref p2)] [.ref o] := c
        exact c.reta (t := (.object "java/util/Optional")) d_named_46 rfl rfl rfl rfl (fun sf hs => ⟨o, _, rfl, K1.trans K2 (fun x hx => by cases hx), E2, F2', Or.inr (Or.inr (Or.inr ⟨fun e => q0 e.symm, fun e => q1 e.symm, fun e => q2 e.symm, rfl⟩))⟩) (by decide) (by decide)
theorem pd_18 : parseMethodDescriptor "(II)I" = some ⟨[.int, .int], some .int⟩ := by decide +kernel
theorem pd_19 : parseMethodDescriptor "([CILjava/lang/String;C)V" = some ⟨[(.array .char), .int, (.object "java/lang/String"), .char], none⟩ := by decide +kernel
theorem pd_20 : parseMethodDescriptor "([C)V" = some ⟨[(.array .char)], none⟩ := by decide +kernel
theorem pd_21 : parseMethodDescriptor "(Ljava/lang/String;)Ljava/util/Optional;" = some ⟨[(.object "java/lang/String")], some (.object "java/util/Optional")⟩ := by decide +kernel
abbrev rm_law : Room := room_1
abbrev M_law : Mx := (code, x.cls, ret, x.name, maxLocals, rm_law)
theorem ef_law (m : MethodId) (x0 : Int32) (x1 : Int32) (x2 : Int32) (x3 : Int32) (x4 : Int32) : entryFrame m #[.int x0, .int x1, .int x2, .int x3, .int x4] maxLocals = mkF m 0 #[.val (.int x0), .val (.int x1), .val (.int x2), .val (.int x3), .val (.int x4), .unset, .unset, .unset, .unset, .unset, .unset, .unset, .unset, .unset, .unset] [] := by first | (simp [entryFrame, mkF, argsToLocals, Value.category, maxLocals]; done) | rfl
set_option maxRecDepth 65536 in
set_option maxHeartbeats 4000000 in
theorem con_law {G : Gx} (hG : OGood G) {h0 : Heap} {x0 x1 x2 x3 x4 : Int32} : OCon G x code maxLocals ret tables_1 rm_law #[.int x0, .int x1, .int x2, .int x3, .int x4] [] h0 (fun v h' _ => v = some (.int 1)) := by
  refine OCon.intro (plainFor_of_name pn_4) (own_ew hG) #[.val (.int x0), .val (.int x1), .val (.int x2), .val (.int x3), .val (.int x4), .unset, .unset, .unset, .unset, .unset, .unset, .unset, .unset, .unset, .unset] (fun m => ef_law m x0 x1 x2 x3 x4) ?_
  intro K c
  replace c : OAt G K M_law [] 0 0 h0 0 #[.val (.int x0), .val (.int x1), .val (.int x2), .val (.int x3), .val (.int x4), .unset, .unset, .unset, .unset, .unset, .unset, .unset, .unset, .unset, .unset] [] := c
  obtain ⟨vals, p0, p1, p2, l0, l1, l2, Pv⟩ := hG.2.2.2.2.2.1
  have Pv' := Pv
  obtain ⟨-, -, -, A0, A1, A2, X0, X1, X2, -⟩ := Pv'
  have wi := (hG.1 _ (List.mem_of_getElem? (i := 3) rfl))
  replace c := c.iloadN 1 at_0 rfl
  replace c := c.ldcI 3 at_1 (v := 2147483647) (hG.1 _ (List.mem_of_getElem? (i := 0) rfl))
  replace c := c.iand 4 at_3
  replace c := c.iconst 5 at_4 5 (by decide)
  replace c := c.irem 6 at_5 (by decide)
  replace c := c.istore 8 at_6 #[.val (.int x0), .val (.int x1), .val (.int x2), .val (.int x3), .val (.int x4), .val (.int ((x0 &&& 2147483647) % 5)), .unset, .unset, .unset, .unset, .unset, .unset, .unset, .unset, .unset] rfl
  replace c := c.iload 10 at_8 rfl
  generalize hb0 : ((x0 &&& 2147483647) % 5) = b0 at c
  obtain ⟨b, bs, h1, K0, hbl, lb, SB, c⟩ : ∃ (b : Addr) (bs : List Int32) (h1 : Heap), Keep h0 h1 [] ∧ bs.length ≤ 13 ∧ Lat bs ∧ Str G.Z h1 b bs ∧ OAt G K M_law [] 2 56 h1 55 #[.val (.int x0), .val (.int x1), .val (.int x2), .val (.int x3), .val (.int x4), .val (.int b0), .val (.ref b), .unset, .unset, .unset, .unset, .unset, .unset, .unset, .unset] [] := by
    by_cases q2 : b0 = 0
    · skip
      replace c := c.ifF 13 at_10 (own_if_ne_f q2)
      obtain ⟨e, b_e, h_e, x_e, E_e, C_e, V_e, Y_e, N_e, c⟩ := c.ldcS 15 at_13 (hG.1 _ (List.mem_of_getElem? (i := 1) rfl)) (own_sa hG) (own_el_0 hG) [.int 97, .int 102, .int 116, .int 101, .int 114, .int 45, .int 99, .int 111, .int 108, .int 108, .int 101, .int 99, .int 116] (by decide) (by decide) 52 (by decide) (by decide) (by decide) (by decide)
      replace c := c.goto 53 at_15
      replace c := c.astore 55 at_53 rfl #[.val (.int x0), .val (.int x1), .val (.int x2), .val (.int x3), .val (.int x4), .val (.int b0), .val (.ref e), .unset, .unset, .unset, .unset, .unset, .unset, .unset, .unset] rfl
      exact ⟨e, [97, 102, 116, 101, 114, 45, 99, 111, 108, 108, 101, 99, 116], h_e, (Keep.refl h0 []).ext x_e, by decide, by unfold Lat; decide, own_strlit E_e C_e V_e Y_e (by unfold Lat; decide) (by decide), c.more (by decide) (by decide)⟩
    · skip
      replace c := c.ifT 18 at_10 (own_if_ne_t q2)
      replace c := c.iload 20 at_18 rfl
      replace c := c.iconst 21 at_20 1 (by decide)
      by_cases q3 : b0 = 1
      · skip
        replace c := c.icF 24 at_21 (own_ic_ne_f q3)
        obtain ⟨e, b_e, h_e, x_e, E_e, C_e, V_e, Y_e, N_e, c⟩ := c.ldcS 26 at_24 (hG.1 _ (List.mem_of_getElem? (i := 83) rfl)) (own_sa hG) (own_el_1 hG) [.int 97, .int 102, .int 116, .int 101, .int 114, .int 45, .int 97, .int 99, .int 99, .int 101, .int 112, .int 116] (by decide) (by decide) 48 (by decide) (by decide) (by decide) (by decide)
        replace c := c.goto 53 at_26
        replace c := c.astore 55 at_53 rfl #[.val (.int x0), .val (.int x1), .val (.int x2), .val (.int x3), .val (.int x4), .val (.int b0), .val (.ref e), .unset, .unset, .unset, .unset, .unset, .unset, .unset, .unset] rfl
        exact ⟨e, [97, 102, 116, 101, 114, 45, 97, 99, 99, 101, 112, 116], h_e, (Keep.refl h0 []).ext x_e, by decide, by unfold Lat; decide, own_strlit E_e C_e V_e Y_e (by unfold Lat; decide) (by decide), c.more (by decide) (by decide)⟩
      · skip
        replace c := c.icT 29 at_21 (own_ic_ne_t q3)
        replace c := c.iload 31 at_29 rfl
        replace c := c.iconst 32 at_31 2 (by decide)
        by_cases q4 : b0 = 2
        · skip
          replace c := c.icF 35 at_32 (own_ic_ne_f q4)
          obtain ⟨e, b_e, h_e, x_e, E_e, C_e, V_e, Y_e, N_e, c⟩ := c.ldcS 37 at_35 (hG.1 _ (List.mem_of_getElem? (i := 84) rfl)) (own_sa hG) (own_el_2 hG) [.int 97, .int 102, .int 116, .int 101, .int 114, .int 45, .int 100, .int 101, .int 99, .int 105, .int 100, .int 101] (by decide) (by decide) 48 (by decide) (by decide) (by decide) (by decide)
          replace c := c.goto 53 at_37
          replace c := c.astore 55 at_53 rfl #[.val (.int x0), .val (.int x1), .val (.int x2), .val (.int x3), .val (.int x4), .val (.int b0), .val (.ref e), .unset, .unset, .unset, .unset, .unset, .unset, .unset, .unset] rfl
          exact ⟨e, [97, 102, 116, 101, 114, 45, 100, 101, 99, 105, 100, 101], h_e, (Keep.refl h0 []).ext x_e, by decide, by unfold Lat; decide, own_strlit E_e C_e V_e Y_e (by unfold Lat; decide) (by decide), c.more (by decide) (by decide)⟩
        · skip
          replace c := c.icT 40 at_32 (own_ic_ne_t q4)
          replace c := c.iload 42 at_40 rfl
          replace c := c.iconst 43 at_42 3 (by decide)
          by_cases q5 : b0 = 3
          · skip
            replace c := c.icF 46 at_43 (own_ic_ne_f q5)
            obtain ⟨e, b_e, h_e, x_e, E_e, C_e, V_e, Y_e, N_e, c⟩ := c.ldcS 48 at_46 (hG.1 _ (List.mem_of_getElem? (i := 122) rfl)) (own_sa hG) (own_el_3 hG) [.int 97, .int 102, .int 116, .int 101, .int 114, .int 45] (by decide) (by decide) 24 (by decide) (by decide) (by decide) (by decide)
            replace c := c.goto 53 at_48
            replace c := c.astore 55 at_53 rfl #[.val (.int x0), .val (.int x1), .val (.int x2), .val (.int x3), .val (.int x4), .val (.int b0), .val (.ref e), .unset, .unset, .unset, .unset, .unset, .unset, .unset, .unset] rfl
            exact ⟨e, [97, 102, 116, 101, 114, 45], h_e, (Keep.refl h0 []).ext x_e, by decide, by unfold Lat; decide, own_strlit E_e C_e V_e Y_e (by unfold Lat; decide) (by decide), c.more (by decide) (by decide)⟩
          · skip
            replace c := c.icT 51 at_43 (own_ic_ne_t q5)
            obtain ⟨e, b_e, h_e, x_e, E_e, C_e, V_e, Y_e, N_e, c⟩ := c.ldcS 53 at_51 (hG.1 _ (List.mem_of_getElem? (i := 123) rfl)) (own_sa hG) (own_el_4 hG) [] (by decide) (by decide) 0 (by decide) (by decide) (by decide) (by decide)
            replace c := c.astore 55 at_53 rfl #[.val (.int x0), .val (.int x1), .val (.int x2), .val (.int x3), .val (.int x4), .val (.int b0), .val (.ref e), .unset, .unset, .unset, .unset, .unset, .unset, .unset, .unset] rfl
            exact ⟨e, [], h_e, (Keep.refl h0 []).ext x_e, by decide, by unfold Lat; decide, own_strlit E_e C_e V_e Y_e (by unfold Lat; decide) (by decide), c.more (by decide) (by decide)⟩
  have B := SB.lat lb
  replace c := c.iloadN 56 at_55 rfl
  replace c := c.ldcI 58 at_56 (v := 2147483647) (hG.1 _ (List.mem_of_getElem? (i := 0) rfl))
  replace c := c.iand 59 at_58
  replace c := c.iconst 60 at_59 3 (by decide)
  replace c := c.irem 61 at_60 (by decide)
  replace c := c.iconst 62 at_61 1 (by decide)
  replace c := c.isub 63 at_62
  replace c := c.istore 65 at_63 #[.val (.int x0), .val (.int x1), .val (.int x2), .val (.int x3), .val (.int x4), .val (.int b0), .val (.ref b), .val (.int (((x1 &&& 2147483647) % 3) - 1)), .unset, .unset, .unset, .unset, .unset, .unset, .unset] rfl
  replace c := c.iconst 66 at_65 0 (by decide)
  replace c := c.aload 68 at_66 rfl rfl
  obtain ⟨v, h2, sf, ⟨rfl, hh⟩, c⟩ := c.callV (y := (⟨"java/lang/String", "length", "()I"⟩ : MethodName)) (z := y_slen) (C := "java/lang/String") (a := b) (argsL := []) (rest := [.int 0]) 71 at_68 (con_slen hG (Or.inl rfl) (own_shr0 _) B) rfl B.1 (hG.1 _ (List.mem_of_getElem? (i := 9) rfl)) (hG.1 _ (List.mem_of_getElem? (i := 10) rfl)) (own_nf (hG.1 _ (List.mem_of_getElem? (i := 12) rfl))) (hG.1 _ (List.mem_of_getElem? (i := 12) rfl)) (hG.1 _ (List.mem_of_getElem? (i := 11) rfl)) (hG.1 _ (List.mem_of_getElem? (i := 2) rfl)) (hG.1 _ (List.mem_of_getElem? (i := 13) rfl)) (lenOf pd_10 rfl) (by simp) (W := 1) rfl (by decide) (by decide) (by decide) (by decide)
  rw [hh] at c
  replace c := c [] (by simp)
  replace c : OAt G K M_law [] 2 56 h1 71 #[.val (.int x0), .val (.int x1), .val (.int x2), .val (.int x3), .val (.int x4), .val (.int b0), .val (.ref b), .val (.int (((x1 &&& 2147483647) % 3) - 1)), .unset, .unset, .unset, .unset, .unset, .unset, .unset] [.int (Int32.ofNat (encL bs).length), .int 0] := c
  rw [encL_len] at c
  replace c := c.iload 73 at_71 rfl
  replace c := c.iadd 74 at_73
  obtain ⟨v, h2, sf, ⟨r, rfl, hr, hh⟩, c⟩ := c.callS (y := y_max) (argsL := [.int 0, .int ((Int32.ofNat bs.length) + (((x1 &&& 2147483647) % 3) - 1))]) (rest := []) 77 at_74 (con_max hG) rfl (hG.1 _ (List.mem_of_getElem? (i := 22) rfl)) (hG.1 _ (List.mem_of_getElem? (i := 23) rfl)) (hG.1 _ (List.mem_of_getElem? (i := 24) rfl)) (hG.1 _ (List.mem_of_getElem? (i := 25) rfl)) (lenOf pd_18 rfl) (by simp) (W := 0) rfl (by decide) (by decide) (by decide) (by decide)
  rw [hh] at c
  replace c := c [] (by simp)
  replace c : OAt G K M_law [] 2 56 h1 77 #[.val (.int x0), .val (.int x1), .val (.int x2), .val (.int x3), .val (.int x4), .val (.int b0), .val (.ref b), .val (.int (((x1 &&& 2147483647) % 3) - 1)), .unset, .unset, .unset, .unset, .unset, .unset, .unset] [.int r] := c
  obtain ⟨n, rfl, hn14⟩ := own_n x1 bs.length hbl hr
  replace c := c.istore 79 at_77 #[.val (.int x0), .val (.int x1), .val (.int x2), .val (.int x3), .val (.int x4), .val (.int b0), .val (.ref b), .val (.int (((x1 &&& 2147483647) % 3) - 1)), .val (.int (Int32.ofNat n)), .unset, .unset, .unset, .unset, .unset, .unset] rfl
  replace c := c.iloadN 80 at_79 rfl
  replace c := c.sipush 83 at_80 255 (by decide)
  replace c := c.iand 84 at_83
  replace c := c.i2c 85 at_84
  generalize hg : ((x3 &&& 255).toUInt32.toUInt16.toUInt32.toInt32) = ch at c
  have rc : 0 ≤ ch.toInt ∧ ch.toInt < 256 := by rw [← hg]; exact own_mask_rng _
  replace c := c.istore 87 at_85 #[.val (.int x0), .val (.int x1), .val (.int x2), .val (.int x3), .val (.int x4), .val (.int b0), .val (.ref b), .val (.int (((x1 &&& 2147483647) % 3) - 1)), .val (.int (Int32.ofNat n)), .val (.int ch), .unset, .unset, .unset, .unset, .unset] rfl
  replace c := c.iload 89 at_87 rfl
  obtain ⟨ca, h_ca, s_ca, x_ca, g_ca, Y_ca, c⟩ := c.newarr 91 at_89 .char rfl (hG.1 _ (List.mem_of_getElem? (i := 26) rfl)) (n) rfl 14 hn14 (by decide) (by decide) (by decide)
  replace c := c.astore 93 at_91 rfl #[.val (.int x0), .val (.int x1), .val (.int x2), .val (.int x3), .val (.int x4), .val (.int b0), .val (.ref b), .val (.int (((x1 &&& 2147483647) % 3) - 1)), .val (.int (Int32.ofNat n)), .val (.int ch), .val (.ref ca), .unset, .unset, .unset, .unset] rfl
  have SB2 := SB.ext x_ca
  have hbs := SB2
  obtain ⟨cs, hcl, lc, Y⟩ : ∃ cs : List Int32, cs.length = n ∧ Lat cs ∧ Ary G.Z h_ca ca .char (cs.map Value.int) := ⟨List.replicate n 0, by simp, fun z hz => by rw [List.eq_of_mem_replicate hz]; decide, by rw [List.map_replicate]; exact Y_ca⟩
  have K1 : Keep h0 h_ca [] := K0.ext x_ca
  have hca0 : h0.size ≤ ca := by rw [s_ca]; exact K0.1
  replace c := c.aload 95 at_93 rfl rfl
  replace c := c.iconst 96 at_95 0 (by decide)
  replace c := c.aload 98 at_96 rfl rfl
  replace c := c.iload 100 at_98 rfl
  obtain ⟨v, hp0, sf, ⟨rfl, KP, cs', hcl', lc', Y'⟩, c⟩ := c.callS (y := y_put) (argsL := [.ref ca, .int 0, .ref b, .int ch]) (rest := []) 103 at_100 (con_put hG (i := 0) (by decide) hbl g_ca lc Y lb (SB2.lat lb) rc) rfl (hG.1 _ (List.mem_of_getElem? (i := 27) rfl)) (hG.1 _ (List.mem_of_getElem? (i := 28) rfl)) (hG.1 _ (List.mem_of_getElem? (i := 29) rfl)) (hG.1 _ (List.mem_of_getElem? (i := 30) rfl)) (lenOf pd_19 rfl) (by simp) (W := 0) rfl (by decide) (by decide) (by decide) (by decide)
  replace c := c [] (by simp)
  replace c : OAt G K M_law [ca] 3 70 hp0 103 #[.val (.int x0), .val (.int x1), .val (.int x2), .val (.int x3), .val (.int x4), .val (.int b0), .val (.ref b), .val (.int (((x1 &&& 2147483647) % 3) - 1)), .val (.int (Int32.ofNat n)), .val (.int ch), .val (.ref ca), .unset, .unset, .unset, .unset] [] := c
  replace SB2 := SB2.keep KP (own_all1 (NStr.arr Y (by decide) wi))
  replace K1 := K1.trans KP (fun x hx => by cases List.mem_singleton.mp hx; exact Or.inr hca0)
  replace hcl : cs'.length = n := hcl'.trans hcl
  clear lc Y hcl' KP
  obtain ⟨lc, Y⟩ := And.intro lc' Y'
  clear lc' Y'
  generalize cs' = cs at hcl lc Y
  replace c := c.aload 105 at_103 rfl rfl
  replace c := c.iconst 106 at_105 1 (by decide)
  replace c := c.aload 108 at_106 rfl rfl
  replace c := c.iload 110 at_108 rfl
  obtain ⟨v, hp1, sf, ⟨rfl, KP, cs', hcl', lc', Y'⟩, c⟩ := c.callS (y := y_put) (argsL := [.ref ca, .int 1, .ref b, .int ch]) (rest := []) 113 at_110 (con_put hG (i := 1) (by decide) hbl g_ca lc Y lb (SB2.lat lb) rc) rfl (hG.1 _ (List.mem_of_getElem? (i := 27) rfl)) (hG.1 _ (List.mem_of_getElem? (i := 28) rfl)) (hG.1 _ (List.mem_of_getElem? (i := 29) rfl)) (hG.1 _ (List.mem_of_getElem? (i := 30) rfl)) (lenOf pd_19 rfl) (by simp) (W := 0) rfl (by decide) (by decide) (by decide) (by decide)
  replace c := c [] (by simp)
  replace c : OAt G K M_law [ca] 3 70 hp1 113 #[.val (.int x0), .val (.int x1), .val (.int x2), .val (.int x3), .val (.int x4), .val (.int b0), .val (.ref b), .val (.int (((x1 &&& 2147483647) % 3) - 1)), .val (.int (Int32.ofNat n)), .val (.int ch), .val (.ref ca), .unset, .unset, .unset, .unset] [] := c
  replace SB2 := SB2.keep KP (own_all1 (NStr.arr Y (by decide) wi))
  replace K1 := K1.trans KP (fun x hx => by cases List.mem_singleton.mp hx; exact Or.inr hca0)
  replace hcl : cs'.length = n := hcl'.trans hcl
  clear lc Y hcl' KP
  obtain ⟨lc, Y⟩ := And.intro lc' Y'
  clear lc' Y'
  generalize cs' = cs at hcl lc Y
  replace c := c.aload 115 at_113 rfl rfl
  replace c := c.iconst 116 at_115 2 (by decide)
  replace c := c.aload 118 at_116 rfl rfl
  replace c := c.iload 120 at_118 rfl
  obtain ⟨v, hp2, sf, ⟨rfl, KP, cs', hcl', lc', Y'⟩, c⟩ := c.callS (y := y_put) (argsL := [.ref ca, .int 2, .ref b, .int ch]) (rest := []) 123 at_120 (con_put hG (i := 2) (by decide) hbl g_ca lc Y lb (SB2.lat lb) rc) rfl (hG.1 _ (List.mem_of_getElem? (i := 27) rfl)) (hG.1 _ (List.mem_of_getElem? (i := 28) rfl)) (hG.1 _ (List.mem_of_getElem? (i := 29) rfl)) (hG.1 _ (List.mem_of_getElem? (i := 30) rfl)) (lenOf pd_19 rfl) (by simp) (W := 0) rfl (by decide) (by decide) (by decide) (by decide)
  replace c := c [] (by simp)
  replace c : OAt G K M_law [ca] 3 70 hp2 123 #[.val (.int x0), .val (.int x1), .val (.int x2), .val (.int x3), .val (.int x4), .val (.int b0), .val (.ref b), .val (.int (((x1 &&& 2147483647) % 3) - 1)), .val (.int (Int32.ofNat n)), .val (.int ch), .val (.ref ca), .unset, .unset, .unset, .unset] [] := c
  replace SB2 := SB2.keep KP (own_all1 (NStr.arr Y (by decide) wi))
  replace K1 := K1.trans KP (fun x hx => by cases List.mem_singleton.mp hx; exact Or.inr hca0)
  replace hcl : cs'.length = n := hcl'.trans hcl
  clear lc Y hcl' KP
  obtain ⟨lc, Y⟩ := And.intro lc' Y'
  clear lc' Y'
  generalize cs' = cs at hcl lc Y
  replace c := c.aload 125 at_123 rfl rfl
  replace c := c.iconst 126 at_125 3 (by decide)
  replace c := c.aload 128 at_126 rfl rfl
  replace c := c.iload 130 at_128 rfl
  obtain ⟨v, hp3, sf, ⟨rfl, KP, cs', hcl', lc', Y'⟩, c⟩ := c.callS (y := y_put) (argsL := [.ref ca, .int 3, .ref b, .int ch]) (rest := []) 133 at_130 (con_put hG (i := 3) (by decide) hbl g_ca lc Y lb (SB2.lat lb) rc) rfl (hG.1 _ (List.mem_of_getElem? (i := 27) rfl)) (hG.1 _ (List.mem_of_getElem? (i := 28) rfl)) (hG.1 _ (List.mem_of_getElem? (i := 29) rfl)) (hG.1 _ (List.mem_of_getElem? (i := 30) rfl)) (lenOf pd_19 rfl) (by simp) (W := 0) rfl (by decide) (by decide) (by decide) (by decide)
  replace c := c [] (by simp)
  replace c : OAt G K M_law [ca] 3 70 hp3 133 #[.val (.int x0), .val (.int x1), .val (.int x2), .val (.int x3), .val (.int x4), .val (.int b0), .val (.ref b), .val (.int (((x1 &&& 2147483647) % 3) - 1)), .val (.int (Int32.ofNat n)), .val (.int ch), .val (.ref ca), .unset, .unset, .unset, .unset] [] := c
  replace SB2 := SB2.keep KP (own_all1 (NStr.arr Y (by decide) wi))
  replace K1 := K1.trans KP (fun x hx => by cases List.mem_singleton.mp hx; exact Or.inr hca0)
  replace hcl : cs'.length = n := hcl'.trans hcl
  clear lc Y hcl' KP
  obtain ⟨lc, Y⟩ := And.intro lc' Y'
  clear lc' Y'
  generalize cs' = cs at hcl lc Y
  replace c := c.aload 135 at_133 rfl rfl
  replace c := c.iconst 136 at_135 4 (by decide)
  replace c := c.aload 138 at_136 rfl rfl
  replace c := c.iload 140 at_138 rfl
  obtain ⟨v, hp4, sf, ⟨rfl, KP, cs', hcl', lc', Y'⟩, c⟩ := c.callS (y := y_put) (argsL := [.ref ca, .int 4, .ref b, .int ch]) (rest := []) 143 at_140 (con_put hG (i := 4) (by decide) hbl g_ca lc Y lb (SB2.lat lb) rc) rfl (hG.1 _ (List.mem_of_getElem? (i := 27) rfl)) (hG.1 _ (List.mem_of_getElem? (i := 28) rfl)) (hG.1 _ (List.mem_of_getElem? (i := 29) rfl)) (hG.1 _ (List.mem_of_getElem? (i := 30) rfl)) (lenOf pd_19 rfl) (by simp) (W := 0) rfl (by decide) (by decide) (by decide) (by decide)
  replace c := c [] (by simp)
  replace c : OAt G K M_law [ca] 3 70 hp4 143 #[.val (.int x0), .val (.int x1), .val (.int x2), .val (.int x3), .val (.int x4), .val (.int b0), .val (.ref b), .val (.int (((x1 &&& 2147483647) % 3) - 1)), .val (.int (Int32.ofNat n)), .val (.int ch), .val (.ref ca), .unset, .unset, .unset, .unset] [] := c
  replace SB2 := SB2.keep KP (own_all1 (NStr.arr Y (by decide) wi))
  replace K1 := K1.trans KP (fun x hx => by cases List.mem_singleton.mp hx; exact Or.inr hca0)
  replace hcl : cs'.length = n := hcl'.trans hcl
  clear lc Y hcl' KP
  obtain ⟨lc, Y⟩ := And.intro lc' Y'
  clear lc' Y'
  generalize cs' = cs at hcl lc Y
  replace c := c.aload 145 at_143 rfl rfl
  replace c := c.iconst 146 at_145 5 (by decide)
  replace c := c.aload 148 at_146 rfl rfl
  replace c := c.iload 150 at_148 rfl
  obtain ⟨v, hp5, sf, ⟨rfl, KP, cs', hcl', lc', Y'⟩, c⟩ := c.callS (y := y_put) (argsL := [.ref ca, .int 5, .ref b, .int ch]) (rest := []) 153 at_150 (con_put hG (i := 5) (by decide) hbl g_ca lc Y lb (SB2.lat lb) rc) rfl (hG.1 _ (List.mem_of_getElem? (i := 27) rfl)) (hG.1 _ (List.mem_of_getElem? (i := 28) rfl)) (hG.1 _ (List.mem_of_getElem? (i := 29) rfl)) (hG.1 _ (List.mem_of_getElem? (i := 30) rfl)) (lenOf pd_19 rfl) (by simp) (W := 0) rfl (by decide) (by decide) (by decide) (by decide)
  replace c := c [] (by simp)
  replace c : OAt G K M_law [ca] 3 70 hp5 153 #[.val (.int x0), .val (.int x1), .val (.int x2), .val (.int x3), .val (.int x4), .val (.int b0), .val (.ref b), .val (.int (((x1 &&& 2147483647) % 3) - 1)), .val (.int (Int32.ofNat n)), .val (.int ch), .val (.ref ca), .unset, .unset, .unset, .unset] [] := c
  replace SB2 := SB2.keep KP (own_all1 (NStr.arr Y (by decide) wi))
  replace K1 := K1.trans KP (fun x hx => by cases List.mem_singleton.mp hx; exact Or.inr hca0)
  replace hcl : cs'.length = n := hcl'.trans hcl
  clear lc Y hcl' KP
  obtain ⟨lc, Y⟩ := And.intro lc' Y'
  clear lc' Y'
  generalize cs' = cs at hcl lc Y
  replace c := c.aload 155 at_153 rfl rfl
  replace c := c.bipush 157 at_155 6 (by decide)
  replace c := c.aload 159 at_157 rfl rfl
  replace c := c.iload 161 at_159 rfl
  obtain ⟨v, hp6, sf, ⟨rfl, KP, cs', hcl', lc', Y'⟩, c⟩ := c.callS (y := y_put) (argsL := [.ref ca, .int 6, .ref b, .int ch]) (rest := []) 164 at_161 (con_put hG (i := 6) (by decide) hbl g_ca lc Y lb (SB2.lat lb) rc) rfl (hG.1 _ (List.mem_of_getElem? (i := 27) rfl)) (hG.1 _ (List.mem_of_getElem? (i := 28) rfl)) (hG.1 _ (List.mem_of_getElem? (i := 29) rfl)) (hG.1 _ (List.mem_of_getElem? (i := 30) rfl)) (lenOf pd_19 rfl) (by simp) (W := 0) rfl (by decide) (by decide) (by decide) (by decide)
  replace c := c [] (by simp)
  replace c : OAt G K M_law [ca] 3 70 hp6 164 #[.val (.int x0), .val (.int x1), .val (.int x2), .val (.int x3), .val (.int x4), .val (.int b0), .val (.ref b), .val (.int (((x1 &&& 2147483647) % 3) - 1)), .val (.int (Int32.ofNat n)), .val (.int ch), .val (.ref ca), .unset, .unset, .unset, .unset] [] := c
  replace SB2 := SB2.keep KP (own_all1 (NStr.arr Y (by decide) wi))
  replace K1 := K1.trans KP (fun x hx => by cases List.mem_singleton.mp hx; exact Or.inr hca0)
  replace hcl : cs'.length = n := hcl'.trans hcl
  clear lc Y hcl' KP
  obtain ⟨lc, Y⟩ := And.intro lc' Y'
  clear lc' Y'
  generalize cs' = cs at hcl lc Y
  replace c := c.aload 166 at_164 rfl rfl
  replace c := c.bipush 168 at_166 7 (by decide)
  replace c := c.aload 170 at_168 rfl rfl
  replace c := c.iload 172 at_170 rfl
  obtain ⟨v, hp7, sf, ⟨rfl, KP, cs', hcl', lc', Y'⟩, c⟩ := c.callS (y := y_put) (argsL := [.ref ca, .int 7, .ref b, .int ch]) (rest := []) 175 at_172 (con_put hG (i := 7) (by decide) hbl g_ca lc Y lb (SB2.lat lb) rc) rfl (hG.1 _ (List.mem_of_getElem? (i := 27) rfl)) (hG.1 _ (List.mem_of_getElem? (i := 28) rfl)) (hG.1 _ (List.mem_of_getElem? (i := 29) rfl)) (hG.1 _ (List.mem_of_getElem? (i := 30) rfl)) (lenOf pd_19 rfl) (by simp) (W := 0) rfl (by decide) (by decide) (by decide) (by decide)
  replace c := c [] (by simp)
  replace c : OAt G K M_law [ca] 3 70 hp7 175 #[.val (.int x0), .val (.int x1), .val (.int x2), .val (.int x3), .val (.int x4), .val (.int b0), .val (.ref b), .val (.int (((x1 &&& 2147483647) % 3) - 1)), .val (.int (Int32.ofNat n)), .val (.int ch), .val (.ref ca), .unset, .unset, .unset, .unset] [] := c
  replace SB2 := SB2.keep KP (own_all1 (NStr.arr Y (by decide) wi))
  replace K1 := K1.trans KP (fun x hx => by cases List.mem_singleton.mp hx; exact Or.inr hca0)
  replace hcl : cs'.length = n := hcl'.trans hcl
  clear lc Y hcl' KP
  obtain ⟨lc, Y⟩ := And.intro lc' Y'
  clear lc' Y'
  generalize cs' = cs at hcl lc Y
  replace c := c.aload 177 at_175 rfl rfl
  replace c := c.bipush 179 at_177 8 (by decide)
  replace c := c.aload 181 at_179 rfl rfl
  replace c := c.iload 183 at_181 rfl
  obtain ⟨v, hp8, sf, ⟨rfl, KP, cs', hcl', lc', Y'⟩, c⟩ := c.callS (y := y_put) (argsL := [.ref ca, .int 8, .ref b, .int ch]) (rest := []) 186 at_183 (con_put hG (i := 8) (by decide) hbl g_ca lc Y lb (SB2.lat lb) rc) rfl (hG.1 _ (List.mem_of_getElem? (i := 27) rfl)) (hG.1 _ (List.mem_of_getElem? (i := 28) rfl)) (hG.1 _ (List.mem_of_getElem? (i := 29) rfl)) (hG.1 _ (List.mem_of_getElem? (i := 30) rfl)) (lenOf pd_19 rfl) (by simp) (W := 0) rfl (by decide) (by decide) (by decide) (by decide)
  replace c := c [] (by simp)
  replace c : OAt G K M_law [ca] 3 70 hp8 186 #[.val (.int x0), .val (.int x1), .val (.int x2), .val (.int x3), .val (.int x4), .val (.int b0), .val (.ref b), .val (.int (((x1 &&& 2147483647) % 3) - 1)), .val (.int (Int32.ofNat n)), .val (.int ch), .val (.ref ca), .unset, .unset, .unset, .unset] [] := c
  replace SB2 := SB2.keep KP (own_all1 (NStr.arr Y (by decide) wi))
  replace K1 := K1.trans KP (fun x hx => by cases List.mem_singleton.mp hx; exact Or.inr hca0)
  replace hcl : cs'.length = n := hcl'.trans hcl
  clear lc Y hcl' KP
  obtain ⟨lc, Y⟩ := And.intro lc' Y'
  clear lc' Y'
  generalize cs' = cs at hcl lc Y
  replace c := c.aload 188 at_186 rfl rfl
  replace c := c.bipush 190 at_188 9 (by decide)
  replace c := c.aload 192 at_190 rfl rfl
  replace c := c.iload 194 at_192 rfl
  obtain ⟨v, hp9, sf, ⟨rfl, KP, cs', hcl', lc', Y'⟩, c⟩ := c.callS (y := y_put) (argsL := [.ref ca, .int 9, .ref b, .int ch]) (rest := []) 197 at_194 (con_put hG (i := 9) (by decide) hbl g_ca lc Y lb (SB2.lat lb) rc) rfl (hG.1 _ (List.mem_of_getElem? (i := 27) rfl)) (hG.1 _ (List.mem_of_getElem? (i := 28) rfl)) (hG.1 _ (List.mem_of_getElem? (i := 29) rfl)) (hG.1 _ (List.mem_of_getElem? (i := 30) rfl)) (lenOf pd_19 rfl) (by simp) (W := 0) rfl (by decide) (by decide) (by decide) (by decide)
  replace c := c [] (by simp)
  replace c : OAt G K M_law [ca] 3 70 hp9 197 #[.val (.int x0), .val (.int x1), .val (.int x2), .val (.int x3), .val (.int x4), .val (.int b0), .val (.ref b), .val (.int (((x1 &&& 2147483647) % 3) - 1)), .val (.int (Int32.ofNat n)), .val (.int ch), .val (.ref ca), .unset, .unset, .unset, .unset] [] := c
  replace SB2 := SB2.keep KP (own_all1 (NStr.arr Y (by decide) wi))
  replace K1 := K1.trans KP (fun x hx => by cases List.mem_singleton.mp hx; exact Or.inr hca0)
  replace hcl : cs'.length = n := hcl'.trans hcl
  clear lc Y hcl' KP
  obtain ⟨lc, Y⟩ := And.intro lc' Y'
  clear lc' Y'
  generalize cs' = cs at hcl lc Y
  replace c := c.aload 199 at_197 rfl rfl
  replace c := c.bipush 201 at_199 10 (by decide)
  replace c := c.aload 203 at_201 rfl rfl
  replace c := c.iload 205 at_203 rfl
  obtain ⟨v, hp10, sf, ⟨rfl, KP, cs', hcl', lc', Y'⟩, c⟩ := c.callS (y := y_put) (argsL := [.ref ca, .int 10, .ref b, .int ch]) (rest := []) 208 at_205 (con_put hG (i := 10) (by decide) hbl g_ca lc Y lb (SB2.lat lb) rc) rfl (hG.1 _ (List.mem_of_getElem? (i := 27) rfl)) (hG.1 _ (List.mem_of_getElem? (i := 28) rfl)) (hG.1 _ (List.mem_of_getElem? (i := 29) rfl)) (hG.1 _ (List.mem_of_getElem? (i := 30) rfl)) (lenOf pd_19 rfl) (by simp) (W := 0) rfl (by decide) (by decide) (by decide) (by decide)
  replace c := c [] (by simp)
  replace c : OAt G K M_law [ca] 3 70 hp10 208 #[.val (.int x0), .val (.int x1), .val (.int x2), .val (.int x3), .val (.int x4), .val (.int b0), .val (.ref b), .val (.int (((x1 &&& 2147483647) % 3) - 1)), .val (.int (Int32.ofNat n)), .val (.int ch), .val (.ref ca), .unset, .unset, .unset, .unset] [] := c
  replace SB2 := SB2.keep KP (own_all1 (NStr.arr Y (by decide) wi))
  replace K1 := K1.trans KP (fun x hx => by cases List.mem_singleton.mp hx; exact Or.inr hca0)
  replace hcl : cs'.length = n := hcl'.trans hcl
  clear lc Y hcl' KP
  obtain ⟨lc, Y⟩ := And.intro lc' Y'
  clear lc' Y'
  generalize cs' = cs at hcl lc Y
  replace c := c.aload 210 at_208 rfl rfl
  replace c := c.bipush 212 at_210 11 (by decide)
  replace c := c.aload 214 at_212 rfl rfl
  replace c := c.iload 216 at_214 rfl
  obtain ⟨v, hp11, sf, ⟨rfl, KP, cs', hcl', lc', Y'⟩, c⟩ := c.callS (y := y_put) (argsL := [.ref ca, .int 11, .ref b, .int ch]) (rest := []) 219 at_216 (con_put hG (i := 11) (by decide) hbl g_ca lc Y lb (SB2.lat lb) rc) rfl (hG.1 _ (List.mem_of_getElem? (i := 27) rfl)) (hG.1 _ (List.mem_of_getElem? (i := 28) rfl)) (hG.1 _ (List.mem_of_getElem? (i := 29) rfl)) (hG.1 _ (List.mem_of_getElem? (i := 30) rfl)) (lenOf pd_19 rfl) (by simp) (W := 0) rfl (by decide) (by decide) (by decide) (by decide)
  replace c := c [] (by simp)
  replace c : OAt G K M_law [ca] 3 70 hp11 219 #[.val (.int x0), .val (.int x1), .val (.int x2), .val (.int x3), .val (.int x4), .val (.int b0), .val (.ref b), .val (.int (((x1 &&& 2147483647) % 3) - 1)), .val (.int (Int32.ofNat n)), .val (.int ch), .val (.ref ca), .unset, .unset, .unset, .unset] [] := c
  replace SB2 := SB2.keep KP (own_all1 (NStr.arr Y (by decide) wi))
  replace K1 := K1.trans KP (fun x hx => by cases List.mem_singleton.mp hx; exact Or.inr hca0)
  replace hcl : cs'.length = n := hcl'.trans hcl
  clear lc Y hcl' KP
  obtain ⟨lc, Y⟩ := And.intro lc' Y'
  clear lc' Y'
  generalize cs' = cs at hcl lc Y
  replace c := c.aload 221 at_219 rfl rfl
  replace c := c.bipush 223 at_221 12 (by decide)
  replace c := c.aload 225 at_223 rfl rfl
  replace c := c.iload 227 at_225 rfl
  obtain ⟨v, hp12, sf, ⟨rfl, KP, cs', hcl', lc', Y'⟩, c⟩ := c.callS (y := y_put) (argsL := [.ref ca, .int 12, .ref b, .int ch]) (rest := []) 230 at_227 (con_put hG (i := 12) (by decide) hbl g_ca lc Y lb (SB2.lat lb) rc) rfl (hG.1 _ (List.mem_of_getElem? (i := 27) rfl)) (hG.1 _ (List.mem_of_getElem? (i := 28) rfl)) (hG.1 _ (List.mem_of_getElem? (i := 29) rfl)) (hG.1 _ (List.mem_of_getElem? (i := 30) rfl)) (lenOf pd_19 rfl) (by simp) (W := 0) rfl (by decide) (by decide) (by decide) (by decide)
  replace c := c [] (by simp)
  replace c : OAt G K M_law [ca] 3 70 hp12 230 #[.val (.int x0), .val (.int x1), .val (.int x2), .val (.int x3), .val (.int x4), .val (.int b0), .val (.ref b), .val (.int (((x1 &&& 2147483647) % 3) - 1)), .val (.int (Int32.ofNat n)), .val (.int ch), .val (.ref ca), .unset, .unset, .unset, .unset] [] := c
  replace SB2 := SB2.keep KP (own_all1 (NStr.arr Y (by decide) wi))
  replace K1 := K1.trans KP (fun x hx => by cases List.mem_singleton.mp hx; exact Or.inr hca0)
  replace hcl : cs'.length = n := hcl'.trans hcl
  clear lc Y hcl' KP
  obtain ⟨lc, Y⟩ := And.intro lc' Y'
  clear lc' Y'
  generalize cs' = cs at hcl lc Y
  replace c := c.aload 232 at_230 rfl rfl
  replace c := c.bipush 234 at_232 13 (by decide)
  replace c := c.aload 236 at_234 rfl rfl
  replace c := c.iload 238 at_236 rfl
  obtain ⟨v, hp13, sf, ⟨rfl, KP, cs', hcl', lc', Y'⟩, c⟩ := c.callS (y := y_put) (argsL := [.ref ca, .int 13, .ref b, .int ch]) (rest := []) 241 at_238 (con_put hG (i := 13) (by decide) hbl g_ca lc Y lb (SB2.lat lb) rc) rfl (hG.1 _ (List.mem_of_getElem? (i := 27) rfl)) (hG.1 _ (List.mem_of_getElem? (i := 28) rfl)) (hG.1 _ (List.mem_of_getElem? (i := 29) rfl)) (hG.1 _ (List.mem_of_getElem? (i := 30) rfl)) (lenOf pd_19 rfl) (by simp) (W := 0) rfl (by decide) (by decide) (by decide) (by decide)
  replace c := c [] (by simp)
  replace c : OAt G K M_law [ca] 3 70 hp13 241 #[.val (.int x0), .val (.int x1), .val (.int x2), .val (.int x3), .val (.int x4), .val (.int b0), .val (.ref b), .val (.int (((x1 &&& 2147483647) % 3) - 1)), .val (.int (Int32.ofNat n)), .val (.int ch), .val (.ref ca), .unset, .unset, .unset, .unset] [] := c
  replace SB2 := SB2.keep KP (own_all1 (NStr.arr Y (by decide) wi))
  replace K1 := K1.trans KP (fun x hx => by cases List.mem_singleton.mp hx; exact Or.inr hca0)
  replace hcl : cs'.length = n := hcl'.trans hcl
  clear lc Y hcl' KP
  obtain ⟨lc, Y⟩ := And.intro lc' Y'
  clear lc' Y'
  generalize cs' = cs at hcl lc Y
  replace c : OAt G K M_law [ca] 3 70 hp13 241 #[.val (.int x0), .val (.int x1), .val (.int x2), .val (.int x3), .val (.int x4), .val (.int b0), .val (.ref b), .val (.int (((x1 &&& 2147483647) % 3) - 1)), .val (.int (Int32.ofNat n)), .val (.int ch), .val (.ref ca), .unset, .unset, .unset, .unset] [] := c
  replace c := c.iload 243 at_241 rfl
  replace c := c.iconst 244 at_243 1 (by decide)
  replace c := c.iand 245 at_244
  obtain ⟨d, c⟩ : ∃ d : Int32, OAt G K M_law [ca] 3 70 hp13 255 #[.val (.int x0), .val (.int x1), .val (.int x2), .val (.int x3), .val (.int x4), .val (.int b0), .val (.ref b), .val (.int (((x1 &&& 2147483647) % 3) - 1)), .val (.int (Int32.ofNat n)), .val (.int ch), .val (.ref ca), .val (.int d), .unset, .unset, .unset] [] := by
    by_cases q6 : (x4 &&& 1) = 0
    · skip
      replace c := c.ifT 252 at_245 (own_if_eq_t q6)
      replace c := c.iconst 253 at_252 0 (by decide)
      replace c := c.istore 255 at_253 #[.val (.int x0), .val (.int x1), .val (.int x2), .val (.int x3), .val (.int x4), .val (.int b0), .val (.ref b), .val (.int (((x1 &&& 2147483647) % 3) - 1)), .val (.int (Int32.ofNat n)), .val (.int ch), .val (.ref ca), .val (.int 0), .unset, .unset, .unset] rfl
      exact ⟨_, c⟩
    · skip
      replace c := c.ifF 248 at_245 (own_if_eq_f q6)
      replace c := c.iconst 249 at_248 1 (by decide)
      replace c := c.goto 253 at_249
      replace c := c.istore 255 at_253 #[.val (.int x0), .val (.int x1), .val (.int x2), .val (.int x3), .val (.int x4), .val (.int b0), .val (.ref b), .val (.int (((x1 &&& 2147483647) % 3) - 1)), .val (.int (Int32.ofNat n)), .val (.int ch), .val (.ref ca), .val (.int 1), .unset, .unset, .unset] rfl
      exact ⟨_, c⟩
  replace c := c.iload 257 at_255 rfl
  obtain ⟨cs', h3, hcl', lc', Y', K2, c⟩ : ∃ (cs' : List Int32) (h3 : Heap), cs'.length = n ∧ Lat cs' ∧ Ary G.Z h3 ca .char (cs'.map Value.int) ∧ Keep h0 h3 [] ∧ OAt G K M_law [ca] 3 70 h3 277 #[.val (.int x0), .val (.int x1), .val (.int x2), .val (.int x3), .val (.int x4), .val (.int b0), .val (.ref b), .val (.int (((x1 &&& 2147483647) % 3) - 1)), .val (.int (Int32.ofNat n)), .val (.int ch), .val (.ref ca), .val (.int d), .unset, .unset, .unset] [] := by
    by_cases q7 : d = 0
    · skip
      replace c := c.ifT 277 at_257 (own_if_eq_t q7)
      exact ⟨cs, _, hcl, lc, Y, K1, c⟩
    · skip
      replace c := c.ifF 260 at_257 (own_if_eq_f q7)
      replace c := c.iload 262 at_260 rfl
      by_cases q8 : 0 < (Int32.ofNat n)
      · skip
        replace c := c.ifF 265 at_262 (own_if_le_f q8)
        replace c := c.aload 267 at_265 rfl rfl
        replace c := c.iloadN 268 at_267 rfl
        replace c := c.ldcI 270 at_268 (v := 2147483647) (hG.1 _ (List.mem_of_getElem? (i := 0) rfl))
        replace c := c.iand 271 at_270
        replace c := c.iload 273 at_271 rfl
        have hn0 : 0 < n := by rcases Nat.eq_zero_or_pos n with rfl | h; exact absurd q8 (by decide); exact h
        replace c := c.irem 274 at_273 (fun e => by have := own_inj (n := 0) e (by omega) (by decide); omega)
        obtain ⟨j, hj, hjn⟩ := own_idx x2 hn0 hn14
        rw [hj] at c
        replace c := c.iload 276 at_274 rfl
        obtain ⟨hw, Ww, Yw, c⟩ := c.castore 277 at_276 Y (j) rfl (by simp; omega) g_ca (ch) (own_narc ⟨rc.1, by omega⟩)
        rw [own_setmap] at Yw
        exact ⟨_, _, by simp [hcl], own_latset lc j rc, Yw, K1.wr Ww (Or.inr hca0), c⟩
      · skip
        replace c := c.ifT 277 at_262 (own_if_le_t q8)
        exact ⟨cs, _, hcl, lc, Y, K1, c⟩
  obtain ⟨a, h_a, s_a, x_a, g_a, E_a, D_a, U_a, c⟩ := c.newO 280 at_277 (C := "java/lang/String") (hG.1 _ (List.mem_of_getElem? (i := 53) rfl)) (hG.1 _ (List.mem_of_getElem? (i := 3) rfl)) (hG.1 _ (List.mem_of_getElem? (i := 2) rfl)) (by decide) (by decide)
  have V_a : Fld G.Z h_a a "java/lang/String" "value" "[B" .null := D_a (Or.inr (hG.1 _ (List.mem_of_getElem? (i := 5) rfl))) (ty := .array .byte) (by decide)
  have C_a : Fld G.Z h_a a "java/lang/String" "coder" "B" (.int 0) := D_a (Or.inr (hG.1 _ (List.mem_of_getElem? (i := 6) rfl))) (ty := .byte) (by decide)
  replace c := c.dup 281 at_280 rfl
  replace c := c.aload 283 at_281 rfl rfl
  obtain ⟨v, h4, sf, ⟨rfl, K3, S1⟩, c⟩ := c.callI (y := y_si1) (a := a) (argsL := [.ref ca]) (rest := [.ref a]) 286 at_283 (con_si1 hG (cs := cs') (by omega) g_a E_a V_a C_a (Y'.ext x_a) lc') rfl (hG.1 _ (List.mem_of_getElem? (i := 54) rfl)) (hG.1 _ (List.mem_of_getElem? (i := 55) rfl)) (hG.1 _ (List.mem_of_getElem? (i := 2) rfl)) (hG.1 _ (List.mem_of_getElem? (i := 56) rfl)) (lenOf pd_20 rfl) (by simp) (W := 1) rfl (by decide) (by decide) (by decide) (by decide)
  replace c := c [] (by simp)
  replace c : OAt G K M_law [a, ca] 8 88 h4 286 #[.val (.int x0), .val (.int x1), .val (.int x2), .val (.int x3), .val (.int x4), .val (.int b0), .val (.ref b), .val (.int (((x1 &&& 2147483647) % 3) - 1)), .val (.int (Int32.ofNat n)), .val (.int ch), .val (.ref ca), .val (.int d), .unset, .unset, .unset] [.ref a] := c
  replace c := c.astore 288 at_286 rfl #[.val (.int x0), .val (.int x1), .val (.int x2), .val (.int x3), .val (.int x4), .val (.int b0), .val (.ref b), .val (.int (((x1 &&& 2147483647) % 3) - 1)), .val (.int (Int32.ofNat n)), .val (.int ch), .val (.ref ca), .val (.int d), .val (.ref a), .unset, .unset] rfl
  replace c := c.aload 290 at_288 rfl rfl
  have wrap : True := trivial
  obtain ⟨e0, b_e0, h_e0, x_e0, E_e0, C_e0, V_e0, Y_e0, N_e0, c⟩ := c.ldcS 292 at_290 (hG.1 _ (List.mem_of_getElem? (i := 1) rfl)) (own_sa hG) (own_el_0 hG) [.int 97, .int 102, .int 116, .int 101, .int 114, .int 45, .int 99, .int 111, .int 108, .int 108, .int 101, .int 99, .int 116] (by decide) (by decide) 52 (by decide) (by decide) (by decide) (by decide)
  have L0 : Str G.Z h_e0 e0 [97, 102, 116, 101, 114, 45, 99, 111, 108, 108, 101, 99, 116] := own_strlit E_e0 C_e0 V_e0 Y_e0 (by unfold Lat; decide) (by decide)
  have S1x := S1.ext x_e0
  obtain ⟨v, h5, sf, ⟨hv, hh⟩, c⟩ := c.callV (y := (⟨"java/lang/String", "equals", "(Ljava/lang/Object;)Z"⟩ : MethodName)) (z := y_seq) (C := "java/lang/String") (a := a) (argsL := [.ref e0]) (rest := []) 295 at_292 (con_seq hG S1x L0) rfl S1x.exa (hG.1 _ (List.mem_of_getElem? (i := 74) rfl)) (hG.1 _ (List.mem_of_getElem? (i := 75) rfl)) (own_nf (hG.1 _ (List.mem_of_getElem? (i := 77) rfl))) (hG.1 _ (List.mem_of_getElem? (i := 77) rfl)) (hG.1 _ (List.mem_of_getElem? (i := 76) rfl)) (hG.1 _ (List.mem_of_getElem? (i := 2) rfl)) (hG.1 _ (List.mem_of_getElem? (i := 78) rfl)) (lenOf pd_15 rfl) (by simp) (W := 0) rfl (by decide) (by decide) (by decide) (by decide)
  subst hv
  rw [hh] at c
  replace c := c [] (by simp)
  replace c : OAt G K M_law [a, ca] 10 144 h_e0 295 #[.val (.int x0), .val (.int x1), .val (.int x2), .val (.int x3), .val (.int x4), .val (.int b0), .val (.ref b), .val (.int (((x1 &&& 2147483647) % 3) - 1)), .val (.int (Int32.ofNat n)), .val (.int ch), .val (.ref ca), .val (.int d), .val (.ref a), .unset, .unset] [.int (if cs' = [97, 102, 116, 101, 114, 45, 99, 111, 108, 108, 101, 99, 116] then 1 else 0)] := c
  by_cases t0 : cs' = [97, 102, 116, 101, 114, 45, 99, 111, 108, 108, 101, 99, 116]
  · skip
    replace c := c.ifF 298 at_295 (own_if_eq_f (by rw [if_pos t0]; decide))
    replace c := c.getS 301 at_298 (hG.1 _ (List.mem_of_getElem? (i := 142) rfl)) A0
    replace c := c.goto 337 at_301
    replace c := c.astore 339 at_337 rfl #[.val (.int x0), .val (.int x1), .val (.int x2), .val (.int x3), .val (.int x4), .val (.int b0), .val (.ref b), .val (.int (((x1 &&& 2147483647) % 3) - 1)), .val (.int (Int32.ofNat n)), .val (.int ch), .val (.ref ca), .val (.int d), .val (.ref a), .val (.ref p0), .unset] rfl
    replace c := c.aload 341 at_339 rfl rfl
    obtain ⟨v, h9, sf, ⟨o, X, rfl, KN, EO, FO, hpt⟩, c⟩ := c.callS (y := y_named) (argsL := [.ref a]) (rest := []) 344 at_341 (con_named hG Pv S1x) rfl (hG.1 _ (List.mem_of_getElem? (i := 85) rfl)) (hG.1 _ (List.mem_of_getElem? (i := 86) rfl)) (hG.1 _ (List.mem_of_getElem? (i := 87) rfl)) (hG.1 _ (List.mem_of_getElem? (i := 88) rfl)) (lenOf pd_21 rfl) (by simp) (W := 0) rfl (by decide) (by decide) (by decide) (by decide)
    replace c := c [] (by simp)
    replace c : OAt G K M_law [a, ca] 12 148 h9 344 #[.val (.int x0), .val (.int x1), .val (.int x2), .val (.int x3), .val (.int x4), .val (.int b0), .val (.ref b), .val (.int (((x1 &&& 2147483647) % 3) - 1)), .val (.int (Int32.ofNat n)), .val (.int ch), .val (.ref ca), .val (.int d), .val (.ref a), .val (.ref p0), .unset] [.ref o] := c
    replace c := c.aconstNull 345 at_344
    have hX : X = .ref p0 := by
      rcases hpt with ⟨e, hX⟩ | ⟨n0, e, hX⟩ | ⟨n0, n1, e, hX⟩ | ⟨n0, n1, n2, hX⟩
      · exact hX
      · exact absurd t0 n0
      · exact absurd t0 n0
      · exact absurd t0 n0
    subst hX
    obtain ⟨v, h10, sf, ⟨rfl, hh⟩, c⟩ := c.callV (y := (⟨"java/util/Optional", "orElse", "(Ljava/lang/Object;)Ljava/lang/Object;"⟩ : MethodName)) (z := y_orR) (C := "java/util/Optional") (a := o) (argsL := [.null]) (rest := []) 348 at_345 (con_orR hG (a := p0) FO) rfl EO (hG.1 _ (List.mem_of_getElem? (i := 115) rfl)) (hG.1 _ (List.mem_of_getElem? (i := 116) rfl)) (own_nf (hG.1 _ (List.mem_of_getElem? (i := 118) rfl))) (hG.1 _ (List.mem_of_getElem? (i := 118) rfl)) (hG.1 _ (List.mem_of_getElem? (i := 117) rfl)) (hG.1 _ (List.mem_of_getElem? (i := 112) rfl)) (hG.1 _ (List.mem_of_getElem? (i := 119) rfl)) (lenOf pd_12 rfl) (by simp) (W := 0) rfl (by decide) (by decide) (by decide) (by decide)
    rw [hh] at c
    replace c := c [] (by simp)
    replace c : OAt G K M_law [a, ca] 12 148 h9 348 #[.val (.int x0), .val (.int x1), .val (.int x2), .val (.int x3), .val (.int x4), .val (.int b0), .val (.ref b), .val (.int (((x1 &&& 2147483647) % 3) - 1)), .val (.int (Int32.ofNat n)), .val (.int ch), .val (.ref ca), .val (.int d), .val (.ref a), .val (.ref p0), .unset] [.ref p0] := c
    replace c := c.cast 351 at_348 (hG.1 _ (List.mem_of_getElem? (i := 140) rfl)) (Ins.self (X0.ext c.old.2))
    replace c := c.astore 353 at_351 rfl #[.val (.int x0), .val (.int x1), .val (.int x2), .val (.int x3), .val (.int x4), .val (.int b0), .val (.ref b), .val (.int (((x1 &&& 2147483647) % 3) - 1)), .val (.int (Int32.ofNat n)), .val (.int ch), .val (.ref ca), .val (.int d), .val (.ref a), .val (.ref p0), .val (.ref p0)] rfl
    replace c := c.aload 355 at_353 rfl rfl
    replace c := c.aload 357 at_355 rfl rfl
    replace c := c.acF 360 at_357 rfl rfl (by simp [Jvm.Free.XT.acmp])
    replace c := c.iconst 361 at_360 1 (by decide)
    replace c := c.goto 365 at_361
    exact c.reti (t := .boolean) at_365 rfl rfl (by simp) (fun sf hs => rfl) (by decide) (by decide)
  · skip
    replace c := c.ifT 304 at_295 (own_if_eq_t (by rw [if_neg t0]))
    replace c := c.aload 306 at_304 rfl rfl
    obtain ⟨e1, b_e1, h_e1, x_e1, E_e1, C_e1, V_e1, Y_e1, N_e1, c⟩ := c.ldcS 308 at_306 (hG.1 _ (List.mem_of_getElem? (i := 83) rfl)) (own_sa hG) (own_el_1 hG) [.int 97, .int 102, .int 116, .int 101, .int 114, .int 45, .int 97, .int 99, .int 99, .int 101, .int 112, .int 116] (by decide) (by decide) 48 (by decide) (by decide) (by decide) (by decide)
    have L1 : Str G.Z h_e1 e1 [97, 102, 116, 101, 114, 45, 97, 99, 99, 101, 112, 116] := own_strlit E_e1 C_e1 V_e1 Y_e1 (by unfold Lat; decide) (by decide)
    have S1xx := S1x.ext x_e1
    obtain ⟨v, h5, sf, ⟨hv, hh⟩, c⟩ := c.callV (y := (⟨"java/lang/String", "equals", "(Ljava/lang/Object;)Z"⟩ : MethodName)) (z := y_seq) (C := "java/lang/String") (a := a) (argsL := [.ref e1]) (rest := []) 311 at_308 (con_seq hG S1xx L1) rfl S1xx.exa (hG.1 _ (List.mem_of_getElem? (i := 74) rfl)) (hG.1 _ (List.mem_of_getElem? (i := 75) rfl)) (own_nf (hG.1 _ (List.mem_of_getElem? (i := 77) rfl))) (hG.1 _ (List.mem_of_getElem? (i := 77) rfl)) (hG.1 _ (List.mem_of_getElem? (i := 76) rfl)) (hG.1 _ (List.mem_of_getElem? (i := 2) rfl)) (hG.1 _ (List.mem_of_getElem? (i := 78) rfl)) (lenOf pd_15 rfl) (by simp) (W := 0) rfl (by decide) (by decide) (by decide) (by decide)
    subst hv
    rw [hh] at c
    replace c := c [] (by simp)
    replace c : OAt G K M_law [a, ca] 12 196 h_e1 311 #[.val (.int x0), .val (.int x1), .val (.int x2), .val (.int x3), .val (.int x4), .val (.int b0), .val (.ref b), .val (.int (((x1 &&& 2147483647) % 3) - 1)), .val (.int (Int32.ofNat n)), .val (.int ch), .val (.ref ca), .val (.int d), .val (.ref a), .unset, .unset] [.int (if cs' = [97, 102, 116, 101, 114, 45, 97, 99, 99, 101, 112, 116] then 1 else 0)] := c
    by_cases t1 : cs' = [97, 102, 116, 101, 114, 45, 97, 99, 99, 101, 112, 116]
    · skip
      replace c := c.ifF 314 at_311 (own_if_eq_f (by rw [if_pos t1]; decide))
      replace c := c.getS 317 at_314 (hG.1 _ (List.mem_of_getElem? (i := 125) rfl)) A1
      replace c := c.goto 337 at_317
      replace c := c.astore 339 at_337 rfl #[.val (.int x0), .val (.int x1), .val (.int x2), .val (.int x3), .val (.int x4), .val (.int b0), .val (.ref b), .val (.int (((x1 &&& 2147483647) % 3) - 1)), .val (.int (Int32.ofNat n)), .val (.int ch), .val (.ref ca), .val (.int d), .val (.ref a), .val (.ref p1), .unset] rfl
      replace c := c.aload 341 at_339 rfl rfl
      obtain ⟨v, h9, sf, ⟨o, X, rfl, KN, EO, FO, hpt⟩, c⟩ := c.callS (y := y_named) (argsL := [.ref a]) (rest := []) 344 at_341 (con_named hG Pv S1xx) rfl (hG.1 _ (List.mem_of_getElem? (i := 85) rfl)) (hG.1 _ (List.mem_of_getElem? (i := 86) rfl)) (hG.1 _ (List.mem_of_getElem? (i := 87) rfl)) (hG.1 _ (List.mem_of_getElem? (i := 88) rfl)) (lenOf pd_21 rfl) (by simp) (W := 0) rfl (by decide) (by decide) (by decide) (by decide)
      replace c := c [] (by simp)
      replace c : OAt G K M_law [a, ca] 14 200 h9 344 #[.val (.int x0), .val (.int x1), .val (.int x2), .val (.int x3), .val (.int x4), .val (.int b0), .val (.ref b), .val (.int (((x1 &&& 2147483647) % 3) - 1)), .val (.int (Int32.ofNat n)), .val (.int ch), .val (.ref ca), .val (.int d), .val (.ref a), .val (.ref p1), .unset] [.ref o] := c
      replace c := c.aconstNull 345 at_344
      have hX : X = .ref p1 := by
        rcases hpt with ⟨e, hX⟩ | ⟨n0, e, hX⟩ | ⟨n0, n1, e, hX⟩ | ⟨n0, n1, n2, hX⟩
        · exact absurd e t0
        · exact hX
        · exact absurd t1 n1
        · exact absurd t1 n1
      subst hX
      obtain ⟨v, h10, sf, ⟨rfl, hh⟩, c⟩ := c.callV (y := (⟨"java/util/Optional", "orElse", "(Ljava/lang/Object;)Ljava/lang/Object;"⟩ : MethodName)) (z := y_orR) (C := "java/util/Optional") (a := o) (argsL := [.null]) (rest := []) 348 at_345 (con_orR hG (a := p1) FO) rfl EO (hG.1 _ (List.mem_of_getElem? (i := 115) rfl)) (hG.1 _ (List.mem_of_getElem? (i := 116) rfl)) (own_nf (hG.1 _ (List.mem_of_getElem? (i := 118) rfl))) (hG.1 _ (List.mem_of_getElem? (i := 118) rfl)) (hG.1 _ (List.mem_of_getElem? (i := 117) rfl)) (hG.1 _ (List.mem_of_getElem? (i := 112) rfl)) (hG.1 _ (List.mem_of_getElem? (i := 119) rfl)) (lenOf pd_12 rfl) (by simp) (W := 0) rfl (by decide) (by decide) (by decide) (by decide)
      rw [hh] at c
      replace c := c [] (by simp)
      replace c : OAt G K M_law [a, ca] 14 200 h9 348 #[.val (.int x0), .val (.int x1), .val (.int x2), .val (.int x3), .val (.int x4), .val (.int b0), .val (.ref b), .val (.int (((x1 &&& 2147483647) % 3) - 1)), .val (.int (Int32.ofNat n)), .val (.int ch), .val (.ref ca), .val (.int d), .val (.ref a), .val (.ref p1), .unset] [.ref p1] := c
      replace c := c.cast 351 at_348 (hG.1 _ (List.mem_of_getElem? (i := 140) rfl)) (Ins.self (X1.ext c.old.2))
      replace c := c.astore 353 at_351 rfl #[.val (.int x0), .val (.int x1), .val (.int x2), .val (.int x3), .val (.int x4), .val (.int b0), .val (.ref b), .val (.int (((x1 &&& 2147483647) % 3) - 1)), .val (.int (Int32.ofNat n)), .val (.int ch), .val (.ref ca), .val (.int d), .val (.ref a), .val (.ref p1), .val (.ref p1)] rfl
      replace c := c.aload 355 at_353 rfl rfl
      replace c := c.aload 357 at_355 rfl rfl
      replace c := c.acF 360 at_357 rfl rfl (by simp [Jvm.Free.XT.acmp])
      replace c := c.iconst 361 at_360 1 (by decide)
      replace c := c.goto 365 at_361
      exact c.reti (t := .boolean) at_365 rfl rfl (by simp) (fun sf hs => rfl) (by decide) (by decide)
    · skip
      replace c := c.ifT 320 at_311 (own_if_eq_t (by rw [if_neg t1]))
      replace c := c.aload 322 at_320 rfl rfl
      obtain ⟨e2, b_e2, h_e2, x_e2, E_e2, C_e2, V_e2, Y_e2, N_e2, c⟩ := c.ldcS 324 at_322 (hG.1 _ (List.mem_of_getElem? (i := 84) rfl)) (own_sa hG) (own_el_2 hG) [.int 97, .int 102, .int 116, .int 101, .int 114, .int 45, .int 100, .int 101, .int 99, .int 105, .int 100, .int 101] (by decide) (by decide) 48 (by decide) (by decide) (by decide) (by decide)
      have L2 : Str G.Z h_e2 e2 [97, 102, 116, 101, 114, 45, 100, 101, 99, 105, 100, 101] := own_strlit E_e2 C_e2 V_e2 Y_e2 (by unfold Lat; decide) (by decide)
      have S1xxx := S1xx.ext x_e2
      obtain ⟨v, h5, sf, ⟨hv, hh⟩, c⟩ := c.callV (y := (⟨"java/lang/String", "equals", "(Ljava/lang/Object;)Z"⟩ : MethodName)) (z := y_seq) (C := "java/lang/String") (a := a) (argsL := [.ref e2]) (rest := []) 327 at_324 (con_seq hG S1xxx L2) rfl S1xxx.exa (hG.1 _ (List.mem_of_getElem? (i := 74) rfl)) (hG.1 _ (List.mem_of_getElem? (i := 75) rfl)) (own_nf (hG.1 _ (List.mem_of_getElem? (i := 77) rfl))) (hG.1 _ (List.mem_of_getElem? (i := 77) rfl)) (hG.1 _ (List.mem_of_getElem? (i := 76) rfl)) (hG.1 _ (List.mem_of_getElem? (i := 2) rfl)) (hG.1 _ (List.mem_of_getElem? (i := 78) rfl)) (lenOf pd_15 rfl) (by simp) (W := 0) rfl (by decide) (by decide) (by decide) (by decide)
      subst hv
      rw [hh] at c
      replace c := c [] (by simp)
      replace c : OAt G K M_law [a, ca] 14 248 h_e2 327 #[.val (.int x0), .val (.int x1), .val (.int x2), .val (.int x3), .val (.int x4), .val (.int b0), .val (.ref b), .val (.int (((x1 &&& 2147483647) % 3) - 1)), .val (.int (Int32.ofNat n)), .val (.int ch), .val (.ref ca), .val (.int d), .val (.ref a), .unset, .unset] [.int (if cs' = [97, 102, 116, 101, 114, 45, 100, 101, 99, 105, 100, 101] then 1 else 0)] := c
      by_cases t2 : cs' = [97, 102, 116, 101, 114, 45, 100, 101, 99, 105, 100, 101]
      · skip
        replace c := c.ifF 330 at_327 (own_if_eq_f (by rw [if_pos t2]; decide))
        replace c := c.getS 333 at_330 (hG.1 _ (List.mem_of_getElem? (i := 143) rfl)) A2
        replace c := c.goto 337 at_333
        replace c := c.astore 339 at_337 rfl #[.val (.int x0), .val (.int x1), .val (.int x2), .val (.int x3), .val (.int x4), .val (.int b0), .val (.ref b), .val (.int (((x1 &&& 2147483647) % 3) - 1)), .val (.int (Int32.ofNat n)), .val (.int ch), .val (.ref ca), .val (.int d), .val (.ref a), .val (.ref p2), .unset] rfl
        replace c := c.aload 341 at_339 rfl rfl
        obtain ⟨v, h9, sf, ⟨o, X, rfl, KN, EO, FO, hpt⟩, c⟩ := c.callS (y := y_named) (argsL := [.ref a]) (rest := []) 344 at_341 (con_named hG Pv S1xxx) rfl (hG.1 _ (List.mem_of_getElem? (i := 85) rfl)) (hG.1 _ (List.mem_of_getElem? (i := 86) rfl)) (hG.1 _ (List.mem_of_getElem? (i := 87) rfl)) (hG.1 _ (List.mem_of_getElem? (i := 88) rfl)) (lenOf pd_21 rfl) (by simp) (W := 0) rfl (by decide) (by decide) (by decide) (by decide)
        replace c := c [] (by simp)
        replace c : OAt G K M_law [a, ca] 16 252 h9 344 #[.val (.int x0), .val (.int x1), .val (.int x2), .val (.int x3), .val (.int x4), .val (.int b0), .val (.ref b), .val (.int (((x1 &&& 2147483647) % 3) - 1)), .val (.int (Int32.ofNat n)), .val (.int ch), .val (.ref ca), .val (.int d), .val (.ref a), .val (.ref p2), .unset] [.ref o] := c
        replace c := c.aconstNull 345 at_344
        have hX : X = .ref p2 := by
          rcases hpt with ⟨e, hX⟩ | ⟨n0, e, hX⟩ | ⟨n0, n1, e, hX⟩ | ⟨n0, n1, n2, hX⟩
          · exact absurd e t0
          · exact absurd e t1
          · exact hX
          · exact absurd t2 n2
        subst hX
        obtain ⟨v, h10, sf, ⟨rfl, hh⟩, c⟩ := c.callV (y := (⟨"java/util/Optional", "orElse", "(Ljava/lang/Object;)Ljava/lang/Object;"⟩ : MethodName)) (z := y_orR) (C := "java/util/Optional") (a := o) (argsL := [.null]) (rest := []) 348 at_345 (con_orR hG (a := p2) FO) rfl EO (hG.1 _ (List.mem_of_getElem? (i := 115) rfl)) (hG.1 _ (List.mem_of_getElem? (i := 116) rfl)) (own_nf (hG.1 _ (List.mem_of_getElem? (i := 118) rfl))) (hG.1 _ (List.mem_of_getElem? (i := 118) rfl)) (hG.1 _ (List.mem_of_getElem? (i := 117) rfl)) (hG.1 _ (List.mem_of_getElem? (i := 112) rfl)) (hG.1 _ (List.mem_of_getElem? (i := 119) rfl)) (lenOf pd_12 rfl) (by simp) (W := 0) rfl (by decide) (by decide) (by decide) (by decide)
        rw [hh] at c
        replace c := c [] (by simp)
        replace c : OAt G K M_law [a, ca] 16 252 h9 348 #[.val (.int x0), .val (.int x1), .val (.int x2), .val (.int x3), .val (.int x4), .val (.int b0), .val (.ref b), .val (.int (((x1 &&& 2147483647) % 3) - 1)), .val (.int (Int32.ofNat n)), .val (.int ch), .val (.ref ca), .val (.int d), .val (.ref a), .val (.ref p2), .unset] [.ref p2] := c
        replace c := c.cast 351 at_348 (hG.1 _ (List.mem_of_getElem? (i := 140) rfl)) (Ins.self (X2.ext c.old.2))
        replace c := c.astore 353 at_351 rfl #[.val (.int x0), .val (.int x1), .val (.int x2), .val (.int x3), .val (.int x4), .val (.int b0), .val (.ref b), .val (.int (((x1 &&& 2147483647) % 3) - 1)), .val (.int (Int32.ofNat n)), .val (.int ch), .val (.ref ca), .val (.int d), .val (.ref a), .val (.ref p2), .val (.ref p2)] rfl
        replace c := c.aload 355 at_353 rfl rfl
        replace c := c.aload 357 at_355 rfl rfl
        replace c := c.acF 360 at_357 rfl rfl (by simp [Jvm.Free.XT.acmp])
        replace c := c.iconst 361 at_360 1 (by decide)
        replace c := c.goto 365 at_361
        exact c.reti (t := .boolean) at_365 rfl rfl (by simp) (fun sf hs => rfl) (by decide) (by decide)
      · skip
        replace c := c.ifT 336 at_327 (own_if_eq_t (by rw [if_neg t2]))
        replace c := c.aconstNull 337 at_336
        replace c := c.astore 339 at_337 rfl #[.val (.int x0), .val (.int x1), .val (.int x2), .val (.int x3), .val (.int x4), .val (.int b0), .val (.ref b), .val (.int (((x1 &&& 2147483647) % 3) - 1)), .val (.int (Int32.ofNat n)), .val (.int ch), .val (.ref ca), .val (.int d), .val (.ref a), .val (.null), .unset] rfl
        replace c := c.aload 341 at_339 rfl rfl
        obtain ⟨v, h9, sf, ⟨o, X, rfl, KN, EO, FO, hpt⟩, c⟩ := c.callS (y := y_named) (argsL := [.ref a]) (rest := []) 344 at_341 (con_named hG Pv S1xxx) rfl (hG.1 _ (List.mem_of_getElem? (i := 85) rfl)) (hG.1 _ (List.mem_of_getElem? (i := 86) rfl)) (hG.1 _ (List.mem_of_getElem? (i := 87) rfl)) (hG.1 _ (List.mem_of_getElem? (i := 88) rfl)) (lenOf pd_21 rfl) (by simp) (W := 0) rfl (by decide) (by decide) (by decide) (by decide)
        replace c := c [] (by simp)
        replace c : OAt G K M_law [a, ca] 16 252 h9 344 #[.val (.int x0), .val (.int x1), .val (.int x2), .val (.int x3), .val (.int x4), .val (.int b0), .val (.ref b), .val (.int (((x1 &&& 2147483647) % 3) - 1)), .val (.int (Int32.ofNat n)), .val (.int ch), .val (.ref ca), .val (.int d), .val (.ref a), .val (.null), .unset] [.ref o] := c
        replace c := c.aconstNull 345 at_344
        have hX : X = .null := by
          rcases hpt with ⟨e, hX⟩ | ⟨n0, e, hX⟩ | ⟨n0, n1, e, hX⟩ | ⟨n0, n1, n2, hX⟩
          · exact absurd e t0
          · exact absurd e t1
          · exact absurd e t2
          · exact hX
        subst hX
        obtain ⟨v, h10, sf, ⟨rfl, hh⟩, c⟩ := c.callV (y := (⟨"java/util/Optional", "orElse", "(Ljava/lang/Object;)Ljava/lang/Object;"⟩ : MethodName)) (z := y_orN) (C := "java/util/Optional") (a := o) (argsL := [.null]) (rest := []) 348 at_345 (con_orN hG FO) rfl EO (hG.1 _ (List.mem_of_getElem? (i := 115) rfl)) (hG.1 _ (List.mem_of_getElem? (i := 116) rfl)) (own_nf (hG.1 _ (List.mem_of_getElem? (i := 118) rfl))) (hG.1 _ (List.mem_of_getElem? (i := 118) rfl)) (hG.1 _ (List.mem_of_getElem? (i := 117) rfl)) (hG.1 _ (List.mem_of_getElem? (i := 112) rfl)) (hG.1 _ (List.mem_of_getElem? (i := 119) rfl)) (lenOf pd_12 rfl) (by simp) (W := 0) rfl (by decide) (by decide) (by decide) (by decide)
        rw [hh] at c
        replace c := c [] (by simp)
        replace c : OAt G K M_law [a, ca] 16 252 h9 348 #[.val (.int x0), .val (.int x1), .val (.int x2), .val (.int x3), .val (.int x4), .val (.int b0), .val (.ref b), .val (.int (((x1 &&& 2147483647) % 3) - 1)), .val (.int (Int32.ofNat n)), .val (.int ch), .val (.ref ca), .val (.int d), .val (.ref a), .val (.null), .unset] [.null] := c
        replace c := c.castN 351 at_348
        replace c := c.astore 353 at_351 rfl #[.val (.int x0), .val (.int x1), .val (.int x2), .val (.int x3), .val (.int x4), .val (.int b0), .val (.ref b), .val (.int (((x1 &&& 2147483647) % 3) - 1)), .val (.int (Int32.ofNat n)), .val (.int ch), .val (.ref ca), .val (.int d), .val (.ref a), .val (.null), .val (.null)] rfl
        replace c := c.aload 355 at_353 rfl rfl
        replace c := c.aload 357 at_355 rfl rfl
        replace c := c.acF 360 at_357 rfl rfl (by simp [Jvm.Free.XT.acmp])
        replace c := c.iconst 361 at_360 1 (by decide)
        replace c := c.goto 365 at_361
        exact c.reti (t := .boolean) at_365 rfl rfl (by simp) (fun sf hs => rfl) (by decide) (by decide)
theorem own_list {c : Cell} {vs : List Value} (hs : c.slots.size = vs.length) (h : ∀ j, j < vs.length → c.slots[j]? = vs[j]?) : c.slots.toList = vs := by
  apply List.ext_getElem?
  intro j
  by_cases q : j < vs.length
  · rw [Array.getElem?_toList]; exact h j q
  · rw [List.getElem?_eq_none (by simp; omega), List.getElem?_eq_none (by omega)]
theorem own_size {args : Array Value} {s : State} {t : Term} {a : Addr} {c : Cell} {ty : FieldType} {n : Int32} (ev : t.eval args s none [] s = some (.ref a)) (A : Arr s s.heap a c ty) (h : (Term.length t).eval args s none [] s = some (.int n)) : c.slots.size = n.toNatClampNeg ∧ c.slots.size < 2147483648 := by
  obtain ⟨a', c', e1, e2, -⟩ := Term.length_spec h
  cases ev.symm.trans e1
  have hat : s.arrayAt? a = some c := Arr.fin (Vm.Alike.refl _) A
  cases hat.symm.trans e2
  have h31 : c.slots.size < 2147483648 := Jvm.Free.SBG.length_lt ev hat h
  have e := len_f ev hat h31
  rw [h] at e
  have e3 : n = c.slots.size.toInt32 := by simpa using e
  refine ⟨?_, h31⟩
  rw [e3]; simp only [Int32.toNatClampNeg]; rw [len_toInt (by omega)]; simp
theorem own_elemR {args : Array Value} {s : State} {t u : Term} {a p : Addr} {c : Cell} {i : Int32} (ht : t.eval args s none [] s = some (.ref a)) (hp : u.eval args s none [] s = some (.ref p)) (hc : s.heap[a]? = some c) (h : (Jvm.Cond.eq (.elem t (.int i)) u).value args s none s [] = some true) : c.slots[i.toNatClampNeg]? = some (.ref p) := by
  obtain ⟨x, y, h1, h2, h3, h4⟩ := cmp_v (Or.inl h)
  rw [hp] at h2; cases h2
  have hx : x.isRef = true := h4.2
  have e := gotT (eq_R h1 hp hx rfl) h
  subst e
  exact (elem_in h1 ht rfl hc).2
theorem own_elemI {args : Array Value} {s : State} {t : Term} {a : Addr} {c : Cell} {i b : Int32} (ht : t.eval args s none [] s = some (.ref a)) (hc : s.heap[a]? = some c) (h : (Jvm.Cond.eq (.elem t (.int i)) (.int b)).value args s none s [] = some true) : c.slots[i.toNatClampNeg]? = some (.int b) :=
  (elem_in (Cond.eq_int (Cond.before_iff.mpr h) rfl) ht rfl hc).2
set_option maxRecDepth 65536 in
set_option maxHeartbeats 4000000 in
theorem comes_1 {Post : Tables → Env → Array Value → State → Outcome → State → Prop} (hpost : ∀ tb e args s v u, (limb_1_1.after args s (.returned v) u = true ∧ limb_1_2.after args s (.returned v) u = true ∧ True) → ReturnedEndW s (.returned v) u (Jvm.fieldLocs frame_1_writes args s ++ Jvm.arrayLocs frame_1_arrays args s ++ Jvm.staticLocs frame_1_statics s) 32 6336 → Post tb e args s (.returned v) u) :
    ArmFor flags0 classFile x code maxLocals ret World_1 tables_1 room_1 Calls_1 rest_1 Pre_1 Post := by
  intro l hfl _ _ p e ha hc hk s m args below hf hA hF happ hP
  obtain ⟨hcalls, hrest, hpre⟩ := hP
  obtain ⟨-, -, -, hnamed, -, -, -, hat⟩ := (Spec.applies_iff hf).mp happ
  obtain ⟨hg, hn⟩ := and_e (Cond.before_iff.mp (show (Jvm.Cond.and given_1 narrow_1).before args s = true from hpre))
  obtain ⟨hc0, hr0⟩ := and_e hg
  obtain ⟨ha0, hr1⟩ := and_e hr0
  obtain ⟨ha1, hr2⟩ := and_e hr1
  obtain ⟨ha2, hr3⟩ := and_e hr2
  obtain ⟨ha3, hr4⟩ := and_e hr3
  have ha4 := hr4
  obtain ⟨w0, w1, w2, w3, w4, rfl⟩ : ∃ w0 w1 w2 w3 w4 : Value, args = #[w0, w1, w2, w3, w4] := by
    have hs : args.size = 5 := by simpa [Cond.value, given_1] using hc0
    obtain ⟨L⟩ := args
    match L, hs with
    | [w0, w1, w2, w3, w4], _ => exact ⟨w0, w1, w2, w3, w4, rfl⟩
  have hw := fun d (hd : d ∈ tables_1) => atoms_spec (ws := Jvm.Cond.code x code maxLocals ret :: tables_1) hat d (List.mem_cons_of_mem _ hd)
  obtain ⟨hsets, hown0⟩ := atoms_of _ (rest_1_c_eq ▸ (show rest_1_c.before _ s = true from hrest))
  have hfit : Fit s := fun {y c} hc i hi => by
    obtain ⟨ha, rfl⟩ := Array.getElem?_eq_some_iff.mp hc
    have q := List.all_eq_true.mp ((Array.all_eq_true_iff_forall_mem.mp hF) _ (Array.getElem_mem ha)) i (List.mem_range.mpr hi)
    simpa [Array.getElem?_eq_getElem hi] using q
  obtain ⟨i0, e0⟩ := is_v ha0
  obtain rfl : w0 = (.int i0) := Option.some.inj e0
  obtain ⟨i1, e1⟩ := is_v ha1
  obtain rfl : w1 = (.int i1) := Option.some.inj e1
  obtain ⟨i2, e2⟩ := is_v ha2
  obtain rfl : w2 = (.int i2) := Option.some.inj e2
  obtain ⟨i3, e3⟩ := is_v ha3
  obtain rfl : w3 = (.int i3) := Option.some.inj e3
  obtain ⟨i4, e4⟩ := is_v ha4
  obtain rfl : w4 = (.int i4) := Option.some.inj e4
  obtain ⟨iz, ez⟩ := is_v (Cond.before_iff.mp (hsets _ (List.mem_of_getElem? (i := 1) rfl)))
  have Sz : Sta s s.heap "java/lang/String" "COMPACT_STRINGS" "Z" (.int iz) := Sta.start ez (Or.inl (hsets _ (List.mem_of_getElem? (i := 0) rfl)))
  have nz : ¬ (iz = (0 : Int32)) := gotF (Cond.eq_ints ez (Term.int_eval (0))) (not_v (Cond.before_iff.mp (hsets _ (List.mem_of_getElem? (i := 2) rfl))))
  obtain ⟨vf, ef, rf⟩ := isR_v (Cond.before_iff.mp (hsets _ (List.mem_of_getElem? (i := 8) rfl)))
  have Sf : Sta s s.heap "jdk/internal/util/Preconditions" "SIOOBE_FORMATTER" "Ljava/util/function/BiFunction;" vf := Sta.start ef (Or.inl (hsets _ (List.mem_of_getElem? (i := 7) rfl)))
  obtain ⟨ee, eee⟩ := exa_v (Cond.before_iff.mp (hsets _ (List.mem_of_getElem? (i := 11) rfl)))
  have Ee := Exa.start eee (Cond.before_iff.mp (hsets _ (List.mem_of_getElem? (i := 11) rfl)))
  have Fe : Fld s s.heap ee "java/util/Optional" "value" "Ljava/lang/Object;" .null := Fld.start (by rw [← fld_at eee]; exact null_v (Cond.before_iff.mp (hsets _ (List.mem_of_getElem? (i := 12) rfl))))
  have hnn := hn
  obtain ⟨n0, hnn⟩ := and_e hnn
  obtain ⟨n1, hnn⟩ := and_e hnn
  obtain ⟨n2, hnn⟩ := and_e hnn
  obtain ⟨n3, hnn⟩ := and_e hnn
  obtain ⟨n4, hnn⟩ := and_e hnn
  obtain ⟨n5, hnn⟩ := and_e hnn
  obtain ⟨n6, hnn⟩ := and_e hnn
  obtain ⟨n7, hnn⟩ := and_e hnn
  obtain ⟨n8, hnn⟩ := and_e hnn
  obtain ⟨n9, hnn⟩ := and_e hnn
  obtain ⟨n10, hnn⟩ := and_e hnn
  obtain ⟨n11, hnn⟩ := and_e hnn
  obtain ⟨n12, hnn⟩ := and_e hnn
  obtain ⟨n13, hnn⟩ := and_e hnn
  obtain ⟨n14, hnn⟩ := and_e hnn
  obtain ⟨n15, hnn⟩ := and_e hnn
  obtain ⟨n16, hnn⟩ := and_e hnn
  obtain ⟨n17, hnn⟩ := and_e hnn
  obtain ⟨n18, hnn⟩ := and_e hnn
  obtain ⟨n19, hnn⟩ := and_e hnn
  obtain ⟨n20, hnn⟩ := and_e hnn
  obtain ⟨n21, hnn⟩ := and_e hnn
  obtain ⟨n22, hnn⟩ := and_e hnn
  obtain ⟨n23, hnn⟩ := and_e hnn
  obtain ⟨n24, hnn⟩ := and_e hnn
  obtain ⟨n25, hnn⟩ := and_e hnn
  obtain ⟨n26, hnn⟩ := and_e hnn
  obtain ⟨n27, hnn⟩ := and_e hnn
  obtain ⟨n28, hnn⟩ := and_e hnn
  obtain ⟨n29, hnn⟩ := and_e hnn
  obtain ⟨n30, hnn⟩ := and_e hnn
  obtain ⟨n31, hnn⟩ := and_e hnn
  obtain ⟨n32, hnn⟩ := and_e hnn
  obtain ⟨n33, hnn⟩ := and_e hnn
  obtain ⟨n34, hnn⟩ := and_e hnn
  obtain ⟨n35, hnn⟩ := and_e hnn
  obtain ⟨n36, hnn⟩ := and_e hnn
  obtain ⟨n37, hnn⟩ := and_e hnn
  obtain ⟨n38, hnn⟩ := and_e hnn
  obtain ⟨n39, hnn⟩ := and_e hnn
  obtain ⟨n40, hnn⟩ := and_e hnn
  obtain ⟨n41, hnn⟩ := and_e hnn
  obtain ⟨n42, hnn⟩ := and_e hnn
  obtain ⟨n43, hnn⟩ := and_e hnn
  obtain ⟨n44, hnn⟩ := and_e hnn
  obtain ⟨n45, hnn⟩ := and_e hnn
  obtain ⟨n46, hnn⟩ := and_e hnn
  obtain ⟨n47, hnn⟩ := and_e hnn
  obtain ⟨n48, hnn⟩ := and_e hnn
  obtain ⟨n49, hnn⟩ := and_e hnn
  obtain ⟨n50, hnn⟩ := and_e hnn
  obtain ⟨n51, hnn⟩ := and_e hnn
  obtain ⟨n52, hnn⟩ := and_e hnn
  obtain ⟨n53, hnn⟩ := and_e hnn
  obtain ⟨n54, hnn⟩ := and_e hnn
  obtain ⟨n55, hnn⟩ := and_e hnn
  obtain ⟨n56, hnn⟩ := and_e hnn
  have n57 := hnn
  obtain ⟨vals, ev⟩ := arr_v n0
  obtain ⟨cv, Av⟩ := Arr.start ev n0
  have Ev := Exa.start ev n1
  have lv := own_size ev Av (Cond.eq_int (Cond.before_iff.mpr n2) rfl)
  obtain ⟨p0, ep0⟩ := exa_v n3
  have X0 := Exa.start ep0 n3
  have q0 := own_elemR ev ep0 Av.1 n4
  obtain ⟨p1, ep1⟩ := exa_v n5
  have X1 := Exa.start ep1 n5
  have q1 := own_elemR ev ep1 Av.1 n6
  obtain ⟨p2, ep2⟩ := exa_v n7
  have X2 := Exa.start ep2 n7
  have q2 := own_elemR ev ep2 Av.1 n8
  have Lv : cv.slots.toList = [.ref p0, .ref p1, .ref p2] := by
    refine own_list lv.1 (fun j hj => ?_)
    have h3 : j = 0 ∨ j = 1 ∨ j = 2 := by (have h' : j < 3 := hj; omega)
    rcases h3 with rfl | rfl | rfl
    · exact q0
    · exact q1
    · exact q2
  have Yv : Ary s s.heap vals (.object "com/example/mimico/mimico/agreement/Halt$Point") [.ref p0, .ref p1, .ref p2] := ⟨cv, Av, Lv, by simp, fun v hv => by simp only [List.mem_cons, List.not_mem_nil, or_false] at hv; rcases hv with rfl | rfl | rfl <;> rfl⟩
  obtain ⟨l0, el0⟩ := exa_v n9
  have Fl0 : Fld s s.heap p0 "com/example/mimico/mimico/agreement/Halt$Point" "label" "Ljava/lang/String;" (.ref l0) := Fld.start (by rw [← fld_at ep0]; exact el0)
  have Xl0 := Exa.start el0 n9
  have Cl0 : Fld s s.heap l0 "java/lang/String" "coder" "B" (.int 0) := Fld.start (by rw [← fld_at el0]; exact Cond.eq_int (Cond.before_iff.mpr n10) rfl)
  obtain ⟨y0, ey0⟩ := arr_v n11
  have Vl0 : Fld s s.heap l0 "java/lang/String" "value" "[B" (.ref y0) := Fld.start (by rw [← fld_at el0]; exact ey0)
  obtain ⟨cy0, Ay0⟩ := Arr.start ey0 n11
  have ly0 := own_size ey0 Ay0 (Cond.eq_int (Cond.before_iff.mpr n12) rfl)
  have z0_0 := own_elemI ey0 Ay0.1 n21
  have z0_1 := own_elemI ey0 Ay0.1 n22
  have z0_2 := own_elemI ey0 Ay0.1 n23
  have z0_3 := own_elemI ey0 Ay0.1 n24
  have z0_4 := own_elemI ey0 Ay0.1 n25
  have z0_5 := own_elemI ey0 Ay0.1 n26
  have z0_6 := own_elemI ey0 Ay0.1 n27
  have z0_7 := own_elemI ey0 Ay0.1 n28
  have z0_8 := own_elemI ey0 Ay0.1 n29
  have z0_9 := own_elemI ey0 Ay0.1 n30
  have z0_10 := own_elemI ey0 Ay0.1 n31
  have z0_11 := own_elemI ey0 Ay0.1 n32
  have z0_12 := own_elemI ey0 Ay0.1 n33
  have Ll0 : cy0.slots.toList = [.int 97, .int 102, .int 116, .int 101, .int 114, .int 45, .int 99, .int 111, .int 108, .int 108, .int 101, .int 99, .int 116] := by
    refine own_list ly0.1 (fun j hj => ?_)
    have h3 : j = 0 ∨ j = 1 ∨ j = 2 ∨ j = 3 ∨ j = 4 ∨ j = 5 ∨ j = 6 ∨ j = 7 ∨ j = 8 ∨ j = 9 ∨ j = 10 ∨ j = 11 ∨ j = 12 := by (have h' : j < 13 := hj; omega)
    rcases h3 with rfl | rfl | rfl | rfl | rfl | rfl | rfl | rfl | rfl | rfl | rfl | rfl | rfl
    · exact z0_0
    · exact z0_1
    · exact z0_2
    · exact z0_3
    · exact z0_4
    · exact z0_5
    · exact z0_6
    · exact z0_7
    · exact z0_8
    · exact z0_9
    · exact z0_10
    · exact z0_11
    · exact z0_12
  have Yl0 : Ary s s.heap y0 .byte [.int 97, .int 102, .int 116, .int 101, .int 114, .int 45, .int 99, .int 111, .int 108, .int 108, .int 101, .int 99, .int 116] := ⟨cy0, Ay0, Ll0, by simp, by decide⟩
  have Sl0 : Str s s.heap l0 [97, 102, 116, 101, 114, 45, 99, 111, 108, 108, 101, 99, 116] := own_strlit Xl0 Cl0 Vl0 Yl0 (by unfold Lat; decide) (by decide)
  obtain ⟨l1, el1⟩ := exa_v n13
  have Fl1 : Fld s s.heap p1 "com/example/mimico/mimico/agreement/Halt$Point" "label" "Ljava/lang/String;" (.ref l1) := Fld.start (by rw [← fld_at ep1]; exact el1)
  have Xl1 := Exa.start el1 n13
  have Cl1 : Fld s s.heap l1 "java/lang/String" "coder" "B" (.int 0) := Fld.start (by rw [← fld_at el1]; exact Cond.eq_int (Cond.before_iff.mpr n14) rfl)
  obtain ⟨y1, ey1⟩ := arr_v n15
  have Vl1 : Fld s s.heap l1 "java/lang/String" "value" "[B" (.ref y1) := Fld.start (by rw [← fld_at el1]; exact ey1)
  obtain ⟨cy1, Ay1⟩ := Arr.start ey1 n15
  have ly1 := own_size ey1 Ay1 (Cond.eq_int (Cond.before_iff.mpr n16) rfl)
  have z1_0 := own_elemI ey1 Ay1.1 n34
  have z1_1 := own_elemI ey1 Ay1.1 n35
  have z1_2 := own_elemI ey1 Ay1.1 n36
  have z1_3 := own_elemI ey1 Ay1.1 n37
  have z1_4 := own_elemI ey1 Ay1.1 n38
  have z1_5 := own_elemI ey1 Ay1.1 n39
  have z1_6 := own_elemI ey1 Ay1.1 n40
  have z1_7 := own_elemI ey1 Ay1.1 n41
  have z1_8 := own_elemI ey1 Ay1.1 n42
  have z1_9 := own_elemI ey1 Ay1.1 n43
  have z1_10 := own_elemI ey1 Ay1.1 n44
  have z1_11 := own_elemI ey1 Ay1.1 n45
  have Ll1 : cy1.slots.toList = [.int 97, .int 102, .int 116, .int 101, .int 114, .int 45, .int 97, .int 99, .int 99, .int 101, .int 112, .int 116] := by
    refine own_list ly1.1 (fun j hj => ?_)
    have h3 : j = 0 ∨ j = 1 ∨ j = 2 ∨ j = 3 ∨ j = 4 ∨ j = 5 ∨ j = 6 ∨ j = 7 ∨ j = 8 ∨ j = 9 ∨ j = 10 ∨ j = 11 := by (have h' : j < 12 := hj; omega)
    rcases h3 with rfl | rfl | rfl | rfl | rfl | rfl | rfl | rfl | rfl | rfl | rfl | rfl
    · exact z1_0
    · exact z1_1
    · exact z1_2
    · exact z1_3
    · exact z1_4
    · exact z1_5
    · exact z1_6
    · exact z1_7
    · exact z1_8
    · exact z1_9
    · exact z1_10
    · exact z1_11
  have Yl1 : Ary s s.heap y1 .byte [.int 97, .int 102, .int 116, .int 101, .int 114, .int 45, .int 97, .int 99, .int 99, .int 101, .int 112, .int 116] := ⟨cy1, Ay1, Ll1, by simp, by decide⟩
  have Sl1 : Str s s.heap l1 [97, 102, 116, 101, 114, 45, 97, 99, 99, 101, 112, 116] := own_strlit Xl1 Cl1 Vl1 Yl1 (by unfold Lat; decide) (by decide)
  obtain ⟨l2, el2⟩ := exa_v n17
  have Fl2 : Fld s s.heap p2 "com/example/mimico/mimico/agreement/Halt$Point" "label" "Ljava/lang/String;" (.ref l2) := Fld.start (by rw [← fld_at ep2]; exact el2)
  have Xl2 := Exa.start el2 n17
  have Cl2 : Fld s s.heap l2 "java/lang/String" "coder" "B" (.int 0) := Fld.start (by rw [← fld_at el2]; exact Cond.eq_int (Cond.before_iff.mpr n18) rfl)
  obtain ⟨y2, ey2⟩ := arr_v n19
  have Vl2 : Fld s s.heap l2 "java/lang/String" "value" "[B" (.ref y2) := Fld.start (by rw [← fld_at el2]; exact ey2)
  obtain ⟨cy2, Ay2⟩ := Arr.start ey2 n19
  have ly2 := own_size ey2 Ay2 (Cond.eq_int (Cond.before_iff.mpr n20) rfl)
  have z2_0 := own_elemI ey2 Ay2.1 n46
  have z2_1 := own_elemI ey2 Ay2.1 n47
  have z2_2 := own_elemI ey2 Ay2.1 n48
  have z2_3 := own_elemI ey2 Ay2.1 n49
  have z2_4 := own_elemI ey2 Ay2.1 n50
  have z2_5 := own_elemI ey2 Ay2.1 n51
  have z2_6 := own_elemI ey2 Ay2.1 n52
  have z2_7 := own_elemI ey2 Ay2.1 n53
  have z2_8 := own_elemI ey2 Ay2.1 n54
  have z2_9 := own_elemI ey2 Ay2.1 n55
  have z2_10 := own_elemI ey2 Ay2.1 n56
  have z2_11 := own_elemI ey2 Ay2.1 n57
  have Ll2 : cy2.slots.toList = [.int 97, .int 102, .int 116, .int 101, .int 114, .int 45, .int 100, .int 101, .int 99, .int 105, .int 100, .int 101] := by
    refine own_list ly2.1 (fun j hj => ?_)
    have h3 : j = 0 ∨ j = 1 ∨ j = 2 ∨ j = 3 ∨ j = 4 ∨ j = 5 ∨ j = 6 ∨ j = 7 ∨ j = 8 ∨ j = 9 ∨ j = 10 ∨ j = 11 := by (have h' : j < 12 := hj; omega)
    rcases h3 with rfl | rfl | rfl | rfl | rfl | rfl | rfl | rfl | rfl | rfl | rfl | rfl
    · exact z2_0
    · exact z2_1
    · exact z2_2
    · exact z2_3
    · exact z2_4
    · exact z2_5
    · exact z2_6
    · exact z2_7
    · exact z2_8
    · exact z2_9
    · exact z2_10
    · exact z2_11
  have Yl2 : Ary s s.heap y2 .byte [.int 97, .int 102, .int 116, .int 101, .int 114, .int 45, .int 100, .int 101, .int 99, .int 105, .int 100, .int 101] := ⟨cy2, Ay2, Ll2, by simp, by decide⟩
  have Sl2 : Str s s.heap l2 [97, 102, 116, 101, 114, 45, 100, 101, 99, 105, 100, 101] := own_strlit Xl2 Cl2 Vl2 Yl2 (by unfold Lat; decide) (by decide)
  have Pv : OPv (l, s, #[.int i0, .int i1, .int i2, .int i3, .int i4], consts_1, s.heap.size) vals p0 p1 p2 l0 l1 l2 := ⟨Sta.start ev (Or.inr ⟨(hw _ (List.mem_of_getElem? (i := 87) rfl)), (hw _ (List.mem_of_getElem? (i := 93) rfl))⟩), Yv, Ev, Sta.start ep0 (Or.inr ⟨(hw _ (List.mem_of_getElem? (i := 87) rfl)), (hw _ (List.mem_of_getElem? (i := 101) rfl))⟩), Sta.start ep1 (Or.inr ⟨(hw _ (List.mem_of_getElem? (i := 87) rfl)), (hw _ (List.mem_of_getElem? (i := 102) rfl))⟩), Sta.start ep2 (Or.inr ⟨(hw _ (List.mem_of_getElem? (i := 87) rfl)), (hw _ (List.mem_of_getElem? (i := 103) rfl))⟩), X0, X1, X2, Fl0, Fl1, Fl2, Sl0, Sl1, Sl2⟩
  have hG : OGood (l, s, #[.int i0, .int i1, .int i2, .int i3, .int i4], consts_1, s.heap.size) := ⟨hw, rfl, ⟨iz, Sz, nz⟩, ⟨vf, Sf, rf⟩, ⟨ee, Sta.start eee (Or.inl (hsets _ (List.mem_of_getElem? (i := 10) rfl))), Ee, Fe⟩, ⟨vals, p0, p1, p2, l0, l1, l2, Pv⟩, trivial⟩
  obtain ⟨n, o, h1, h2, h3, _, L, rfl, rfl, N, -, -, hq⟩ := con_law (G := (l, s, #[.int i0, .int i1, .int i2, .int i3, .int i4], consts_1, s.heap.size)) hG  p e ha hc hk s m _ below hf ((Spec.applies_iff_loose hf).mp happ).1 ⟨rfl, State.Warmed39.refl s, rfl, CHv.start (own_ew hG) (fun p hp => hcalls.1 p hp) (hsets _ (List.mem_of_getElem? (i := 2) rfl)) (hw _ (List.mem_of_getElem? (i := 4) rfl)) (hw _ (List.mem_of_getElem? (i := 3) rfl)), (fun x hx => (by cases hx)), Old.start s⟩ trivial
  refine ⟨n, _, h1, h2, h3, hpost _ _ _ _ _ _ ⟨Cond.after_iff.mpr rfl, Cond.after_iff.mpr (eq_i res_at (Term.int_eval (1)) rfl), trivial⟩ ⟨hq.1, hq.2.1, hq.2.2.1, (hq.2.2.2.sift fun y hy => Or.inr (N y hy)).mono (by decide) (by decide)⟩⟩
theorem main_1_1 : Claimed_1_1 := comes_1 fun _ _ _ _ _ _ h hF => ⟨h.1, hF⟩
theorem main_1_2 : Claimed_1_2 := comes_1 fun _ _ _ _ _ _ h hF => ⟨h.2.1, hF⟩
end Jvm.Pilot.@@N@@
namespace Jvm.Pilot.@@N@@
open Jvm Jvm.ClassFile Sem Op Lib Jvm.Free Jvm.Stand Jvm.Pilot.@@N@@.Jvm.D
/-! MADE BY PROGRAM (witnessworld.py) out of the Statement's table words and the real class files: 25 classes; the members and pool entries that the words name. The judged class is class 1, her method 1. -/
namespace start1
open Jvm.ClassFile
def u (s : String) : CpInfo := .utf8 (stringToUtf16 s)
/-- a pool by its gaps: so many unusable entries, then the entry; so many at the end -/
def gap : Nat → List CpInfo → List CpInfo
  | 0, r => r
  | n + 1, r => .unusable :: gap n r
def poolList (es : List (Nat × CpInfo)) (last : Nat) : List CpInfo := es.foldr (fun e r => gap e.1 (e.2 :: r)) (gap last [])
def pool (es : List (Nat × CpInfo)) (last : Nat) : Array CpInfo := ⟨poolList es last⟩
def fileOf (pool : Array CpInfo) (this : Nat) (attrs : Array Attribute := #[]) (ms : Array MethodInfo := #[]) (fl : Nat := 33) (sup : Nat := 0) (ifs : Array Nat := #[]) (fds : Array FieldInfo := #[]) : ClassFile where
  minorVersion := 0
  majorVersion := 65
  constantPool := pool
  accessFlags := fl
  thisClass := this
  superClass := sup
  interfaces := ifs
  fields := fds
  methods := ms
  attributes := attrs
def plain (name : String) (sup : Option ClassId) : Class where
  name := name
  kind := .ordinary
  loader := none
  accessFlags := 33
  super := sup
  interfaces := #[]
  cf := none
  fields := #[]
  methods := #[]
  instanceTypes := #[]
  staticTypes := #[]
  resolved := #[]
  callSites := []
  init := .initialized
  statics := none
  mirror := none

def pool0 : Array CpInfo := pool [(5, u "<init>"), (0, u "()V"), (1, .class_ 10), (1, u "java/lang/Object"), (85, u "clone"), (0, u "()Ljava/lang/Object;")] 26

def k0c0 : Code := { maxStack := 0, maxLocals := 1, code := object_method_1_code, exceptionTable := #[], attributes := #[] }
def k0m0 : Method := { name := "<init>", desc := "()V", sig := { parameters := [], returnType := none }, accessFlags := 1, code := some k0c0 }
def k0m1 : Method := { name := "clone", desc := "()Ljava/lang/Object;", sig := { parameters := [], returnType := some (.object "java/lang/Object") }, accessFlags := 260, code := none }
/-- java/lang/Object -/
def k0 : Class := { plain "java/lang/Object" none with
  accessFlags := 33
  interfaces := #[]
  cf := some (fileOf pool0 8 #[] #[{ accessFlags := 1, nameIndex := 5, descriptorIndex := 6, attributes := #[] }, { accessFlags := 260, nameIndex := 96, descriptorIndex := 97, attributes := #[] }] 33 0 #[] #[])
  fields := #[]
  methods := #[k0m0, k0m1]
  instanceTypes := #[]
  staticTypes := #[]
  resolved := Array.replicate 124 none
  statics := none }

def pool1 : Array CpInfo := pool [(2, .class_ 4), (1, u "java/lang/Object"), (0, u "<init>"), (0, u "()V"), (0, .integer 2147483647), (0, .string 9), (0, u "after-collect"), (0, .string 11), (0, u "after-accept"), (0, .string 13), (0, u "after-decide"), (0, .string 15), (0, u "after-"), (0, .string 17), (0, u ""), (0, .methodref 19 20), (0, .class_ 21), (0, .nameAndType 22 23), (0, u "java/lang/String"), (0, u "length"), (0, u "()I"), (0, .methodref 25 26), (0, .class_ 27), (0, .nameAndType 28 29), (0, u "java/lang/Math"), (0, u "max"), (0, u "(II)I"), (0, .methodref 31 32), (0, .class_ 33), (0, .nameAndType 34 35), (0, u "com/example/mimico/mimico/agreement/PointNamedPinLaw"), (0, u "put"), (0, u "([CILjava/lang/String;C)V"), (0, .methodref 19 37), (0, .nameAndType 5 38), (0, u "([C)V"), (0, .methodref 19 40), (0, .nameAndType 41 42), (0, u "equals"), (0, u "(Ljava/lang/Object;)Z"), (0, .fieldref 44 45), (0, .class_ 46), (0, .nameAndType 47 48), (0, u "com/example/mimico/mimico/agreement/Halt$Point"), (0, u "AFTER_COLLECT"), (0, u "Lcom/example/mimico/mimico/agreement/Halt$Point;"), (0, .fieldref 44 50), (0, .nameAndType 51 48), (0, u "AFTER_ACCEPT"), (0, .fieldref 44 53), (0, .nameAndType 54 48), (0, u "AFTER_DECIDE"), (0, .methodref 44 56), (0, .nameAndType 57 58), (0, u "named"), (0, u "(Ljava/lang/String;)Ljava/util/Optional;"), (0, .methodref 60 61), (0, .class_ 62), (0, .nameAndType 63 64), (0, u "java/util/Optional"), (0, u "orElse"), (0, u "(Ljava/lang/Object;)Ljava/lang/Object;"), (0, .methodref 19 66), (0, .nameAndType 67 68), (0, u "charAt"), (0, u "(I)C"), (2, u "law"), (0, u "(IIIII)Z")] 9

def k1m0 : Method := { name := "<init>", desc := "()V", sig := { parameters := [], returnType := none }, accessFlags := 1, code := none }
def k1c1 : Code := { maxStack := 4, maxLocals := 15, code := code, exceptionTable := #[], attributes := #[] }
def k1m1 : Method := { name := "law", desc := "(IIIII)Z", sig := { parameters := [.int, .int, .int, .int, .int], returnType := some .boolean }, accessFlags := 9, code := some k1c1 }
def k1c2 : Code := { maxStack := 4, maxLocals := 4, code := method_3_code, exceptionTable := #[], attributes := #[] }
def k1m2 : Method := { name := "put", desc := "([CILjava/lang/String;C)V", sig := { parameters := [(.array .char), .int, (.object "java/lang/String"), .char], returnType := none }, accessFlags := 10, code := some k1c2 }
/-- com/example/mimico/mimico/agreement/PointNamedPinLaw -/
def k1 : Class := { plain "com/example/mimico/mimico/agreement/PointNamedPinLaw" (some 0) with
  accessFlags := 49
  interfaces := #[]
  cf := some (fileOf pool1 31 #[] #[{ accessFlags := 1, nameIndex := 5, descriptorIndex := 6, attributes := #[] }, { accessFlags := 9, nameIndex := 71, descriptorIndex := 72, attributes := #[] }, { accessFlags := 10, nameIndex := 34, descriptorIndex := 35, attributes := #[] }] 49 2 #[] #[])
  fields := #[]
  methods := #[k1m0, k1m1, k1m2]
  instanceTypes := #[]
  staticTypes := #[]
  resolved := Array.replicate 82 none
  statics := none }

def pool2 : Array CpInfo := pool [(1, .class_ 2), (0, u "java/io/Serializable"), (0, .class_ 4), (0, u "java/lang/Object")] 2

/-- java/io/Serializable -/
def k2 : Class := { plain "java/io/Serializable" (some 0) with
  accessFlags := 1537
  interfaces := #[]
  cf := some (fileOf pool2 1 #[] #[] 1537 3 #[] #[])
  fields := #[]
  methods := #[]
  instanceTypes := #[]
  staticTypes := #[]
  resolved := Array.replicate 7 none
  statics := none }

def pool3 : Array CpInfo := pool [(1, .class_ 2), (0, u "java/lang/Comparable"), (0, .class_ 4), (0, u "java/lang/Object")] 7

/-- java/lang/Comparable -/
def k3 : Class := { plain "java/lang/Comparable" (some 0) with
  accessFlags := 1537
  interfaces := #[]
  cf := some (fileOf pool3 1 #[] #[] 1537 3 #[] #[])
  fields := #[]
  methods := #[]
  instanceTypes := #[]
  staticTypes := #[]
  resolved := Array.replicate 12 none
  statics := none }

def pool4 : Array CpInfo := pool [(2, .class_ 4), (1, u "java/lang/CharSequence"), (42, .class_ 48), (0, u "java/lang/CharSequence$1CodePointIterator"), (10, .class_ 60), (0, u "java/lang/CharSequence$1CharIterator"), (5, .class_ 67), (0, u "java/lang/Object")] 63

/-- java/lang/CharSequence -/
def k4 : Class := { plain "java/lang/CharSequence" (some 0) with
  accessFlags := 1537
  interfaces := #[]
  cf := some (fileOf pool4 2 #[.nestMembers #[47, 59]] #[] 1537 66 #[] #[])
  fields := #[]
  methods := #[]
  instanceTypes := #[]
  staticTypes := #[]
  resolved := Array.replicate 131 none
  statics := none }

def pool5 : Array CpInfo := pool [(1, .class_ 2), (0, u "java/lang/constant/Constable"), (0, .class_ 4), (0, u "java/lang/Object")] 6

/-- java/lang/constant/Constable -/
def k5 : Class := { plain "java/lang/constant/Constable" (some 0) with
  accessFlags := 1537
  interfaces := #[]
  cf := some (fileOf pool5 1 #[] #[] 1537 3 #[] #[])
  fields := #[]
  methods := #[]
  instanceTypes := #[]
  staticTypes := #[]
  resolved := Array.replicate 11 none
  statics := none }

def pool6 : Array CpInfo := pool [(1, .class_ 2), (0, u "java/lang/constant/ConstantDesc"), (0, .class_ 4), (0, u "java/lang/Object")] 32

/-- java/lang/constant/ConstantDesc -/
def k6 : Class := { plain "java/lang/constant/ConstantDesc" (some 0) with
  accessFlags := 1537
  interfaces := #[]
  cf := some (fileOf pool6 1 #[] #[] 1537 3 #[] #[])
  fields := #[]
  methods := #[]
  instanceTypes := #[]
  staticTypes := #[]
  resolved := Array.replicate 37 none
  statics := none }

def pool7 : Array CpInfo := pool [(1, .methodref 2 3), (0, .class_ 4), (0, .nameAndType 5 6), (0, u "java/lang/Object"), (0, u "<init>"), (0, u "()V"), (0, .string 8), (0, u ""), (0, .fieldref 10 11), (0, .class_ 12), (0, .nameAndType 13 14), (0, u "java/lang/String"), (0, u "value"), (0, u "[B"), (0, .fieldref 10 16), (0, .nameAndType 17 18), (0, u "coder"), (0, u "B"), (2, u "hash"), (0, u "I"), (2, u "hashIsZero"), (0, u "Z"), (0, .methodref 10 28), (0, .nameAndType 5 29), (0, u "([CIILjava/lang/Void;)V"), (8, .fieldref 10 39), (0, .nameAndType 40 26), (0, u "COMPACT_STRINGS"), (1, .class_ 44), (1, u "java/lang/StringUTF16"), (0, u "compress"), (1, .methodref 42 48), (0, .nameAndType 49 50), (0, u "coderFromArrayLen"), (0, u "([BI)B"), (56, .class_ 109), (1, u "java/lang/StringLatin1"), (32, u "()Z"), (34, .methodref 42 178), (0, .nameAndType 45 179), (0, u "([CII)[B"), (154, u "()I"), (0, .methodref 10 336), (0, .nameAndType 17 337), (0, u "()B"), (25, u "([BI)C"), (27, u "(II)V"), (35, u "(I)C"), (64, .methodref 10 493), (0, .nameAndType 494 142), (0, u "isLatin1"), (0, .methodref 107 496), (0, .nameAndType 497 363), (0, u "charAt"), (3, u "checkIndex"), (5, u "length"), (33, .methodref 107 542), (0, .nameAndType 543 544), (0, u "equals"), (0, u "([B[B)Z"), (28, u "(Ljava/lang/Object;)Z"), (1, .class_ 576), (0, u "java/lang/CharSequence"), (22, u "CASE_INSENSITIVE_ORDER"), (0, u "Ljava/util/Comparator;"), (409, u "([C)V"), (42, .fieldref 1054 1055), (0, .class_ 1056), (0, .nameAndType 1057 1058), (0, u "jdk/internal/util/Preconditions"), (0, u "SIOOBE_FORMATTER"), (0, u "Ljava/util/function/BiFunction;"), (0, .methodref 1054 1060), (0, .nameAndType 501 1061), (0, u "(IILjava/util/function/BiFunction;)I"), (39, u "serialPersistentFields"), (0, u "[Ljava/io/ObjectStreamField;"), (0, .class_ 1104), (0, u "java/lang/String$CaseInsensitiveComparator"), (1, .class_ 1107), (0, u "java/io/Serializable"), (0, .class_ 1109), (0, u "java/lang/Comparable"), (0, .class_ 1111), (0, u "java/lang/constant/Constable"), (0, .class_ 1113), (0, u "java/lang/constant/ConstantDesc"), (2, u "serialVersionUID"), (0, u "J"), (3, u "REPL"), (0, u "C"), (2, u "LATIN1"), (1, u "UTF16")] 323

def k7m0 : Method := { name := "<init>", desc := "()V", sig := { parameters := [], returnType := none }, accessFlags := 1, code := none }
def k7c1 : Code := { maxStack := 5, maxLocals := 2, code := jdk_42_method_3_code, exceptionTable := #[], attributes := #[] }
def k7m1 : Method := { name := "<init>", desc := "([C)V", sig := { parameters := [(.array .char)], returnType := none }, accessFlags := 1, code := some k7c1 }
def k7c2 : Code := { maxStack := 2, maxLocals := 1, code := jdk_42_method_54_code, exceptionTable := #[], attributes := #[] }
def k7m2 : Method := { name := "length", desc := "()I", sig := { parameters := [], returnType := some .int }, accessFlags := 1, code := some k7c2 }
def k7c3 : Code := { maxStack := 2, maxLocals := 2, code := jdk_42_method_56_code, exceptionTable := #[], attributes := #[] }
def k7m3 : Method := { name := "charAt", desc := "(I)C", sig := { parameters := [.int], returnType := some .char }, accessFlags := 1, code := some k7c3 }
def k7c4 : Code := { maxStack := 2, maxLocals := 3, code := jdk_42_method_66_code, exceptionTable := #[], attributes := #[] }
def k7m4 : Method := { name := "equals", desc := "(Ljava/lang/Object;)Z", sig := { parameters := [(.object "java/lang/Object")], returnType := some .boolean }, accessFlags := 1, code := some k7c4 }
def k7c5 : Code := { maxStack := 4, maxLocals := 6, code := jdk_42_method_149_code, exceptionTable := #[], attributes := #[] }
def k7m5 : Method := { name := "<init>", desc := "([CIILjava/lang/Void;)V", sig := { parameters := [(.array .char), .int, .int, (.object "java/lang/Void")], returnType := none }, accessFlags := 2, code := some k7c5 }
def k7c6 : Code := { maxStack := 1, maxLocals := 1, code := jdk_42_method_152_code, exceptionTable := #[], attributes := #[] }
def k7m6 : Method := { name := "coder", desc := "()B", sig := { parameters := [], returnType := some .byte }, accessFlags := 0, code := some k7c6 }
def k7c7 : Code := { maxStack := 1, maxLocals := 1, code := jdk_42_method_154_code, exceptionTable := #[], attributes := #[] }
def k7m7 : Method := { name := "isLatin1", desc := "()Z", sig := { parameters := [], returnType := some .boolean }, accessFlags := 0, code := some k7c7 }
def k7c8 : Code := { maxStack := 3, maxLocals := 2, code := jdk_42_method_155_code, exceptionTable := #[], attributes := #[] }
def k7m8 : Method := { name := "checkIndex", desc := "(II)V", sig := { parameters := [.int, .int], returnType := none }, accessFlags := 8, code := some k7c8 }
/-- java/lang/String -/
def k7 : Class := { plain "java/lang/String" (some 0) with
  accessFlags := 49
  interfaces := #[2, 3, 4, 5, 6]
  cf := some (fileOf pool7 10 #[.nestMembers #[1103]] #[{ accessFlags := 1, nameIndex := 5, descriptorIndex := 6, attributes := #[] }, { accessFlags := 1, nameIndex := 5, descriptorIndex := 1010, attributes := #[] }, { accessFlags := 1, nameIndex := 507, descriptorIndex := 334, attributes := #[] }, { accessFlags := 1, nameIndex := 497, descriptorIndex := 427, attributes := #[] }, { accessFlags := 1, nameIndex := 543, descriptorIndex := 573, attributes := #[] }, { accessFlags := 2, nameIndex := 5, descriptorIndex := 29, attributes := #[] }, { accessFlags := 0, nameIndex := 17, descriptorIndex := 337, attributes := #[] }, { accessFlags := 0, nameIndex := 494, descriptorIndex := 142, attributes := #[] }, { accessFlags := 8, nameIndex := 501, descriptorIndex := 391, attributes := #[] }] 49 2 #[1106, 1108, 575, 1110, 1112] #[{ accessFlags := 18, nameIndex := 13, descriptorIndex := 14, attributes := #[] }, { accessFlags := 18, nameIndex := 17, descriptorIndex := 18, attributes := #[] }, { accessFlags := 2, nameIndex := 21, descriptorIndex := 22, attributes := #[] }, { accessFlags := 2, nameIndex := 25, descriptorIndex := 26, attributes := #[] }, { accessFlags := 26, nameIndex := 1116, descriptorIndex := 1117, attributes := #[] }, { accessFlags := 24, nameIndex := 40, descriptorIndex := 26, attributes := #[] }, { accessFlags := 26, nameIndex := 1101, descriptorIndex := 1102, attributes := #[] }, { accessFlags := 26, nameIndex := 1121, descriptorIndex := 1122, attributes := #[] }, { accessFlags := 25, nameIndex := 599, descriptorIndex := 600, attributes := #[] }, { accessFlags := 24, nameIndex := 1125, descriptorIndex := 18, attributes := #[] }, { accessFlags := 24, nameIndex := 1127, descriptorIndex := 18, attributes := #[] }])
  fields := #[{ name := "value", type := (.array .byte), accessFlags := 18, slot := 0, constantValue := 0 }, { name := "coder", type := .byte, accessFlags := 18, slot := 1, constantValue := 0 }, { name := "hash", type := .int, accessFlags := 2, slot := 2, constantValue := 0 }, { name := "hashIsZero", type := .boolean, accessFlags := 2, slot := 3, constantValue := 0 }, { name := "serialVersionUID", type := .long, accessFlags := 26, slot := 0, constantValue := 0 }, { name := "COMPACT_STRINGS", type := .boolean, accessFlags := 24, slot := 1, constantValue := 0 }, { name := "serialPersistentFields", type := (.array (.object "java/io/ObjectStreamField")), accessFlags := 26, slot := 2, constantValue := 0 }, { name := "REPL", type := .char, accessFlags := 26, slot := 3, constantValue := 0 }, { name := "CASE_INSENSITIVE_ORDER", type := (.object "java/util/Comparator"), accessFlags := 25, slot := 4, constantValue := 0 }, { name := "LATIN1", type := .byte, accessFlags := 24, slot := 5, constantValue := 0 }, { name := "UTF16", type := .byte, accessFlags := 24, slot := 6, constantValue := 0 }]
  methods := #[k7m0, k7m1, k7m2, k7m3, k7m4, k7m5, k7m6, k7m7, k7m8]
  instanceTypes := #[(.array .byte), .byte, .int, .boolean]
  staticTypes := #[.long, .boolean, (.array (.object "java/io/ObjectStreamField")), .char, (.object "java/util/Comparator"), .byte, .byte]
  resolved := Array.replicate 1451 none
  statics := some 0 }

def pool8 : Array CpInfo := pool [(1, .class_ 2), (0, u "java/lang/Math"), (1, .class_ 6), (1, u "java/lang/Object"), (0, u "<init>"), (0, u "()V"), (89, .class_ 100), (1, u "java/lang/Math$RandomNumberGeneratorHolder"), (71, u "negativeZeroFloatBits"), (0, u "J"), (2, u "negativeZeroDoubleBits"), (21, u "max"), (46, u "$assertionsDisabled"), (0, u "Z"), (88, u "(II)I"), (2, u "twoToTheDoubleScaleDown"), (0, u "D"), (4, u "twoToTheDoubleScaleUp"), (9, u "E"), (3, u "PI"), (2, u "TAU"), (2, u "DEGREES_TO_RADIANS"), (0, u "RADIANS_TO_DEGREES")] 94

def k8m0 : Method := { name := "<init>", desc := "()V", sig := { parameters := [], returnType := none }, accessFlags := 2, code := none }
def k8c1 : Code := { maxStack := 2, maxLocals := 2, code := jdk_29_method_65_code, exceptionTable := #[], attributes := #[] }
def k8m1 : Method := { name := "max", desc := "(II)I", sig := { parameters := [.int, .int], returnType := some .int }, accessFlags := 9, code := some k8c1 }
/-- java/lang/Math -/
def k8 : Class := { plain "java/lang/Math" (some 0) with
  accessFlags := 49
  interfaces := #[]
  cf := some (fileOf pool8 1 #[.nestMembers #[98]] #[{ accessFlags := 2, nameIndex := 7, descriptorIndex := 8, attributes := #[] }, { accessFlags := 9, nameIndex := 198, descriptorIndex := 335, attributes := #[] }] 49 4 #[] #[{ accessFlags := 25, nameIndex := 354, descriptorIndex := 339, attributes := #[] }, { accessFlags := 25, nameIndex := 358, descriptorIndex := 339, attributes := #[] }, { accessFlags := 25, nameIndex := 361, descriptorIndex := 339, attributes := #[] }, { accessFlags := 26, nameIndex := 364, descriptorIndex := 339, attributes := #[] }, { accessFlags := 26, nameIndex := 365, descriptorIndex := 339, attributes := #[] }, { accessFlags := 26, nameIndex := 172, descriptorIndex := 173, attributes := #[] }, { accessFlags := 26, nameIndex := 176, descriptorIndex := 173, attributes := #[] }, { accessFlags := 8, nameIndex := 344, descriptorIndex := 339, attributes := #[] }, { accessFlags := 8, nameIndex := 338, descriptorIndex := 339, attributes := #[] }, { accessFlags := 4120, nameIndex := 245, descriptorIndex := 246, attributes := #[] }])
  fields := #[{ name := "E", type := .double, accessFlags := 25, slot := 0, constantValue := 0 }, { name := "PI", type := .double, accessFlags := 25, slot := 1, constantValue := 0 }, { name := "TAU", type := .double, accessFlags := 25, slot := 2, constantValue := 0 }, { name := "DEGREES_TO_RADIANS", type := .double, accessFlags := 26, slot := 3, constantValue := 0 }, { name := "RADIANS_TO_DEGREES", type := .double, accessFlags := 26, slot := 4, constantValue := 0 }, { name := "negativeZeroFloatBits", type := .long, accessFlags := 26, slot := 5, constantValue := 0 }, { name := "negativeZeroDoubleBits", type := .long, accessFlags := 26, slot := 6, constantValue := 0 }, { name := "twoToTheDoubleScaleUp", type := .double, accessFlags := 8, slot := 7, constantValue := 0 }, { name := "twoToTheDoubleScaleDown", type := .double, accessFlags := 8, slot := 8, constantValue := 0 }, { name := "$assertionsDisabled", type := .boolean, accessFlags := 4120, slot := 9, constantValue := 0 }]
  methods := #[k8m0, k8m1]
  instanceTypes := #[]
  staticTypes := #[.double, .double, .double, .double, .double, .long, .long, .double, .double, .boolean]
  resolved := Array.replicate 460 none
  statics := none }

def pool9 : Array CpInfo := pool [(1, .class_ 2), (0, u "java/lang/String"), (1, .class_ 6), (1, u "java/lang/Object"), (0, u "<init>"), (0, u "()V"), (0, .methodref 1 10), (0, .nameAndType 11 12), (0, u "checkIndex"), (0, u "(II)V"), (1, .class_ 16), (1, u "java/lang/StringLatin1"), (36, u "([BI)C"), (67, u "$assertionsDisabled"), (0, u "Z"), (98, .class_ 223), (1, u "java/lang/StringLatin1$LinesSpliterator"), (28, u "charAt"), (28, u "equals"), (0, u "([B[B)Z"), (107, .class_ 391), (0, u "java/lang/StringLatin1$CharsSpliterator")] 3

def k9m0 : Method := { name := "<init>", desc := "()V", sig := { parameters := [], returnType := none }, accessFlags := 0, code := none }
def k9c1 : Code := { maxStack := 2, maxLocals := 2, code := jdk_43_method_2_code, exceptionTable := #[], attributes := #[] }
def k9m1 : Method := { name := "charAt", desc := "([BI)C", sig := { parameters := [(.array .byte), .int], returnType := some .char }, accessFlags := 9, code := some k9c1 }
def k9c2 : Code := { maxStack := 3, maxLocals := 3, code := jdk_43_method_13_code, exceptionTable := #[], attributes := #[] }
def k9m2 : Method := { name := "equals", desc := "([B[B)Z", sig := { parameters := [(.array .byte), (.array .byte)], returnType := some .boolean }, accessFlags := 9, code := some k9c2 }
/-- java/lang/StringLatin1 -/
def k9 : Class := { plain "java/lang/StringLatin1" (some 0) with
  accessFlags := 48
  interfaces := #[]
  cf := some (fileOf pool9 14 #[.nestMembers #[390, 221]] #[{ accessFlags := 0, nameIndex := 7, descriptorIndex := 8, attributes := #[] }, { accessFlags := 9, nameIndex := 252, descriptorIndex := 53, attributes := #[] }, { accessFlags := 9, nameIndex := 281, descriptorIndex := 282, attributes := #[] }] 48 4 #[] #[{ accessFlags := 4120, nameIndex := 121, descriptorIndex := 122, attributes := #[] }])
  fields := #[{ name := "$assertionsDisabled", type := .boolean, accessFlags := 4120, slot := 0, constantValue := 0 }]
  methods := #[k9m0, k9m1, k9m2]
  instanceTypes := #[]
  staticTypes := #[.boolean]
  resolved := Array.replicate 395 none
  statics := none }

def pool10 : Array CpInfo := pool [(2, .class_ 4), (1, u "java/lang/Object"), (0, u "<init>"), (0, u "()V"), (17, .class_ 26), (1, u "jdk/internal/util/Preconditions"), (6, u "checkIndex"), (21, .class_ 56), (0, u "jdk/internal/util/Preconditions$4"), (57, .class_ 115), (0, u "jdk/internal/util/Preconditions$1"), (7, u "SIOOBE_FORMATTER"), (0, u "Ljava/util/function/BiFunction;"), (0, .class_ 126), (0, u "jdk/internal/util/Preconditions$2"), (3, u "AIOOBE_FORMATTER"), (0, .class_ 132), (0, u "jdk/internal/util/Preconditions$3"), (3, u "IOOBE_FORMATTER"), (41, u "(IILjava/util/function/BiFunction;)I")] 15

def k10m0 : Method := { name := "<init>", desc := "()V", sig := { parameters := [], returnType := none }, accessFlags := 1, code := none }
def k10c1 : Code := { maxStack := 3, maxLocals := 3, code := jdk_41_method_11_code, exceptionTable := #[], attributes := #[] }
def k10m1 : Method := { name := "checkIndex", desc := "(IILjava/util/function/BiFunction;)I", sig := { parameters := [.int, .int, (.object "java/util/function/BiFunction")], returnType := some .int }, accessFlags := 9, code := some k10c1 }
/-- jdk/internal/util/Preconditions -/
def k10 : Class := { plain "jdk/internal/util/Preconditions" (some 0) with
  accessFlags := 33
  interfaces := #[]
  cf := some (fileOf pool10 24 #[.nestMembers #[55, 131, 125, 114]] #[{ accessFlags := 1, nameIndex := 5, descriptorIndex := 6, attributes := #[] }, { accessFlags := 9, nameIndex := 33, descriptorIndex := 178, attributes := #[] }] 33 2 #[] #[{ accessFlags := 25, nameIndex := 123, descriptorIndex := 124, attributes := #[] }, { accessFlags := 25, nameIndex := 130, descriptorIndex := 124, attributes := #[] }, { accessFlags := 25, nameIndex := 136, descriptorIndex := 124, attributes := #[] }])
  fields := #[{ name := "SIOOBE_FORMATTER", type := (.object "java/util/function/BiFunction"), accessFlags := 25, slot := 0, constantValue := 0 }, { name := "AIOOBE_FORMATTER", type := (.object "java/util/function/BiFunction"), accessFlags := 25, slot := 1, constantValue := 0 }, { name := "IOOBE_FORMATTER", type := (.object "java/util/function/BiFunction"), accessFlags := 25, slot := 2, constantValue := 0 }]
  methods := #[k10m0, k10m1]
  instanceTypes := #[]
  staticTypes := #[(.object "java/util/function/BiFunction"), (.object "java/util/function/BiFunction"), (.object "java/util/function/BiFunction")]
  resolved := Array.replicate 194 none
  statics := some 1 }

def pool11 : Array CpInfo := pool [(6, .class_ 8), (1, u "java/lang/Object"), (0, u "<init>"), (0, u "()V"), (1, .class_ 14), (1, u "java/lang/StringUTF16"), (31, u "$assertionsDisabled"), (0, u "Z"), (13, u "HI_BYTE_SHIFT"), (0, u "I"), (2, u "LO_BYTE_SHIFT"), (49, .methodref 12 116), (0, .nameAndType 117 118), (0, u "compress"), (0, u "([CI[BII)I"), (3, u "([CII)[B"), (138, u "coderFromArrayLen"), (0, u "([BI)B"), (106, .class_ 371), (1, u "java/lang/StringUTF16$LinesSpliterator"), (58, u "MAX_LENGTH"), (196, .class_ 628), (0, u "java/lang/StringUTF16$CodePointsSpliterator"), (0, .class_ 630), (0, u "java/lang/StringUTF16$CharsSpliterator")] 4

def k11m0 : Method := { name := "<init>", desc := "()V", sig := { parameters := [], returnType := none }, accessFlags := 0, code := none }
def k11c1 : Code := { maxStack := 2, maxLocals := 2, code := jdk_52_method_15_code, exceptionTable := #[], attributes := #[] }
def k11m1 : Method := { name := "coderFromArrayLen", desc := "([BI)B", sig := { parameters := [(.array .byte), .int], returnType := some .byte }, accessFlags := 8, code := some k11c1 }
def k11c2 : Code := { maxStack := 5, maxLocals := 6, code := jdk_52_method_16_code, exceptionTable := #[], attributes := #[] }
def k11m2 : Method := { name := "compress", desc := "([CII)[B", sig := { parameters := [(.array .char), .int, .int], returnType := some (.array .byte) }, accessFlags := 9, code := some k11c2 }
def k11c3 : Code := { maxStack := 3, maxLocals := 7, code := jdk_52_method_21_code, exceptionTable := #[], attributes := #[] }
def k11m3 : Method := { name := "compress", desc := "([CI[BII)I", sig := { parameters := [(.array .char), .int, (.array .byte), .int, .int], returnType := some .int }, accessFlags := 9, code := some k11c3 }
/-- java/lang/StringUTF16 -/
def k11 : Class := { plain "java/lang/StringUTF16" (some 0) with
  accessFlags := 48
  interfaces := #[]
  cf := some (fileOf pool11 12 #[.nestMembers #[627, 629, 369]] #[{ accessFlags := 0, nameIndex := 9, descriptorIndex := 10, attributes := #[] }, { accessFlags := 8, nameIndex := 261, descriptorIndex := 262, attributes := #[] }, { accessFlags := 9, nameIndex := 117, descriptorIndex := 122, attributes := #[] }, { accessFlags := 9, nameIndex := 117, descriptorIndex := 118, attributes := #[] }] 48 6 #[] #[{ accessFlags := 26, nameIndex := 61, descriptorIndex := 62, attributes := #[] }, { accessFlags := 26, nameIndex := 65, descriptorIndex := 62, attributes := #[] }, { accessFlags := 24, nameIndex := 430, descriptorIndex := 62, attributes := #[] }, { accessFlags := 4120, nameIndex := 46, descriptorIndex := 47, attributes := #[] }])
  fields := #[{ name := "HI_BYTE_SHIFT", type := .int, accessFlags := 26, slot := 0, constantValue := 0 }, { name := "LO_BYTE_SHIFT", type := .int, accessFlags := 26, slot := 1, constantValue := 0 }, { name := "MAX_LENGTH", type := .int, accessFlags := 24, slot := 2, constantValue := 0 }, { name := "$assertionsDisabled", type := .boolean, accessFlags := 4120, slot := 3, constantValue := 0 }]
  methods := #[k11m0, k11m1, k11m2, k11m3]
  instanceTypes := #[]
  staticTypes := #[.int, .int, .int, .boolean]
  resolved := Array.replicate 635 none
  statics := none }

def pool12 : Array CpInfo := pool [(2, .class_ 4), (1, u "java/lang/Enum"), (0, u "name"), (0, u "Ljava/lang/String;"), (2, u "ordinal"), (0, u "I"), (1, .class_ 14), (1, u "java/lang/Object"), (4, u "hash"), (86, .class_ 108), (1, u "java/lang/Enum$EnumDesc"), (2, .class_ 112), (0, u "java/lang/constant/Constable"), (0, .class_ 114), (0, u "java/lang/Comparable"), (0, .class_ 116), (0, u "java/io/Serializable")] 87

/-- java/lang/Enum -/
def k12 : Class := { plain "java/lang/Enum" (some 0) with
  accessFlags := 1057
  interfaces := #[5, 3, 2]
  cf := some (fileOf pool12 2 #[.nestMembers #[106]] #[] 1057 12 #[111, 113, 115] #[{ accessFlags := 18, nameIndex := 5, descriptorIndex := 6, attributes := #[] }, { accessFlags := 18, nameIndex := 9, descriptorIndex := 10, attributes := #[] }, { accessFlags := 2, nameIndex := 19, descriptorIndex := 10, attributes := #[] }])
  fields := #[{ name := "name", type := (.object "java/lang/String"), accessFlags := 18, slot := 0, constantValue := 0 }, { name := "ordinal", type := .int, accessFlags := 18, slot := 1, constantValue := 0 }, { name := "hash", type := .int, accessFlags := 2, slot := 2, constantValue := 0 }]
  methods := #[]
  instanceTypes := #[(.object "java/lang/String"), .int, .int]
  staticTypes := #[]
  resolved := Array.replicate 204 none
  statics := none }

def pool13 : Array CpInfo := pool [(1, .class_ 2), (0, u "com/example/mimico/mimico/agreement/Halt$Point"), (2, u "AFTER_COLLECT"), (0, u "Lcom/example/mimico/mimico/agreement/Halt$Point;"), (2, u "AFTER_ACCEPT"), (2, u "AFTER_DECIDE"), (0, .fieldref 1 14), (0, .nameAndType 15 16), (0, u "$VALUES"), (0, u "[Lcom/example/mimico/mimico/agreement/Halt$Point;"), (0, .methodref 18 19), (0, .class_ 16), (0, .nameAndType 20 21), (0, u "clone"), (0, u "()Ljava/lang/Object;"), (1, .class_ 25), (1, u "java/lang/Enum"), (6, .fieldref 1 33), (0, .nameAndType 34 35), (0, u "label"), (0, u "Ljava/lang/String;"), (0, .methodref 1 37), (0, .nameAndType 38 39), (0, u "values"), (0, u "()[Lcom/example/mimico/mimico/agreement/Halt$Point;"), (0, .methodref 41 42), (0, .class_ 43), (0, .nameAndType 44 45), (0, u "java/lang/String"), (0, u "equals"), (0, u "(Ljava/lang/Object;)Z"), (0, .methodref 47 48), (0, .class_ 49), (0, .nameAndType 50 51), (0, u "java/util/Optional"), (0, u "of"), (0, u "(Ljava/lang/Object;)Ljava/util/Optional;"), (0, .methodref 47 53), (0, .nameAndType 54 55), (0, u "empty"), (0, u "()Ljava/util/Optional;"), (22, u "named"), (0, u "(Ljava/lang/String;)Ljava/util/Optional;"), (8, .class_ 89), (0, u "com/example/mimico/mimico/agreement/Halt")] 2

def k13c0 : Code := { maxStack := 1, maxLocals := 0, code := prog_7_method_1_code, exceptionTable := #[], attributes := #[] }
def k13m0 : Method := { name := "values", desc := "()[Lcom/example/mimico/mimico/agreement/Halt$Point;", sig := { parameters := [], returnType := some (.array (.object "com/example/mimico/mimico/agreement/Halt$Point")) }, accessFlags := 9, code := some k13c0 }
def k13c1 : Code := { maxStack := 2, maxLocals := 5, code := prog_7_method_5_code, exceptionTable := #[], attributes := #[] }
def k13m1 : Method := { name := "named", desc := "(Ljava/lang/String;)Ljava/util/Optional;", sig := { parameters := [(.object "java/lang/String")], returnType := some (.object "java/util/Optional") }, accessFlags := 9, code := some k13c1 }
/-- com/example/mimico/mimico/agreement/Halt$Point -/
def k13 : Class := { plain "com/example/mimico/mimico/agreement/Halt$Point" (some 12) with
  accessFlags := 16433
  interfaces := #[]
  cf := some (fileOf pool13 1 #[.nestHost 88] #[{ accessFlags := 9, nameIndex := 38, descriptorIndex := 39, attributes := #[] }, { accessFlags := 9, nameIndex := 78, descriptorIndex := 79, attributes := #[] }] 16433 23 #[] #[{ accessFlags := 16409, nameIndex := 5, descriptorIndex := 6, attributes := #[] }, { accessFlags := 16409, nameIndex := 9, descriptorIndex := 6, attributes := #[] }, { accessFlags := 16409, nameIndex := 12, descriptorIndex := 6, attributes := #[] }, { accessFlags := 18, nameIndex := 34, descriptorIndex := 35, attributes := #[] }, { accessFlags := 4122, nameIndex := 15, descriptorIndex := 16, attributes := #[] }])
  fields := #[{ name := "AFTER_COLLECT", type := (.object "com/example/mimico/mimico/agreement/Halt$Point"), accessFlags := 16409, slot := 0, constantValue := 0 }, { name := "AFTER_ACCEPT", type := (.object "com/example/mimico/mimico/agreement/Halt$Point"), accessFlags := 16409, slot := 1, constantValue := 0 }, { name := "AFTER_DECIDE", type := (.object "com/example/mimico/mimico/agreement/Halt$Point"), accessFlags := 16409, slot := 2, constantValue := 0 }, { name := "label", type := (.object "java/lang/String"), accessFlags := 18, slot := 3, constantValue := 0 }, { name := "$VALUES", type := (.array (.object "com/example/mimico/mimico/agreement/Halt$Point")), accessFlags := 4122, slot := 3, constantValue := 0 }]
  methods := #[k13m0, k13m1]
  instanceTypes := #[(.object "java/lang/String"), .int, .int, (.object "java/lang/String")]
  staticTypes := #[(.object "com/example/mimico/mimico/agreement/Halt$Point"), (.object "com/example/mimico/mimico/agreement/Halt$Point"), (.object "com/example/mimico/mimico/agreement/Halt$Point"), (.array (.object "com/example/mimico/mimico/agreement/Halt$Point"))]
  resolved := Array.replicate 92 none
  statics := some 2 }

def pool14 : Array CpInfo := pool [(1, .class_ 2), (0, u "java/lang/Cloneable"), (0, .class_ 4), (0, u "java/lang/Object")] 2

/-- java/lang/Cloneable -/
def k14 : Class := { plain "java/lang/Cloneable" (some 0) with
  accessFlags := 1537
  interfaces := #[]
  cf := some (fileOf pool14 1 #[] #[] 1537 3 #[] #[])
  fields := #[]
  methods := #[]
  instanceTypes := #[]
  staticTypes := #[]
  resolved := Array.replicate 7 none
  statics := none }

def pool15 : Array CpInfo := pool [(1, .fieldref 2 3), (0, .class_ 4), (0, .nameAndType 5 6), (0, u "java/util/Optional"), (0, u "EMPTY"), (0, u "Ljava/util/Optional;"), (0, .methodref 8 9), (0, .class_ 10), (0, .nameAndType 11 12), (0, u "java/lang/Object"), (0, u "<init>"), (0, u "()V"), (0, .fieldref 2 14), (0, .nameAndType 15 16), (0, u "value"), (0, u "Ljava/lang/Object;"), (0, .methodref 18 19), (0, .class_ 20), (0, .nameAndType 21 22), (0, u "java/util/Objects"), (0, u "requireNonNull"), (0, u "(Ljava/lang/Object;)Ljava/lang/Object;"), (0, .methodref 2 24), (0, .nameAndType 11 25), (0, u "(Ljava/lang/Object;)V"), (29, u "empty"), (0, u "()Ljava/util/Optional;"), (8, u "(Ljava/lang/Object;)Ljava/util/Optional;"), (16, u "of"), (82, u "orElse")] 21

def k15c0 : Code := { maxStack := 1, maxLocals := 1, code := jdk_32_method_1_code, exceptionTable := #[], attributes := #[] }
def k15m0 : Method := { name := "empty", desc := "()Ljava/util/Optional;", sig := { parameters := [], returnType := some (.object "java/util/Optional") }, accessFlags := 9, code := some k15c0 }
def k15c1 : Code := { maxStack := 2, maxLocals := 2, code := jdk_32_method_2_code, exceptionTable := #[], attributes := #[] }
def k15m1 : Method := { name := "<init>", desc := "(Ljava/lang/Object;)V", sig := { parameters := [(.object "java/lang/Object")], returnType := none }, accessFlags := 2, code := some k15c1 }
def k15c2 : Code := { maxStack := 3, maxLocals := 1, code := jdk_32_method_3_code, exceptionTable := #[], attributes := #[] }
def k15m2 : Method := { name := "of", desc := "(Ljava/lang/Object;)Ljava/util/Optional;", sig := { parameters := [(.object "java/lang/Object")], returnType := some (.object "java/util/Optional") }, accessFlags := 9, code := some k15c2 }
def k15c3 : Code := { maxStack := 1, maxLocals := 2, code := jdk_32_method_15_code, exceptionTable := #[], attributes := #[] }
def k15m3 : Method := { name := "orElse", desc := "(Ljava/lang/Object;)Ljava/lang/Object;", sig := { parameters := [(.object "java/lang/Object")], returnType := some (.object "java/lang/Object") }, accessFlags := 1, code := some k15c3 }
/-- java/util/Optional -/
def k15 : Class := { plain "java/util/Optional" (some 0) with
  accessFlags := 49
  interfaces := #[]
  cf := some (fileOf pool15 2 #[] #[{ accessFlags := 9, nameIndex := 55, descriptorIndex := 56, attributes := #[] }, { accessFlags := 2, nameIndex := 11, descriptorIndex := 25, attributes := #[] }, { accessFlags := 9, nameIndex := 82, descriptorIndex := 65, attributes := #[] }, { accessFlags := 1, nameIndex := 165, descriptorIndex := 22, attributes := #[] }] 49 8 #[] #[{ accessFlags := 26, nameIndex := 5, descriptorIndex := 6, attributes := #[] }, { accessFlags := 18, nameIndex := 15, descriptorIndex := 16, attributes := #[] }])
  fields := #[{ name := "EMPTY", type := (.object "java/util/Optional"), accessFlags := 26, slot := 0, constantValue := 0 }, { name := "value", type := (.object "java/lang/Object"), accessFlags := 18, slot := 0, constantValue := 0 }]
  methods := #[k15m0, k15m1, k15m2, k15m3]
  instanceTypes := #[(.object "java/lang/Object")]
  staticTypes := #[(.object "java/util/Optional")]
  resolved := Array.replicate 187 none
  statics := some 3 }

def pool16 : Array CpInfo := pool [(2, .class_ 4), (1, u "java/lang/Object"), (0, u "<init>"), (0, u "()V"), (35, .class_ 44), (1, u "java/util/Objects"), (0, u "requireNonNull"), (0, u "(Ljava/lang/Object;)Ljava/lang/Object;")] 137

def k16m0 : Method := { name := "<init>", desc := "()V", sig := { parameters := [], returnType := none }, accessFlags := 2, code := none }
def k16c1 : Code := { maxStack := 2, maxLocals := 1, code := jdk_31_method_10_code, exceptionTable := #[], attributes := #[] }
def k16m1 : Method := { name := "requireNonNull", desc := "(Ljava/lang/Object;)Ljava/lang/Object;", sig := { parameters := [(.object "java/lang/Object")], returnType := some (.object "java/lang/Object") }, accessFlags := 9, code := some k16c1 }
/-- java/util/Objects -/
def k16 : Class := { plain "java/util/Objects" (some 0) with
  accessFlags := 49
  interfaces := #[]
  cf := some (fileOf pool16 42 #[] #[{ accessFlags := 2, nameIndex := 5, descriptorIndex := 6, attributes := #[] }, { accessFlags := 9, nameIndex := 45, descriptorIndex := 46, attributes := #[] }] 49 2 #[] #[])
  fields := #[]
  methods := #[k16m0, k16m1]
  instanceTypes := #[]
  staticTypes := #[]
  resolved := Array.replicate 184 none
  statics := none }

def pool17 : Array CpInfo := pool [(9, u "<init>"), (6, .class_ 18), (1, u "java/lang/Object"), (0, u "()V"), (1, .class_ 23), (1, u "jdk/internal/util/ArraysSupport"), (0, u "LOG2_ARRAY_LONG_INDEX_SCALE"), (0, u "I"), (2, u "U"), (0, u "Ljdk/internal/misc/Unsafe;"), (8, u "BIG_ENDIAN"), (0, u "Z"), (8, u "LOG2_BYTE_BIT_SIZE"), (4, u "LOG2_ARRAY_INT_INDEX_SCALE"), (54, u "JLA"), (0, u "Ljdk/internal/access/JavaLangAccess;"), (11, u "LOG2_ARRAY_BOOLEAN_INDEX_SCALE"), (9, u "LOG2_ARRAY_BYTE_INDEX_SCALE"), (5, u "LOG2_ARRAY_CHAR_INDEX_SCALE"), (5, u "LOG2_ARRAY_SHORT_INDEX_SCALE"), (18, u "LOG2_ARRAY_FLOAT_INDEX_SCALE"), (24, u "LOG2_ARRAY_DOUBLE_INDEX_SCALE"), (89, u "T_BOOLEAN"), (2, u "T_CHAR"), (1, u "T_FLOAT"), (1, u "T_DOUBLE"), (1, u "T_BYTE"), (1, u "T_SHORT"), (1, u "T_INT"), (1, u "T_LONG"), (1, u "SOFT_MAX_ARRAY_LENGTH")] 83

def k17m0 : Method := { name := "<init>", desc := "()V", sig := { parameters := [], returnType := none }, accessFlags := 2, code := none }
/-- jdk/internal/util/ArraysSupport -/
def k17 : Class := { plain "jdk/internal/util/ArraysSupport" (some 0) with
  accessFlags := 33
  interfaces := #[]
  cf := some (fileOf pool17 21 #[] #[{ accessFlags := 2, nameIndex := 9, descriptorIndex := 19, attributes := #[] }] 33 16 #[] #[{ accessFlags := 24, nameIndex := 28, descriptorIndex := 29, attributes := #[] }, { accessFlags := 26, nameIndex := 38, descriptorIndex := 39, attributes := #[] }, { accessFlags := 25, nameIndex := 121, descriptorIndex := 25, attributes := #[] }, { accessFlags := 25, nameIndex := 131, descriptorIndex := 25, attributes := #[] }, { accessFlags := 25, nameIndex := 137, descriptorIndex := 25, attributes := #[] }, { accessFlags := 25, nameIndex := 143, descriptorIndex := 25, attributes := #[] }, { accessFlags := 25, nameIndex := 53, descriptorIndex := 25, attributes := #[] }, { accessFlags := 25, nameIndex := 24, descriptorIndex := 25, attributes := #[] }, { accessFlags := 25, nameIndex := 162, descriptorIndex := 25, attributes := #[] }, { accessFlags := 25, nameIndex := 187, descriptorIndex := 25, attributes := #[] }, { accessFlags := 26, nameIndex := 48, descriptorIndex := 25, attributes := #[] }, { accessFlags := 25, nameIndex := 277, descriptorIndex := 25, attributes := #[] }, { accessFlags := 25, nameIndex := 280, descriptorIndex := 25, attributes := #[] }, { accessFlags := 25, nameIndex := 282, descriptorIndex := 25, attributes := #[] }, { accessFlags := 25, nameIndex := 284, descriptorIndex := 25, attributes := #[] }, { accessFlags := 25, nameIndex := 286, descriptorIndex := 25, attributes := #[] }, { accessFlags := 25, nameIndex := 288, descriptorIndex := 25, attributes := #[] }, { accessFlags := 25, nameIndex := 290, descriptorIndex := 25, attributes := #[] }, { accessFlags := 25, nameIndex := 292, descriptorIndex := 25, attributes := #[] }, { accessFlags := 26, nameIndex := 108, descriptorIndex := 109, attributes := #[] }, { accessFlags := 25, nameIndex := 294, descriptorIndex := 25, attributes := #[] }])
  fields := #[{ name := "U", type := (.object "jdk/internal/misc/Unsafe"), accessFlags := 24, slot := 0, constantValue := 0 }, { name := "BIG_ENDIAN", type := .boolean, accessFlags := 26, slot := 1, constantValue := 0 }, { name := "LOG2_ARRAY_BOOLEAN_INDEX_SCALE", type := .int, accessFlags := 25, slot := 2, constantValue := 0 }, { name := "LOG2_ARRAY_BYTE_INDEX_SCALE", type := .int, accessFlags := 25, slot := 3, constantValue := 0 }, { name := "LOG2_ARRAY_CHAR_INDEX_SCALE", type := .int, accessFlags := 25, slot := 4, constantValue := 0 }, { name := "LOG2_ARRAY_SHORT_INDEX_SCALE", type := .int, accessFlags := 25, slot := 5, constantValue := 0 }, { name := "LOG2_ARRAY_INT_INDEX_SCALE", type := .int, accessFlags := 25, slot := 6, constantValue := 0 }, { name := "LOG2_ARRAY_LONG_INDEX_SCALE", type := .int, accessFlags := 25, slot := 7, constantValue := 0 }, { name := "LOG2_ARRAY_FLOAT_INDEX_SCALE", type := .int, accessFlags := 25, slot := 8, constantValue := 0 }, { name := "LOG2_ARRAY_DOUBLE_INDEX_SCALE", type := .int, accessFlags := 25, slot := 9, constantValue := 0 }, { name := "LOG2_BYTE_BIT_SIZE", type := .int, accessFlags := 26, slot := 10, constantValue := 0 }, { name := "T_BOOLEAN", type := .int, accessFlags := 25, slot := 11, constantValue := 0 }, { name := "T_CHAR", type := .int, accessFlags := 25, slot := 12, constantValue := 0 }, { name := "T_FLOAT", type := .int, accessFlags := 25, slot := 13, constantValue := 0 }, { name := "T_DOUBLE", type := .int, accessFlags := 25, slot := 14, constantValue := 0 }, { name := "T_BYTE", type := .int, accessFlags := 25, slot := 15, constantValue := 0 }, { name := "T_SHORT", type := .int, accessFlags := 25, slot := 16, constantValue := 0 }, { name := "T_INT", type := .int, accessFlags := 25, slot := 17, constantValue := 0 }, { name := "T_LONG", type := .int, accessFlags := 25, slot := 18, constantValue := 0 }, { name := "JLA", type := (.object "jdk/internal/access/JavaLangAccess"), accessFlags := 26, slot := 19, constantValue := 0 }, { name := "SOFT_MAX_ARRAY_LENGTH", type := .int, accessFlags := 25, slot := 20, constantValue := 0 }]
  methods := #[k17m0]
  instanceTypes := #[]
  staticTypes := #[(.object "jdk/internal/misc/Unsafe"), .boolean, .int, .int, .int, .int, .int, .int, .int, .int, .int, .int, .int, .int, .int, .int, .int, .int, .int, (.object "jdk/internal/access/JavaLangAccess"), .int]
  resolved := Array.replicate 378 none
  statics := none }

/-- the primitive byte -/
def k18 : Class := { plain "byte" none with kind := .primitive 'B', accessFlags := 0x411 }
/-- [B -/
def k19 : Class := { plain "[B" (some 0) with kind := .array 18 .byte, interfaces := #[14, 2], accessFlags := 1041 }

/-- the primitive char -/
def k20 : Class := { plain "char" none with kind := .primitive 'C', accessFlags := 0x411 }
/-- [C -/
def k21 : Class := { plain "[C" (some 0) with kind := .array 20 .char, interfaces := #[14, 2], accessFlags := 1041 }

/-- the primitive int -/
def k22 : Class := { plain "int" none with kind := .primitive 'I', accessFlags := 0x411 }
/-- [I -/
def k23 : Class := { plain "[I" (some 0) with kind := .array 22 .int, interfaces := #[14, 2], accessFlags := 1041 }

/-- [Lcom/example/mimico/mimico/agreement/Halt$Point; -/
def k24 : Class := { plain "[Lcom/example/mimico/mimico/agreement/Halt$Point;" (some 0) with kind := .array 13 (.object "com/example/mimico/mimico/agreement/Halt$Point"), interfaces := #[14, 2], accessFlags := 1041 }

def heap : Heap := #[{ cls := 7, slots := #[.long 0, .int 1, .null, .int 0, .null, .int 0, .int 0], vm := .statics 7 },
  { cls := 10, slots := #[.null, .null, .null], vm := .statics 10 },
  { cls := 13, slots := #[.ref 5, .ref 6, .ref 7, .ref 4], vm := .statics 13 },
  { cls := 15, slots := #[.ref 14], vm := .statics 15 },
  { cls := 24, slots := #[.ref 5, .ref 6, .ref 7], vm := .none },
  { cls := 13, slots := #[.null, .int 0, .int 0, .ref 8], vm := .none },
  { cls := 13, slots := #[.null, .int 1, .int 0, .ref 9], vm := .none },
  { cls := 13, slots := #[.null, .int 2, .int 0, .ref 10], vm := .none },
  { cls := 7, slots := #[.ref 11, .int 0, .int 0, .int 0], vm := .none },
  { cls := 7, slots := #[.ref 12, .int 0, .int 0, .int 0], vm := .none },
  { cls := 7, slots := #[.ref 13, .int 0, .int 0, .int 0], vm := .none },
  { cls := 19, slots := #[.int 97, .int 102, .int 116, .int 101, .int 114, .int 45, .int 99, .int 111, .int 108, .int 108, .int 101, .int 99, .int 116], vm := .none },
  { cls := 19, slots := #[.int 97, .int 102, .int 116, .int 101, .int 114, .int 45, .int 97, .int 99, .int 99, .int 101, .int 112, .int 116], vm := .none },
  { cls := 19, slots := #[.int 97, .int 102, .int 116, .int 101, .int 114, .int 45, .int 100, .int 101, .int 99, .int 105, .int 100, .int 101], vm := .none },
  { cls := 15, slots := #[.null], vm := .none }]
def classes : Array Class := #[k0, k1, k2, k3, k4, k5, k6, k7, k8, k9, k10, k11, k12, k13, k14, k15, k16, k17, k18, k19, k20, k21, k22, k23, k24]
def interned : List (Array UInt16 × Addr) := []
def slotsUsed : Nat := 80
def theMethod : MethodId := ⟨1, 1⟩
def args0 : Array Value := #[.int 0, .int 1, .int 0, .int 65, .int 0]
def aboutOver (below : List Frame) : State where
  vm := { classes := classes, interned := interned.toArray }
  heap := heap
  slotsUsed := slotsUsed
  threads := #[{ frames := .invoking theMethod args0 :: below }]
def below0 : List Frame := [.native { method := ⟨0, 0⟩, args := #[] }]
def about1 : State := aboutOver below0
def p0 : Program := .bare "" "" ""
def e0 : Env := launch0.env 0 0 0
theorem w_frames : about1.frames = Frame.invoking theMethod args0 :: below0 := rfl
set_option maxRecDepth 65536 in
theorem w_args : argsFit about1.vm theMethod args0 = true := by decide +kernel
set_option maxRecDepth 65536 in
theorem w_heap : heapFits about1 = true := by decide +kernel
set_option maxRecDepth 65536 in
theorem w_runnable : about1.curStatus? = some .runnable := by decide +kernel
set_option maxRecDepth 65536 in
theorem w_alone : about1.alone = true := by decide +kernel
set_option maxRecDepth 65536 in
theorem w_named : about1.methodNamed? x = some theMethod := by decide +kernel
set_option maxRecDepth 65536 in
theorem w_hears : about1.hears theMethod below0 = true := by decide +kernel
set_option maxRecDepth 65536 in
theorem w_ripe : about1.ripe theMethod args0 below0 = true := by decide +kernel
theorem w_running : about1.status = .running := rfl
set_option maxRecDepth 65536 in
theorem w_room : about1.hasRoom e0.platform room_1 = true :=
  launch0.hasRoom_least _ room_1 (by decide +kernel) (by decide +kernel) (by decide +kernel) (by decide +kernel) (by decide +kernel) (by decide +kernel)
theorem allAtoms_all (ts : List Jvm.Cond) (a : Array Jvm.Value) (st : Jvm.State) : (allAtoms ts).before a st = ts.all (fun c => c.before a st) := by
  induction ts with
  | nil => rfl
  | cons c t ih =>
    show (Jvm.Cond.and c (allAtoms t)).before a st = _
    rw [Jvm.Cond.before_and, ih, List.all_cons]
def words1 : List Jvm.Cond := Jvm.Cond.code x code maxLocals ret :: tables_1
/-- a 'code' word, met by the world's own term for the bytes: nothing is compared byte by byte -/
theorem code_word {y : MethodName} {bytes : ByteArray} {mx : Nat} {rt : Option FieldType} {a : Array Value} {s : State} {m : MethodId} {meth : Method} {c : Code} (h1 : s.methodNamed? y = some m) (h2 : s.vm.method? m = some meth) (h3 : meth.code = some c) (h4 : c.code = bytes)
    (h5 : (c.maxLocals == mx && c.exceptionTable.isEmpty && decide (c.maxStack ≤ mostOperands) && decide (meth.sig.returnType = rt) && !meth.locks && decide (parseMethodDescriptor y.desc = some meth.sig)) = true) : (Jvm.Cond.code y bytes mx rt).before a s = true := by
  simp only [Bool.and_eq_true, beq_iff_eq, Bool.not_eq_true', decide_eq_true_eq] at h5
  obtain ⟨⟨⟨⟨⟨g1, g2⟩, g3⟩, g4⟩, g5⟩, g6⟩ := h5
  simp [Cond.before, Cond.holds, Cond.value, h1, h2, h3, h4, g1, g2, g3, g4, g5, g6]
def isCode : Jvm.Cond → Bool
  | .code _ _ _ _ => true
  | _ => false
theorem all_split {L : List Jvm.Cond} {P : Jvm.Cond → Bool} (h1 : L.all (fun c => isCode c || P c) = true) (h2 : ∀ c ∈ L.filter isCode, P c = true) : L.all P = true := by
  refine List.all_eq_true.mpr fun c hc => ?_
  have h := List.all_eq_true.mp h1 c hc
  rcases Bool.eq_false_or_eq_true (isCode c) with hi | hi
  · exact h2 c (List.mem_filter.mpr ⟨hc, hi⟩)
  · simpa [hi] using h
set_option maxRecDepth 65536 in
theorem w_c0 : (Jvm.Cond.code x code maxLocals ret).before args0 about1 = true := code_word (m := ⟨1, 1⟩) (meth := k1m1) (c := k1c1) (by decide +kernel) rfl rfl rfl (by decide +kernel)
set_option maxRecDepth 65536 in
theorem w_c1 : (Jvm.Cond.code ({ cls := "java/lang/String", name := "length", desc := "()I" } : Jvm.MethodName) jdk_42_method_54_code (1 : Nat) (Option.some Jvm.ClassFile.FieldType.int)).before args0 about1 = true := code_word (m := ⟨7, 2⟩) (meth := k7m2) (c := k7c2) (by decide +kernel) rfl rfl rfl (by decide +kernel)
set_option maxRecDepth 65536 in
theorem w_c2 : (Jvm.Cond.code ({ cls := "java/lang/String", name := "coder", desc := "()B" } : Jvm.MethodName) jdk_42_method_152_code (1 : Nat) (Option.some Jvm.ClassFile.FieldType.byte)).before args0 about1 = true := code_word (m := ⟨7, 6⟩) (meth := k7m6) (c := k7c6) (by decide +kernel) rfl rfl rfl (by decide +kernel)
set_option maxRecDepth 65536 in
theorem w_c3 : (Jvm.Cond.code ({ cls := "java/lang/Math", name := "max", desc := "(II)I" } : Jvm.MethodName) jdk_29_method_65_code (2 : Nat) (Option.some Jvm.ClassFile.FieldType.int)).before args0 about1 = true := code_word (m := ⟨8, 1⟩) (meth := k8m1) (c := k8c1) (by decide +kernel) rfl rfl rfl (by decide +kernel)
set_option maxRecDepth 65536 in
theorem w_c4 : (Jvm.Cond.code ({ cls := "com/example/mimico/mimico/agreement/PointNamedPinLaw", name := "put", desc := "([CILjava/lang/String;C)V" } : Jvm.MethodName) method_3_code (4 : Nat) (Option.none : Option Jvm.ClassFile.FieldType)).before args0 about1 = true := code_word (m := ⟨1, 2⟩) (meth := k1m2) (c := k1c2) (by decide +kernel) rfl rfl rfl (by decide +kernel)
set_option maxRecDepth 65536 in
theorem w_c5 : (Jvm.Cond.code ({ cls := "java/lang/String", name := "charAt", desc := "(I)C" } : Jvm.MethodName) jdk_42_method_56_code (2 : Nat) (Option.some Jvm.ClassFile.FieldType.char)).before args0 about1 = true := code_word (m := ⟨7, 3⟩) (meth := k7m3) (c := k7c3) (by decide +kernel) rfl rfl rfl (by decide +kernel)
set_option maxRecDepth 65536 in
theorem w_c6 : (Jvm.Cond.code ({ cls := "java/lang/String", name := "isLatin1", desc := "()Z" } : Jvm.MethodName) jdk_42_method_154_code (1 : Nat) (Option.some Jvm.ClassFile.FieldType.boolean)).before args0 about1 = true := code_word (m := ⟨7, 7⟩) (meth := k7m7) (c := k7c7) (by decide +kernel) rfl rfl rfl (by decide +kernel)
set_option maxRecDepth 65536 in
theorem w_c7 : (Jvm.Cond.code ({ cls := "java/lang/StringLatin1", name := "charAt", desc := "([BI)C" } : Jvm.MethodName) jdk_43_method_2_code (2 : Nat) (Option.some Jvm.ClassFile.FieldType.char)).before args0 about1 = true := code_word (m := ⟨9, 1⟩) (meth := k9m1) (c := k9c1) (by decide +kernel) rfl rfl rfl (by decide +kernel)
set_option maxRecDepth 65536 in
theorem w_c8 : (Jvm.Cond.code ({ cls := "java/lang/String", name := "checkIndex", desc := "(II)V" } : Jvm.MethodName) jdk_42_method_155_code (2 : Nat) (Option.none : Option Jvm.ClassFile.FieldType)).before args0 about1 = true := code_word (m := ⟨7, 8⟩) (meth := k7m8) (c := k7c8) (by decide +kernel) rfl rfl rfl (by decide +kernel)
set_option maxRecDepth 65536 in
theorem w_c9 : (Jvm.Cond.code ({ cls := "jdk/internal/util/Preconditions", name := "checkIndex", desc := "(IILjava/util/function/BiFunction;)I" } : Jvm.MethodName) jdk_41_method_11_code (3 : Nat) (Option.some Jvm.ClassFile.FieldType.int)).before args0 about1 = true := code_word (m := ⟨10, 1⟩) (meth := k10m1) (c := k10c1) (by decide +kernel) rfl rfl rfl (by decide +kernel)
set_option maxRecDepth 65536 in
theorem w_c10 : (Jvm.Cond.code ({ cls := "java/lang/String", name := "<init>", desc := "([C)V" } : Jvm.MethodName) jdk_42_method_3_code (2 : Nat) (Option.none : Option Jvm.ClassFile.FieldType)).before args0 about1 = true := code_word (m := ⟨7, 1⟩) (meth := k7m1) (c := k7c1) (by decide +kernel) rfl rfl rfl (by decide +kernel)
set_option maxRecDepth 65536 in
theorem w_c11 : (Jvm.Cond.code ({ cls := "java/lang/String", name := "<init>", desc := "([CIILjava/lang/Void;)V" } : Jvm.MethodName) jdk_42_method_149_code (6 : Nat) (Option.none : Option Jvm.ClassFile.FieldType)).before args0 about1 = true := code_word (m := ⟨7, 5⟩) (meth := k7m5) (c := k7c5) (by decide +kernel) rfl rfl rfl (by decide +kernel)
set_option maxRecDepth 65536 in
theorem w_c12 : (Jvm.Cond.code ({ cls := "java/lang/Object", name := "<init>", desc := "()V" } : Jvm.MethodName) object_method_1_code (1 : Nat) (Option.none : Option Jvm.ClassFile.FieldType)).before args0 about1 = true := code_word (m := ⟨0, 0⟩) (meth := k0m0) (c := k0c0) (by decide +kernel) rfl rfl rfl (by decide +kernel)
set_option maxRecDepth 65536 in
theorem w_c13 : (Jvm.Cond.code ({ cls := "java/lang/StringUTF16", name := "compress", desc := "([CII)[B" } : Jvm.MethodName) jdk_52_method_16_code (6 : Nat) (Option.some (Jvm.ClassFile.FieldType.array Jvm.ClassFile.FieldType.byte))).before args0 about1 = true := code_word (m := ⟨11, 2⟩) (meth := k11m2) (c := k11c2) (by decide +kernel) rfl rfl rfl (by decide +kernel)
set_option maxRecDepth 65536 in
theorem w_c14 : (Jvm.Cond.code ({ cls := "java/lang/StringUTF16", name := "compress", desc := "([CI[BII)I" } : Jvm.MethodName) jdk_52_method_21_code (7 : Nat) (Option.some Jvm.ClassFile.FieldType.int)).before args0 about1 = true := code_word (m := ⟨11, 3⟩) (meth := k11m3) (c := k11c3) (by decide +kernel) rfl rfl rfl (by decide +kernel)
set_option maxRecDepth 65536 in
theorem w_c15 : (Jvm.Cond.code ({ cls := "java/lang/StringUTF16", name := "coderFromArrayLen", desc := "([BI)B" } : Jvm.MethodName) jdk_52_method_15_code (2 : Nat) (Option.some Jvm.ClassFile.FieldType.byte)).before args0 about1 = true := code_word (m := ⟨11, 1⟩) (meth := k11m1) (c := k11c1) (by decide +kernel) rfl rfl rfl (by decide +kernel)
set_option maxRecDepth 65536 in
theorem w_c16 : (Jvm.Cond.code ({ cls := "java/lang/String", name := "equals", desc := "(Ljava/lang/Object;)Z" } : Jvm.MethodName) jdk_42_method_66_code (3 : Nat) (Option.some Jvm.ClassFile.FieldType.boolean)).before args0 about1 = true := code_word (m := ⟨7, 4⟩) (meth := k7m4) (c := k7c4) (by decide +kernel) rfl rfl rfl (by decide +kernel)
set_option maxRecDepth 65536 in
theorem w_c17 : (Jvm.Cond.code ({ cls := "java/lang/StringLatin1", name := "equals", desc := "([B[B)Z" } : Jvm.MethodName) jdk_43_method_13_code (3 : Nat) (Option.some Jvm.ClassFile.FieldType.boolean)).before args0 about1 = true := code_word (m := ⟨9, 2⟩) (meth := k9m2) (c := k9c2) (by decide +kernel) rfl rfl rfl (by decide +kernel)
set_option maxRecDepth 65536 in
theorem w_c18 : (Jvm.Cond.code ({ cls := "com/example/mimico/mimico/agreement/Halt$Point", name := "named", desc := "(Ljava/lang/String;)Ljava/util/Optional;" } : Jvm.MethodName) prog_7_method_5_code (5 : Nat) (Option.some (Jvm.ClassFile.FieldType.object "java/util/Optional"))).before args0 about1 = true := code_word (m := ⟨13, 1⟩) (meth := k13m1) (c := k13c1) (by decide +kernel) rfl rfl rfl (by decide +kernel)
set_option maxRecDepth 65536 in
theorem w_c19 : (Jvm.Cond.code ({ cls := "com/example/mimico/mimico/agreement/Halt$Point", name := "values", desc := "()[Lcom/example/mimico/mimico/agreement/Halt$Point;" } : Jvm.MethodName) prog_7_method_1_code (0 : Nat) (Option.some (Jvm.ClassFile.FieldType.array (Jvm.ClassFile.FieldType.object "com/example/mimico/mimico/agreement/Halt$Point")))).before args0 about1 = true := code_word (m := ⟨13, 0⟩) (meth := k13m0) (c := k13c0) (by decide +kernel) rfl rfl rfl (by decide +kernel)
set_option maxRecDepth 65536 in
theorem w_c20 : (Jvm.Cond.code ({ cls := "java/util/Optional", name := "empty", desc := "()Ljava/util/Optional;" } : Jvm.MethodName) jdk_32_method_1_code (1 : Nat) (Option.some (Jvm.ClassFile.FieldType.object "java/util/Optional"))).before args0 about1 = true := code_word (m := ⟨15, 0⟩) (meth := k15m0) (c := k15c0) (by decide +kernel) rfl rfl rfl (by decide +kernel)
set_option maxRecDepth 65536 in
theorem w_c21 : (Jvm.Cond.code ({ cls := "java/util/Optional", name := "orElse", desc := "(Ljava/lang/Object;)Ljava/lang/Object;" } : Jvm.MethodName) jdk_32_method_15_code (2 : Nat) (Option.some (Jvm.ClassFile.FieldType.object "java/lang/Object"))).before args0 about1 = true := code_word (m := ⟨15, 3⟩) (meth := k15m3) (c := k15c3) (by decide +kernel) rfl rfl rfl (by decide +kernel)
set_option maxRecDepth 65536 in
theorem w_c22 : (Jvm.Cond.code ({ cls := "java/util/Optional", name := "of", desc := "(Ljava/lang/Object;)Ljava/util/Optional;" } : Jvm.MethodName) jdk_32_method_3_code (1 : Nat) (Option.some (Jvm.ClassFile.FieldType.object "java/util/Optional"))).before args0 about1 = true := code_word (m := ⟨15, 2⟩) (meth := k15m2) (c := k15c2) (by decide +kernel) rfl rfl rfl (by decide +kernel)
set_option maxRecDepth 65536 in
theorem w_c23 : (Jvm.Cond.code ({ cls := "java/util/Objects", name := "requireNonNull", desc := "(Ljava/lang/Object;)Ljava/lang/Object;" } : Jvm.MethodName) jdk_31_method_10_code (1 : Nat) (Option.some (Jvm.ClassFile.FieldType.object "java/lang/Object"))).before args0 about1 = true := code_word (m := ⟨16, 1⟩) (meth := k16m1) (c := k16c1) (by decide +kernel) rfl rfl rfl (by decide +kernel)
set_option maxRecDepth 65536 in
theorem w_c24 : (Jvm.Cond.code ({ cls := "java/util/Optional", name := "<init>", desc := "(Ljava/lang/Object;)V" } : Jvm.MethodName) jdk_32_method_2_code (2 : Nat) (Option.none : Option Jvm.ClassFile.FieldType)).before args0 about1 = true := code_word (m := ⟨15, 1⟩) (meth := k15m1) (c := k15c1) (by decide +kernel) rfl rfl rfl (by decide +kernel)
def codes1 : List Jvm.Cond := [Jvm.Cond.code x code maxLocals ret, Jvm.Cond.code ({ cls := "java/lang/String", name := "length", desc := "()I" } : Jvm.MethodName) jdk_42_method_54_code (1 : Nat) (Option.some Jvm.ClassFile.FieldType.int), Jvm.Cond.code ({ cls := "java/lang/String", name := "coder", desc := "()B" } : Jvm.MethodName) jdk_42_method_152_code (1 : Nat) (Option.some Jvm.ClassFile.FieldType.byte), Jvm.Cond.code ({ cls := "java/lang/Math", name := "max", desc := "(II)I" } : Jvm.MethodName) jdk_29_method_65_code (2 : Nat) (Option.some Jvm.ClassFile.FieldType.int), Jvm.Cond.code ({ cls := "com/example/mimico/mimico/agreement/PointNamedPinLaw", name := "put", desc := "([CILjava/lang/String;C)V" } : Jvm.MethodName) method_3_code (4 : Nat) (Option.none : Option Jvm.ClassFile.FieldType), Jvm.Cond.code ({ cls := "java/lang/String", name := "charAt", desc := "(I)C" } : Jvm.MethodName) jdk_42_method_56_code (2 : Nat) (Option.some Jvm.ClassFile.FieldType.char), Jvm.Cond.code ({ cls := "java/lang/String", name := "isLatin1", desc := "()Z" } : Jvm.MethodName) jdk_42_method_154_code (1 : Nat) (Option.some Jvm.ClassFile.FieldType.boolean), Jvm.Cond.code ({ cls := "java/lang/StringLatin1", name := "charAt", desc := "([BI)C" } : Jvm.MethodName) jdk_43_method_2_code (2 : Nat) (Option.some Jvm.ClassFile.FieldType.char), Jvm.Cond.code ({ cls := "java/lang/String", name := "checkIndex", desc := "(II)V" } : Jvm.MethodName) jdk_42_method_155_code (2 : Nat) (Option.none : Option Jvm.ClassFile.FieldType), Jvm.Cond.code ({ cls := "jdk/internal/util/Preconditions", name := "checkIndex", desc := "(IILjava/util/function/BiFunction;)I" } : Jvm.MethodName) jdk_41_method_11_code (3 : Nat) (Option.some Jvm.ClassFile.FieldType.int), Jvm.Cond.code ({ cls := "java/lang/String", name := "<init>", desc := "([C)V" } : Jvm.MethodName) jdk_42_method_3_code (2 : Nat) (Option.none : Option Jvm.ClassFile.FieldType), Jvm.Cond.code ({ cls := "java/lang/String", name := "<init>", desc := "([CIILjava/lang/Void;)V" } : Jvm.MethodName) jdk_42_method_149_code (6 : Nat) (Option.none : Option Jvm.ClassFile.FieldType), Jvm.Cond.code ({ cls := "java/lang/Object", name := "<init>", desc := "()V" } : Jvm.MethodName) object_method_1_code (1 : Nat) (Option.none : Option Jvm.ClassFile.FieldType), Jvm.Cond.code ({ cls := "java/lang/StringUTF16", name := "compress", desc := "([CII)[B" } : Jvm.MethodName) jdk_52_method_16_code (6 : Nat) (Option.some (Jvm.ClassFile.FieldType.array Jvm.ClassFile.FieldType.byte)), Jvm.Cond.code ({ cls := "java/lang/StringUTF16", name := "compress", desc := "([CI[BII)I" } : Jvm.MethodName) jdk_52_method_21_code (7 : Nat) (Option.some Jvm.ClassFile.FieldType.int), Jvm.Cond.code ({ cls := "java/lang/StringUTF16", name := "coderFromArrayLen", desc := "([BI)B" } : Jvm.MethodName) jdk_52_method_15_code (2 : Nat) (Option.some Jvm.ClassFile.FieldType.byte), Jvm.Cond.code ({ cls := "java/lang/String", name := "equals", desc := "(Ljava/lang/Object;)Z" } : Jvm.MethodName) jdk_42_method_66_code (3 : Nat) (Option.some Jvm.ClassFile.FieldType.boolean), Jvm.Cond.code ({ cls := "java/lang/StringLatin1", name := "equals", desc := "([B[B)Z" } : Jvm.MethodName) jdk_43_method_13_code (3 : Nat) (Option.some Jvm.ClassFile.FieldType.boolean), Jvm.Cond.code ({ cls := "com/example/mimico/mimico/agreement/Halt$Point", name := "named", desc := "(Ljava/lang/String;)Ljava/util/Optional;" } : Jvm.MethodName) prog_7_method_5_code (5 : Nat) (Option.some (Jvm.ClassFile.FieldType.object "java/util/Optional")), Jvm.Cond.code ({ cls := "com/example/mimico/mimico/agreement/Halt$Point", name := "values", desc := "()[Lcom/example/mimico/mimico/agreement/Halt$Point;" } : Jvm.MethodName) prog_7_method_1_code (0 : Nat) (Option.some (Jvm.ClassFile.FieldType.array (Jvm.ClassFile.FieldType.object "com/example/mimico/mimico/agreement/Halt$Point"))), Jvm.Cond.code ({ cls := "java/util/Optional", name := "empty", desc := "()Ljava/util/Optional;" } : Jvm.MethodName) jdk_32_method_1_code (1 : Nat) (Option.some (Jvm.ClassFile.FieldType.object "java/util/Optional")), Jvm.Cond.code ({ cls := "java/util/Optional", name := "orElse", desc := "(Ljava/lang/Object;)Ljava/lang/Object;" } : Jvm.MethodName) jdk_32_method_15_code (2 : Nat) (Option.some (Jvm.ClassFile.FieldType.object "java/lang/Object")), Jvm.Cond.code ({ cls := "java/util/Optional", name := "of", desc := "(Ljava/lang/Object;)Ljava/util/Optional;" } : Jvm.MethodName) jdk_32_method_3_code (1 : Nat) (Option.some (Jvm.ClassFile.FieldType.object "java/util/Optional")), Jvm.Cond.code ({ cls := "java/util/Objects", name := "requireNonNull", desc := "(Ljava/lang/Object;)Ljava/lang/Object;" } : Jvm.MethodName) jdk_31_method_10_code (1 : Nat) (Option.some (Jvm.ClassFile.FieldType.object "java/lang/Object")), Jvm.Cond.code ({ cls := "java/util/Optional", name := "<init>", desc := "(Ljava/lang/Object;)V" } : Jvm.MethodName) jdk_32_method_2_code (2 : Nat) (Option.none : Option Jvm.ClassFile.FieldType)]
set_option maxRecDepth 65536 in
theorem codes_eq : words1.filter isCode = codes1 := rfl
theorem w_codes : ∀ c ∈ words1.filter isCode, c.before args0 about1 = true := by
  rw [codes_eq]
  intro c hc
  simp only [codes1, List.mem_cons, List.not_mem_nil, or_false] at hc
  rcases hc with rfl | rfl | rfl | rfl | rfl | rfl | rfl | rfl | rfl | rfl | rfl | rfl | rfl | rfl | rfl | rfl | rfl | rfl | rfl | rfl | rfl | rfl | rfl | rfl | rfl
  · exact w_c0
  · exact w_c1
  · exact w_c2
  · exact w_c3
  · exact w_c4
  · exact w_c5
  · exact w_c6
  · exact w_c7
  · exact w_c8
  · exact w_c9
  · exact w_c10
  · exact w_c11
  · exact w_c12
  · exact w_c13
  · exact w_c14
  · exact w_c15
  · exact w_c16
  · exact w_c17
  · exact w_c18
  · exact w_c19
  · exact w_c20
  · exact w_c21
  · exact w_c22
  · exact w_c23
  · exact w_c24
set_option maxRecDepth 65536 in
theorem w_t1 : (words1.take 24).all (fun c => isCode c || c.before args0 about1) = true := by decide +kernel
set_option maxRecDepth 65536 in
theorem w_t2 : ((words1.drop 24).take 24).all (fun c => isCode c || c.before args0 about1) = true := by decide +kernel
set_option maxRecDepth 65536 in
theorem w_t3 : (((words1.drop 24).drop 24).take 24).all (fun c => isCode c || c.before args0 about1) = true := by decide +kernel
set_option maxRecDepth 65536 in
theorem w_t4 : ((((words1.drop 24).drop 24).drop 24).take 24).all (fun c => isCode c || c.before args0 about1) = true := by decide +kernel
set_option maxRecDepth 65536 in
theorem w_t5 : (((((words1.drop 24).drop 24).drop 24).drop 24).take 24).all (fun c => isCode c || c.before args0 about1) = true := by decide +kernel
set_option maxRecDepth 65536 in
theorem w_t6 : ((((((words1.drop 24).drop 24).drop 24).drop 24).drop 24).take 24).all (fun c => isCode c || c.before args0 about1) = true := by decide +kernel
set_option maxRecDepth 65536 in
theorem w_t7 : ((((((words1.drop 24).drop 24).drop 24).drop 24).drop 24).drop 24).all (fun c => isCode c || c.before args0 about1) = true := by decide +kernel
theorem w_tables : (allAtoms (Jvm.Cond.code x code maxLocals ret :: tables_1)).before args0 about1 = true := by
  rw [allAtoms_all]
  show words1.all (fun c => c.before args0 about1) = true
  refine all_split ?_ w_codes
  rw [← List.take_append_drop 24 words1, List.all_append, w_t1, ← List.take_append_drop 24 (words1.drop 24), List.all_append, w_t2, ← List.take_append_drop 24 ((words1.drop 24).drop 24), List.all_append, w_t3, ← List.take_append_drop 24 (((words1.drop 24).drop 24).drop 24), List.all_append, w_t4, ← List.take_append_drop 24 ((((words1.drop 24).drop 24).drop 24).drop 24), List.all_append, w_t5, ← List.take_append_drop 24 (((((words1.drop 24).drop 24).drop 24).drop 24).drop 24), List.all_append, w_t6, w_t7]
  rfl
set_option maxRecDepth 65536 in
theorem w_rest : rest_1_c.before args0 about1 = true := by decide +kernel
set_option maxRecDepth 65536 in
theorem w_case : (Jvm.Cond.and given_1 narrow_1).before args0 about1 = true := by decide +kernel
set_option maxRecDepth 65536 in
theorem w_consts : constsHeld consts_1 about1 := Jvm.Lit.constsHeldB_iff.mp (by decide +kernel)
theorem w_applies : (headSpec (Jvm.Cond.code x code maxLocals ret :: tables_1) room_1).applies x e0.platform about1 = true :=
  (Spec.applies_iff w_frames).mpr ⟨w_running, w_runnable, w_alone, w_named, w_hears, w_ripe, w_room, w_tables⟩
theorem atStart : AtStart classFile x code maxLocals ret World_1 tables_1 room_1 Calls_1 rest_1 Pre_1 launch0 p0 e0 about1 theMethod args0 below0 :=
  ⟨lists_1, trivial, launch0.admits_env _ _ _, launch0.least_env, fairChoices_fair.cas, fairChoices_fair.clock, w_frames, w_args, w_heap, w_applies, ⟨w_consts, trivial⟩, w_rest, w_case⟩
end start1
theorem witness_1 : WitnessClaimed_1 := ⟨start1.p0, start1.e0, start1.about1, start1.theMethod, start1.args0, start1.below0, start1.atStart⟩
end Jvm.Pilot.@@N@@
