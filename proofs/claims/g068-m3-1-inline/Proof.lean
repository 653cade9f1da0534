import JvmDerived
import JvmDerived.Pilot.@@N@@Statement
import JvmDerived.Pilot.@@N@@Code
set_option linter.unusedVariables false
set_option linter.unusedSimpArgs false
namespace Jvm.OwnKit
open Jvm Jvm.ClassFile Sem Op Lib Jvm.Free Jvm.Stand Jvm.LawKit Jvm.RoadKit Bundle
/-- what a walk keeps hidden: the old cells stand; narrow (w = false): the tables of the start; wide: since when, what is booked, and which cells are surely not booked -/
def Hid (w : Bool) (Z : State) (EL : List (String × Nat)) (n0 : Nat) (My : List Addr) (s : State) (vm : Vm) (h : Heap) (below : List Frame) : Prop :=
  Old Z n0 h ∧ ((w = false → vm = s.vm) ∧ s.vm.MethodsKnown ∧ s.vm.FramesKnown below ∧ Old Z n0 s.heap) ∧ (w = true → (∃ a0, EW Z a0 EL) ∧ (∃ k0, s.Since vm k0 ∧ k0 ≤ h.size) ∧ CHr Z EL s.vm s.heap vm h ∧ ∀ x ∈ My, x < h.size ∧ Safe Z EL vm h x)
def EndW (w : Bool) (Z : State) (EL : List (String × Nat)) (Ny : List Addr) (R : Room) (s : State) (o : Outcome) (t : State) (L : List Loc) : Prop :=
  (w = false → FrameEnd s o t L R.cells R.slots) ∧ (w = true → ReturnedEndW s o t L R.cells R.slots ∧ CHr Z EL s.vm s.heap t.vm t.heap ∧ ∀ x ∈ Ny, x < t.heap.size ∧ Safe Z EL t.vm t.heap x)
/-- from here the method returns, with Q -/
def Run (w : Bool) (l : Launch) (Z : State) (EL : List (String × Nat)) (n0 : Nat) (own nm : String) (B : ByteArray) (ret : Option FieldType) (R : Room) (Q : Option Value → Heap → Prop) (Ny : Option Value → List Addr)
    (My : List Addr) (h : Heap) (cells slots pc : Nat) (ls : Array Slot) (st : List Value) : Prop :=
  ∀ (p : Program) (e : Env) (s : State) (m : MethodId) (args : Array Value) (below : List Frame) (meth : Method) (c : Code) (T : State) (locs : List Loc) (vm : Vm),
    p.tables.exec = Jvm.exec → c.code = B → c.maxLocals = ls.size → meth.sig.returnType = ret → meth.name = nm → meth.locks = false → Z.Warmed39 vm → vm.findClass own = some m.cls →
    Stand p l e R (s.setVm vm) m args below meth c T locs cells slots → T.heap = h → Fr n0 locs → Hid w Z EL n0 My s vm h below →
    ∃ t o, Steps p.tables e below (T.setTop (mkF m pc ls st)) t ∧ t.status = .running ∧ Ended t below o ∧ ∃ v L, o = .returned v ∧ Q v t.heap ∧ Fr n0 L ∧ EndW w Z EL (Ny v) R s o t L
/-- the contract of a method at one start -/
def Ok (w : Bool) (l : Launch) (Z : State) (EL : List (String × Nat)) (n0 : Nat) (My : List Addr) (y : MethodName) (B : ByteArray) (maxL : Nat) (ret : Option FieldType) (rm : Room) (as : Array Value) (h : Heap) (Q : Option Value → Heap → Prop) (Ny : Option Value → List Addr) : Prop :=
  ∀ ws : List Jvm.Cond, MetFree l y (head1 (Jvm.Cond.code y B maxL ret :: ws) rm) (fun a U => a = as ∧ Z.Warmed39 U.vm ∧ U.heap = h ∧ Old Z n0 h ∧ (w = true → (∃ a0, EW Z a0 EL) ∧ CHv Z EL U.vm h ∧ ∀ x ∈ My, x < h.size ∧ Safe Z EL U.vm h x)) (fun _ _ bl s _ => s.vm.MethodsKnown ∧ s.vm.FramesKnown bl)
    (fun _ U o U' => ∃ v L, o = .returned v ∧ Q v U'.heap ∧ Fr n0 L ∧ EndW w Z EL (Ny v) rm U o U' L)
/-- this cell may be written: it is no booked String and no booked String's array -/
def Sf (w : Bool) (Z : State) (h : Heap) (My : List Addr) (x : Addr) : Prop := w = false ∨ x ∈ My ∨ (∃ C, Exa Z h x C ∧ C ≠ "java/lang/String" ∧ C ≠ "[B") ∨ ∃ c ty, Arr Z h x c ty ∧ ty ≠ .byte
theorem setAt_size {l l' : Array Slot} {i : Nat} {x : Slot} (h : setAt l i x = some l') : l'.size = l.size := by
  change (if i < l.size then some (l.setIfInBounds i x) else none) = some l' at h
  split at h
  · cases h; simp
  · cases h
theorem storeSelf_size {l l' : Array Slot} {i : Nat} {v : Value} (h : storeSelf l i v = some l') : l'.size = l.size := by
  simp only [storeSelf, Option.bind_eq_bind, Option.bind_eq_some_iff] at h
  obtain ⟨l1, h1, h2⟩ := h
  have e1 := setAt_size h1
  split at h2
  · simp only [Option.bind_eq_some_iff] at h2
    obtain ⟨o, -, h3⟩ := h2
    split at h3
    · split at h3
      · simp only [Option.bind_eq_some_iff] at h3
        obtain ⟨l2, h4, h5⟩ := h3
        rw [setAt_size h5, setAt_size h4, e1]
      · rw [setAt_size h3, e1]
    · rw [setAt_size h3, e1]
  · cases h2; exact e1
theorem storeLocals_size {l l' : Array Slot} {i : Nat} {v : Value} (h : storeLocals l i v = some l') : l'.size = l.size := by
  simp only [storeLocals, Option.bind_eq_bind, Option.bind_eq_some_iff] at h
  obtain ⟨o, -, h2⟩ := h
  split at h2
  · simp only [Option.bind_eq_some_iff] at h2
    obtain ⟨l2, h3, h4⟩ := h2
    rw [storeSelf_size h4, setAt_size h3]
  · split at h2
    · simp only [Option.bind_eq_some_iff] at h2
      obtain ⟨l2, h3, h4⟩ := h2
      rw [storeSelf_size h4, setAt_size h3]
    · exact storeSelf_size h2
  · exact storeSelf_size h2
section Rules
variable {w : Bool} {l : Launch} {Z : State} {EL : List (String × Nat)} {n0 : Nat} {own nm : String} {B : ByteArray} {ret : Option FieldType} {R : Room} {Q : Option Value → Heap → Prop} {Ny : Option Value → List Addr} {My : List Addr} {h : Heap} {cells slots pc : Nat} {ls : Array Slot} {st : List Value} {a0 : Array Value}
theorem Run.cast {st' : List Value} (e : st = st') (r : Run w l Z EL n0 own nm B ret R Q Ny My h cells slots pc ls st') : Run w l Z EL n0 own nm B ret R Q Ny My h cells slots pc ls st := e ▸ r
theorem Run.castL {ls' : Array Slot} (e : ls = ls') (r : Run w l Z EL n0 own nm B ret R Q Ny My h cells slots pc ls' st) : Run w l Z EL n0 own nm B ret R Q Ny My h cells slots pc ls st := e ▸ r
theorem Run.join {α : Type} {pc' : Nat} (P : α → Prop) (ls' : α → Array Slot) (st' : α → List Value) (hJ : ∀ x, P x → Run w l Z EL n0 own nm B ret R Q Ny My h cells slots pc' (ls' x) (st' x)) (hK : (∀ x, P x → Run w l Z EL n0 own nm B ret R Q Ny My h cells slots pc' (ls' x) (st' x)) → Run w l Z EL n0 own nm B ret R Q Ny My h cells slots pc ls st) : Run w l Z EL n0 own nm B ret R Q Ny My h cells slots pc ls st := hK hJ
theorem Run.joinH {α : Type} {pc' cells' slots' : Nat} (P : α → Heap → Prop) (My' : α → List Addr) (ls' : α → Array Slot) (st' : α → List Value) (hJ : ∀ x h', P x h' → Run w l Z EL n0 own nm B ret R Q Ny (My' x) h' cells' slots' pc' (ls' x) (st' x)) (hK : (∀ x h', P x h' → Run w l Z EL n0 own nm B ret R Q Ny (My' x) h' cells' slots' pc' (ls' x) (st' x)) → Run w l Z EL n0 own nm B ret R Q Ny My h cells slots pc ls st) : Run w l Z EL n0 own nm B ret R Q Ny My h cells slots pc ls st := hK hJ
theorem Run.old (r : Old Z n0 h → Run w l Z EL n0 own nm B ret R Q Ny My h cells slots pc ls st) : Run w l Z EL n0 own nm B ret R Q Ny My h cells slots pc ls st :=
  fun p e s m args below meth c T locs vm hx hby hml hret hnm hlk hZ hown X eT N hH => r hH.1 p e s m args below meth c T locs vm hx hby hml hret hnm hlk hZ hown X eT N hH
theorem Run.pure {pc' : Nat} {ls' : Array Slot} {st' : List Value} (H : ∀ (p : Program) (e : Env) (below : List Frame) (T : State) (m : MethodId) (c : Code) (target : State), At T m c below → p.tables.exec = Jvm.exec → c.code = B → Steps p.tables e below (T.setTop (mkF m pc' ls' st')) target → Steps p.tables e below (T.setTop (mkF m pc ls st)) target)
    (hsz : ls'.size = ls.size) (hr : Run w l Z EL n0 own nm B ret R Q Ny My h cells slots pc' ls' st') : Run w l Z EL n0 own nm B ret R Q Ny My h cells slots pc ls st := by
  intro p e s m args below meth c T locs vm hx hby hml hret hnm hlk hZ hown X eT N hH
  obtain ⟨t, o, hs, r⟩ := hr p e s m args below meth c T locs vm hx hby (hml.trans hsz.symm) hret hnm hlk hZ hown X eT N hH
  exact ⟨t, o, H p e below T m c t X.here hx hby hs, r⟩
/-- a step that may warm the tables, over one heap -/
theorem Run.warm {pc' : Nat} {st' : List Value} (H : ∀ (p : Program) (e : Env) (s : State) (m : MethodId) (args : Array Value) (below : List Frame) (meth : Method) (c : Code) (T : State) (locs : List Loc), p.tables.exec = Jvm.exec → c.code = B → c.maxLocals = ls.size → meth.name = nm → Z.Warmed39 s.vm → s.vm.findClass own = some m.cls → Stand p l e R s m args below meth c T locs cells slots → T.heap = h → Old Z n0 h →
      ∃ T', Stand p l e R s m args below meth c T' locs cells slots ∧ T'.heap = h ∧ ∀ target, Steps p.tables e below (T'.setTop (mkF m pc' ls st')) target → Steps p.tables e below (T.setTop (mkF m pc ls st)) target)
    (hr : Run w l Z EL n0 own nm B ret R Q Ny My h cells slots pc' ls st') : Run w l Z EL n0 own nm B ret R Q Ny My h cells slots pc ls st := by
  intro p e s m args below meth c T locs vm hx hby hml hret hnm hlk hZ hown X eT N hH
  obtain ⟨T', X', e', stp⟩ := H p e (s.setVm vm) m args below meth c T locs hx hby hml hnm hZ hown X eT hH.1
  obtain ⟨t, o, hs, r⟩ := hr p e s m args below meth c T' locs vm hx hby hml hret hnm hlk hZ hown X' e' N hH
  exact ⟨t, o, stp t hs, r⟩
theorem Hid.known {below : List Frame} {s : State} {vm : Vm} (H : Hid w Z EL n0 My s vm h below) : vm.MethodsKnown ∧ vm.FramesKnown below := by
  obtain ⟨-, ⟨h1, h2, h3, -⟩, h4⟩ := H
  cases w with
  | false => rw [h1 rfl]; exact ⟨h2, h3⟩
  | true =>
    obtain ⟨-, ⟨k0, hS, -⟩, -⟩ := h4 rfl
    exact ⟨Vm.MethodsKnown.alikeC hS.1.alike h2, Vm.FramesKnown.alikeC hS.1.alike h3⟩
theorem Hid.ext {below : List Frame} {s : State} {vm : Vm} {h' : Heap} (H : Hid w Z EL n0 My s vm h below) (E : Ext h h') : Hid w Z EL n0 My s vm h' below :=
  ⟨H.1.ext E, H.2.1, fun q => by
    obtain ⟨hEW, ⟨k0, a, b⟩, c, d⟩ := H.2.2 q
    exact ⟨hEW, ⟨k0, a, Nat.le_trans b E.1⟩, c.trans (CHr.ext E c.1), fun x hx => ⟨Nat.lt_of_lt_of_le (d x hx).1 E.1, (d x hx).2.ext E c.1⟩⟩⟩
/-- what was just made is not booked -/
theorem Hid.extNew {below : List Frame} {s : State} {vm : Vm} {h' : Heap} (H : Hid w Z EL n0 My s vm h below) (E : Ext h h') (hlt : h.size < h'.size) : Hid w Z EL n0 (h.size :: My) s vm h' below :=
  ⟨H.1.ext E, H.2.1, fun q => by
    obtain ⟨hEW, ⟨k0, a, b⟩, c, d⟩ := H.2.2 q
    refine ⟨hEW, ⟨k0, a, Nat.le_trans b E.1⟩, c.trans (CHr.ext E c.1), fun x hx => ?_⟩
    rcases List.mem_cons.mp hx with rfl | hx
    · exact ⟨hlt, (Safe.new (Nat.le_refl _)).ext E c.1⟩
    · exact ⟨Nat.lt_of_lt_of_le (d x hx).1 E.1, (d x hx).2.ext E c.1⟩⟩
theorem Sf.safe {vm : Vm} {x : Addr} (S : Sf w Z h My x) (q : w = true) (hal : Z.vm.Alike vm) (d : ∀ x ∈ My, x < h.size ∧ Safe Z EL vm h x) : Safe Z EL vm h x := by
  rcases S with e | e | ⟨C, e, h1, h2⟩ | ⟨c, ty, e, h1⟩
  · rw [q] at e; cases e
  · exact (d x e).2
  · exact Safe.exa hal e h1 h2
  · exact Safe.arr hal e h1
theorem Hid.keep {below : List Frame} {s : State} {vm : Vm} {h' : Heap} {ws : List Addr} (H : Hid w Z EL n0 My s vm h below) (hZ : Z.Warmed39 vm) (K : Keep h h' ws) (hs : ∀ x ∈ ws, n0 ≤ x ∧ Sf w Z h My x) : Hid w Z EL n0 My s vm h' below :=
  ⟨H.1.keep K fun x hx => (hs x hx).1, H.2.1, fun q => by
    obtain ⟨hEW, ⟨k0, a, b⟩, c, d⟩ := H.2.2 q
    have sf : ∀ x ∈ ws, Safe Z EL vm h x := fun x hx => (hs x hx).2.safe q hZ.alike d
    exact ⟨hEW, ⟨k0, a, Nat.le_trans b K.1⟩, c.trans (CHr.keep K sf c.1), fun x hx => ⟨Nat.lt_of_lt_of_le (d x hx).1 K.1, (d x hx).2.keep K sf c.1⟩⟩⟩
theorem Hid.keepNew {below : List Frame} {s : State} {vm : Vm} {h' : Heap} {ws F : List Addr} (H : Hid w Z EL n0 My s vm h below) (hZ : Z.Warmed39 vm) (K : Keep h h' ws) (hs : ∀ x ∈ ws, n0 ≤ x ∧ Sf w Z h My x) (hF : ∀ x ∈ F, (x ∈ My ∨ h.size ≤ x) ∧ x < h'.size) : Hid w Z EL n0 (F ++ My) s vm h' below := by
  obtain ⟨H1, H2, H3⟩ := H.keep hZ K hs
  refine ⟨H1, H2, fun q => ?_⟩
  obtain ⟨hEW, ⟨k0, a, b⟩, c, d⟩ := H.2.2 q
  obtain ⟨g1, g2, g3, g4⟩ := H3 q
  have sf : ∀ x ∈ ws, Safe Z EL vm h x := fun x hx => (hs x hx).2.safe q hZ.alike d
  refine ⟨g1, g2, g3, fun x hx => ?_⟩
  rcases List.mem_append.mp hx with hx | hx
  · rcases (hF x hx).1 with e | e
    · exact g4 x e
    · exact ⟨(hF x hx).2, (Safe.new e).keep K sf c.1⟩
  · exact g4 x hx
theorem Run.forget {My' : List Addr} (hsub : ∀ x ∈ My', x ∈ My) (r : Run w l Z EL n0 own nm B ret R Q Ny My' h cells slots pc ls st) : Run w l Z EL n0 own nm B ret R Q Ny My h cells slots pc ls st :=
  fun p e s m args below meth c T locs vm hx hby hml hret hnm hlk hZ hown X eT N hH => r p e s m args below meth c T locs vm hx hby hml hret hnm hlk hZ hown X eT N ⟨hH.1, hH.2.1, fun q => ⟨(hH.2.2 q).1, (hH.2.2 q).2.1, (hH.2.2 q).2.2.1, fun x hx => (hH.2.2 q).2.2.2 x (hsub x hx)⟩⟩
/-- more room used than told -/
theorem Run.spend {cells' slots' : Nat} (h1 : cells ≤ cells') (h2 : slots ≤ slots') (r : Run w l Z EL n0 own nm B ret R Q Ny My h cells' slots' pc ls st) : Run w l Z EL n0 own nm B ret R Q Ny My h cells slots pc ls st :=
  fun p e s m args below meth c T locs vm hx hby hml hret hnm hlk hZ hown X eT N hH => r p e s m args below meth c T locs vm hx hby hml hret hnm hlk hZ hown (X.mono h1 h2) eT N hH
theorem Run.post {Q' : Option Value → Heap → Prop} {Ny' : Option Value → List Addr} (hQ : ∀ v h', Q' v h' → Q v h') (hN : ∀ v, ∀ x ∈ Ny v, x ∈ Ny' v) (r : Run w l Z EL n0 own nm B ret R Q' Ny' My h cells slots pc ls st) : Run w l Z EL n0 own nm B ret R Q Ny My h cells slots pc ls st := by
  intro p e s m args below meth c T locs vm hx hby hml hret hnm hlk hZ hown X eT N hH
  obtain ⟨t, o, hs, h1, h2, v, L, h3, h4, h5, h6, h7⟩ := r p e s m args below meth c T locs vm hx hby hml hret hnm hlk hZ hown X eT N hH
  exact ⟨t, o, hs, h1, h2, v, L, h3, hQ _ _ h4, h5, h6, fun q => ⟨(h7 q).1, (h7 q).2.1, fun x hx => (h7 q).2.2 x (hN v x hx)⟩⟩
theorem r_aloadN {pc' : Nat} {k : Fin 4} {v : Value} (hd : decode B pc = .ok (.aload_n k, 1)) (hp : pc + 1 = pc') (hl : ls[k.val]? = some (.val v)) (hv : v.isRef = true) (hr : Run w l Z EL n0 own nm B ret R Q Ny My h cells slots pc' ls (v :: st)) : Run w l Z EL n0 own nm B ret R Q Ny My h cells slots pc ls (st) :=
  Run.pure (fun p e below T m c target hA hx hby hs => XS.aloadN hA hx rfl (hb hby hd) hl hv (by subst hp; exact hs)) rfl hr
theorem r_aload {pc' : Nat} {k : Nat} {v : Value} (hd : decode B pc = .ok (.aload k, 2)) (hp : pc + 2 = pc') (hl : ls[k]? = some (.val v)) (hv : v.isRef = true) (hr : Run w l Z EL n0 own nm B ret R Q Ny My h cells slots pc' ls (v :: st)) : Run w l Z EL n0 own nm B ret R Q Ny My h cells slots pc ls (st) :=
  Run.pure (fun p e below T m c target hA hx hby hs => XS.aload hA hx rfl (hb hby hd) hl hv (by subst hp; exact hs)) rfl hr
theorem r_iloadN {pc' : Nat} {k : Fin 4} {v : Int32} (hd : decode B pc = .ok (.iload_n k, 1)) (hp : pc + 1 = pc') (hl : ls[k.val]? = some (.val (.int v))) (hr : Run w l Z EL n0 own nm B ret R Q Ny My h cells slots pc' ls (.int v :: st)) : Run w l Z EL n0 own nm B ret R Q Ny My h cells slots pc ls (st) :=
  Run.pure (fun p e below T m c target hA hx hby hs => XS.iloadN hA hx rfl (hb hby hd) hl (by subst hp; exact hs)) rfl hr
theorem r_iload {pc' : Nat} {k : Nat} {v : Int32} (hd : decode B pc = .ok (.iload k, 2)) (hp : pc + 2 = pc') (hl : ls[k]? = some (.val (.int v))) (hr : Run w l Z EL n0 own nm B ret R Q Ny My h cells slots pc' ls (.int v :: st)) : Run w l Z EL n0 own nm B ret R Q Ny My h cells slots pc ls (st) :=
  Run.pure (fun p e below T m c target hA hx hby hs => XS.iload hA hx rfl (hb hby hd) hl (by subst hp; exact hs)) rfl hr
theorem r_lloadN {pc' : Nat} {k : Fin 4} {v : Int64} (hd : decode B pc = .ok (.lload_n k, 1)) (hp : pc + 1 = pc') (hl : ls[k.val]? = some (.val (.long v))) (hr : Run w l Z EL n0 own nm B ret R Q Ny My h cells slots pc' ls (.long v :: st)) : Run w l Z EL n0 own nm B ret R Q Ny My h cells slots pc ls (st) :=
  Run.pure (fun p e below T m c target hA hx hby hs => XS.lloadN hA hx rfl (hb hby hd) hl (by subst hp; exact hs)) rfl hr
theorem r_lload {pc' : Nat} {k : Nat} {v : Int64} (hd : decode B pc = .ok (.lload k, 2)) (hp : pc + 2 = pc') (hl : ls[k]? = some (.val (.long v))) (hr : Run w l Z EL n0 own nm B ret R Q Ny My h cells slots pc' ls (.long v :: st)) : Run w l Z EL n0 own nm B ret R Q Ny My h cells slots pc ls (st) :=
  Run.pure (fun p e below T m c target hA hx hby hs => XS.lload hA hx rfl (hb hby hd) hl (by subst hp; exact hs)) rfl hr
theorem r_iconst {pc' : Nat} {i : Int} {v : Int32} (hd : decode B pc = .ok (.iconst i, 1)) (hp : pc + 1 = pc') (hv : Int32.ofInt i = v) (hr : Run w l Z EL n0 own nm B ret R Q Ny My h cells slots pc' ls (.int v :: st)) : Run w l Z EL n0 own nm B ret R Q Ny My h cells slots pc ls st :=
  Run.pure (fun p e below T m c target hA hx hby hs => XS.iconst hA hx rfl (hb hby hd) (by subst hp hv; exact hs)) rfl hr
theorem r_bipush {pc' : Nat} {i : Int} {v : Int32} (hd : decode B pc = .ok (.bipush i, 2)) (hp : pc + 2 = pc') (hv : (Int8.ofInt i).toInt32 = v) (hr : Run w l Z EL n0 own nm B ret R Q Ny My h cells slots pc' ls (.int v :: st)) : Run w l Z EL n0 own nm B ret R Q Ny My h cells slots pc ls st :=
  Run.pure (fun p e below T m c target hA hx hby hs => XS.bipush hA hx rfl (hb hby hd) (by subst hp hv; exact hs)) rfl hr
theorem r_sipush {pc' : Nat} {i : Int} {v : Int32} (hd : decode B pc = .ok (.sipush i, 3)) (hp : pc + 3 = pc') (hv : (Int16.ofInt i).toInt32 = v) (hr : Run w l Z EL n0 own nm B ret R Q Ny My h cells slots pc' ls (.int v :: st)) : Run w l Z EL n0 own nm B ret R Q Ny My h cells slots pc ls st :=
  Run.pure (fun p e below T m c target hA hx hby hs => XS.sipush hA hx rfl (hb hby hd) (by subst hp hv; exact hs)) rfl hr
theorem r_lconst {pc' : Nat} {k : Fin 2} {v : Int64} (hd : decode B pc = .ok (.lconst k, 1)) (hp : pc + 1 = pc') (hv : Int64.ofNat k = v) (hr : Run w l Z EL n0 own nm B ret R Q Ny My h cells slots pc' ls (.long v :: st)) : Run w l Z EL n0 own nm B ret R Q Ny My h cells slots pc ls st :=
  Run.pure (fun p e below T m c target hA hx hby hs => XS.lconst hA hx rfl (hb hby hd) (by subst hp hv; exact hs)) rfl hr
theorem r_aconst {pc' : Nat} (hd : decode B pc = .ok (.aconst_null, 1)) (hp : pc + 1 = pc') (hr : Run w l Z EL n0 own nm B ret R Q Ny My h cells slots pc' ls (.null :: st)) : Run w l Z EL n0 own nm B ret R Q Ny My h cells slots pc ls (st) :=
  Run.pure (fun p e below T m c target hA hx hby hs => XS.aconstNull hA hx rfl (hb hby hd) (by subst hp; exact hs)) rfl hr
theorem r_iadd {pc' : Nat} {x y : Int32} (hd : decode B pc = .ok (.iadd, 1)) (hp : pc + 1 = pc') (hr : Run w l Z EL n0 own nm B ret R Q Ny My h cells slots pc' ls (.int (x + y) :: st)) : Run w l Z EL n0 own nm B ret R Q Ny My h cells slots pc ls (.int y :: .int x :: st) :=
  Run.pure (fun p e below T m c target hA hx hby hs => XS.iadd hA hx rfl (hb hby hd) rfl (by subst hp; exact hs)) rfl hr
theorem r_isub {pc' : Nat} {x y : Int32} (hd : decode B pc = .ok (.isub, 1)) (hp : pc + 1 = pc') (hr : Run w l Z EL n0 own nm B ret R Q Ny My h cells slots pc' ls (.int (x - y) :: st)) : Run w l Z EL n0 own nm B ret R Q Ny My h cells slots pc ls (.int y :: .int x :: st) :=
  Run.pure (fun p e below T m c target hA hx hby hs => XS.isub hA hx rfl (hb hby hd) rfl (by subst hp; exact hs)) rfl hr
theorem r_imul {pc' : Nat} {x y : Int32} (hd : decode B pc = .ok (.imul, 1)) (hp : pc + 1 = pc') (hr : Run w l Z EL n0 own nm B ret R Q Ny My h cells slots pc' ls (.int (x * y) :: st)) : Run w l Z EL n0 own nm B ret R Q Ny My h cells slots pc ls (.int y :: .int x :: st) :=
  Run.pure (fun p e below T m c target hA hx hby hs => XS.imul hA hx rfl (hb hby hd) rfl (by subst hp; exact hs)) rfl hr
theorem r_iand {pc' : Nat} {x y : Int32} (hd : decode B pc = .ok (.iand, 1)) (hp : pc + 1 = pc') (hr : Run w l Z EL n0 own nm B ret R Q Ny My h cells slots pc' ls (.int (x &&& y) :: st)) : Run w l Z EL n0 own nm B ret R Q Ny My h cells slots pc ls (.int y :: .int x :: st) :=
  Run.pure (fun p e below T m c target hA hx hby hs => XS.iand hA hx rfl (hb hby hd) rfl (by subst hp; exact hs)) rfl hr
theorem r_ior {pc' : Nat} {x y : Int32} (hd : decode B pc = .ok (.ior, 1)) (hp : pc + 1 = pc') (hr : Run w l Z EL n0 own nm B ret R Q Ny My h cells slots pc' ls (.int (x ||| y) :: st)) : Run w l Z EL n0 own nm B ret R Q Ny My h cells slots pc ls (.int y :: .int x :: st) :=
  Run.pure (fun p e below T m c target hA hx hby hs => XS.ior hA hx rfl (hb hby hd) rfl (by subst hp; exact hs)) rfl hr
theorem r_ixor {pc' : Nat} {x y : Int32} (hd : decode B pc = .ok (.ixor, 1)) (hp : pc + 1 = pc') (hr : Run w l Z EL n0 own nm B ret R Q Ny My h cells slots pc' ls (.int (x ^^^ y) :: st)) : Run w l Z EL n0 own nm B ret R Q Ny My h cells slots pc ls (.int y :: .int x :: st) :=
  Run.pure (fun p e below T m c target hA hx hby hs => XS.ixor hA hx rfl (hb hby hd) rfl (by subst hp; exact hs)) rfl hr
theorem r_ishl {pc' : Nat} {x y : Int32} (hd : decode B pc = .ok (.ishl, 1)) (hp : pc + 1 = pc') (hr : Run w l Z EL n0 own nm B ret R Q Ny My h cells slots pc' ls (.int (x <<< (y &&& 31)) :: st)) : Run w l Z EL n0 own nm B ret R Q Ny My h cells slots pc ls (.int y :: .int x :: st) :=
  Run.pure (fun p e below T m c target hA hx hby hs => XS.ishl hA hx rfl (hb hby hd) rfl (by subst hp; exact hs)) rfl hr
theorem r_ishr {pc' : Nat} {x y : Int32} (hd : decode B pc = .ok (.ishr, 1)) (hp : pc + 1 = pc') (hr : Run w l Z EL n0 own nm B ret R Q Ny My h cells slots pc' ls (.int (x >>> (y &&& 31)) :: st)) : Run w l Z EL n0 own nm B ret R Q Ny My h cells slots pc ls (.int y :: .int x :: st) :=
  Run.pure (fun p e below T m c target hA hx hby hs => XS.ishr hA hx rfl (hb hby hd) rfl (by subst hp; exact hs)) rfl hr
theorem r_iushr {pc' : Nat} {x y : Int32} (hd : decode B pc = .ok (.iushr, 1)) (hp : pc + 1 = pc') (hr : Run w l Z EL n0 own nm B ret R Q Ny My h cells slots pc' ls (.int ((x.toUInt32 >>> (y &&& 31).toUInt32).toInt32) :: st)) : Run w l Z EL n0 own nm B ret R Q Ny My h cells slots pc ls (.int y :: .int x :: st) :=
  Run.pure (fun p e below T m c target hA hx hby hs => XS.iushr hA hx rfl (hb hby hd) rfl (by subst hp; exact hs)) rfl hr
theorem r_ladd {pc' : Nat} {x y : Int64} (hd : decode B pc = .ok (.ladd, 1)) (hp : pc + 1 = pc') (hr : Run w l Z EL n0 own nm B ret R Q Ny My h cells slots pc' ls (.long (x + y) :: st)) : Run w l Z EL n0 own nm B ret R Q Ny My h cells slots pc ls (.long y :: .long x :: st) :=
  Run.pure (fun p e below T m c target hA hx hby hs => XS.ladd hA hx rfl (hb hby hd) rfl (by subst hp; exact hs)) rfl hr
theorem r_lsub {pc' : Nat} {x y : Int64} (hd : decode B pc = .ok (.lsub, 1)) (hp : pc + 1 = pc') (hr : Run w l Z EL n0 own nm B ret R Q Ny My h cells slots pc' ls (.long (x - y) :: st)) : Run w l Z EL n0 own nm B ret R Q Ny My h cells slots pc ls (.long y :: .long x :: st) :=
  Run.pure (fun p e below T m c target hA hx hby hs => XS.lsub hA hx rfl (hb hby hd) rfl (by subst hp; exact hs)) rfl hr
theorem r_lmul {pc' : Nat} {x y : Int64} (hd : decode B pc = .ok (.lmul, 1)) (hp : pc + 1 = pc') (hr : Run w l Z EL n0 own nm B ret R Q Ny My h cells slots pc' ls (.long (x * y) :: st)) : Run w l Z EL n0 own nm B ret R Q Ny My h cells slots pc ls (.long y :: .long x :: st) :=
  Run.pure (fun p e below T m c target hA hx hby hs => XS.lmul hA hx rfl (hb hby hd) rfl (by subst hp; exact hs)) rfl hr
theorem r_land {pc' : Nat} {x y : Int64} (hd : decode B pc = .ok (.land, 1)) (hp : pc + 1 = pc') (hr : Run w l Z EL n0 own nm B ret R Q Ny My h cells slots pc' ls (.long (x &&& y) :: st)) : Run w l Z EL n0 own nm B ret R Q Ny My h cells slots pc ls (.long y :: .long x :: st) :=
  Run.pure (fun p e below T m c target hA hx hby hs => XS.land hA hx rfl (hb hby hd) rfl (by subst hp; exact hs)) rfl hr
theorem r_lor {pc' : Nat} {x y : Int64} (hd : decode B pc = .ok (.lor, 1)) (hp : pc + 1 = pc') (hr : Run w l Z EL n0 own nm B ret R Q Ny My h cells slots pc' ls (.long (x ||| y) :: st)) : Run w l Z EL n0 own nm B ret R Q Ny My h cells slots pc ls (.long y :: .long x :: st) :=
  Run.pure (fun p e below T m c target hA hx hby hs => XS.lor hA hx rfl (hb hby hd) rfl (by subst hp; exact hs)) rfl hr
theorem r_lxor {pc' : Nat} {x y : Int64} (hd : decode B pc = .ok (.lxor, 1)) (hp : pc + 1 = pc') (hr : Run w l Z EL n0 own nm B ret R Q Ny My h cells slots pc' ls (.long (x ^^^ y) :: st)) : Run w l Z EL n0 own nm B ret R Q Ny My h cells slots pc ls (.long y :: .long x :: st) :=
  Run.pure (fun p e below T m c target hA hx hby hs => XS.lxor hA hx rfl (hb hby hd) rfl (by subst hp; exact hs)) rfl hr
theorem r_idiv {pc' : Nat} {x y : Int32} (hd : decode B pc = .ok (.idiv, 1)) (hp : pc + 1 = pc') (hy : y ≠ 0) (hr : Run w l Z EL n0 own nm B ret R Q Ny My h cells slots pc' ls (.int (x / y) :: st)) : Run w l Z EL n0 own nm B ret R Q Ny My h cells slots pc ls (.int y :: .int x :: st) :=
  Run.pure (fun p e below T m c target hA hx hby hs => XS.idiv hA hx rfl (hb hby hd) rfl hy (by subst hp; exact hs)) rfl hr
theorem r_ldiv {pc' : Nat} {x y : Int64} (hd : decode B pc = .ok (.ldiv, 1)) (hp : pc + 1 = pc') (hy : y ≠ 0) (hr : Run w l Z EL n0 own nm B ret R Q Ny My h cells slots pc' ls (.long (x / y) :: st)) : Run w l Z EL n0 own nm B ret R Q Ny My h cells slots pc ls (.long y :: .long x :: st) :=
  Run.pure (fun p e below T m c target hA hx hby hs => XS.ldiv hA hx rfl (hb hby hd) rfl hy (by subst hp; exact hs)) rfl hr
theorem r_ineg {pc' : Nat} {x : Int32} (hd : decode B pc = .ok (.ineg, 1)) (hp : pc + 1 = pc') (hr : Run w l Z EL n0 own nm B ret R Q Ny My h cells slots pc' ls (.int (-x) :: st)) : Run w l Z EL n0 own nm B ret R Q Ny My h cells slots pc ls (.int x :: st) :=
  Run.pure (fun p e below T m c target hA hx hby hs => XS.ineg hA hx rfl (hb hby hd) rfl (by subst hp; exact hs)) rfl hr
theorem r_i2b {pc' : Nat} {x : Int32} (hd : decode B pc = .ok (.i2b, 1)) (hp : pc + 1 = pc') (hr : Run w l Z EL n0 own nm B ret R Q Ny My h cells slots pc' ls (.int (x.toInt8.toInt32) :: st)) : Run w l Z EL n0 own nm B ret R Q Ny My h cells slots pc ls (.int x :: st) :=
  Run.pure (fun p e below T m c target hA hx hby hs => XS.i2b hA hx rfl (hb hby hd) rfl (by subst hp; exact hs)) rfl hr
theorem r_i2c {pc' : Nat} {x : Int32} (hd : decode B pc = .ok (.i2c, 1)) (hp : pc + 1 = pc') (hr : Run w l Z EL n0 own nm B ret R Q Ny My h cells slots pc' ls (.int (x.toUInt32.toUInt16.toUInt32.toInt32) :: st)) : Run w l Z EL n0 own nm B ret R Q Ny My h cells slots pc ls (.int x :: st) :=
  Run.pure (fun p e below T m c target hA hx hby hs => XS.i2c hA hx rfl (hb hby hd) rfl (by subst hp; exact hs)) rfl hr
theorem r_i2s {pc' : Nat} {x : Int32} (hd : decode B pc = .ok (.i2s, 1)) (hp : pc + 1 = pc') (hr : Run w l Z EL n0 own nm B ret R Q Ny My h cells slots pc' ls (.int (x.toInt16.toInt32) :: st)) : Run w l Z EL n0 own nm B ret R Q Ny My h cells slots pc ls (.int x :: st) :=
  Run.pure (fun p e below T m c target hA hx hby hs => XS.i2s hA hx rfl (hb hby hd) rfl (by subst hp; exact hs)) rfl hr
theorem r_i2l {pc' : Nat} {x : Int32} (hd : decode B pc = .ok (.i2l, 1)) (hp : pc + 1 = pc') (hr : Run w l Z EL n0 own nm B ret R Q Ny My h cells slots pc' ls (.long (x.toInt64) :: st)) : Run w l Z EL n0 own nm B ret R Q Ny My h cells slots pc ls (.int x :: st) :=
  Run.pure (fun p e below T m c target hA hx hby hs => XS.i2l hA hx rfl (hb hby hd) rfl (by subst hp; exact hs)) rfl hr
theorem r_l2i {pc' : Nat} {x : Int64} (hd : decode B pc = .ok (.l2i, 1)) (hp : pc + 1 = pc') (hr : Run w l Z EL n0 own nm B ret R Q Ny My h cells slots pc' ls (.int (x.toInt32) :: st)) : Run w l Z EL n0 own nm B ret R Q Ny My h cells slots pc ls (.long x :: st) :=
  Run.pure (fun p e below T m c target hA hx hby hs => XS.l2i hA hx rfl (hb hby hd) rfl (by subst hp; exact hs)) rfl hr
theorem r_lneg {pc' : Nat} {x : Int64} (hd : decode B pc = .ok (.lneg, 1)) (hp : pc + 1 = pc') (hr : Run w l Z EL n0 own nm B ret R Q Ny My h cells slots pc' ls (.long (-x) :: st)) : Run w l Z EL n0 own nm B ret R Q Ny My h cells slots pc ls (.long x :: st) :=
  Run.pure (fun p e below T m c target hA hx hby hs => XS.lneg hA hx rfl (hb hby hd) rfl (by subst hp; exact hs)) rfl hr
theorem r_lcmp {pc' : Nat} {x y : Int64} (hd : decode B pc = .ok (.lcmp, 1)) (hp : pc + 1 = pc') (hr : Run w l Z EL n0 own nm B ret R Q Ny My h cells slots pc' ls (.int (lcmpW x y) :: st)) : Run w l Z EL n0 own nm B ret R Q Ny My h cells slots pc ls (.long y :: .long x :: st) :=
  Run.pure (fun p e below T m c target hA hx hby hs => XS.lcmp hA hx rfl (hb hby hd) rfl (by subst hp; exact hs)) rfl hr
theorem r_pop {pc' : Nat} {x : Value} (hd : decode B pc = .ok (.pop, 1)) (hp : pc + 1 = pc') (hc : x.category = 1) (hr : Run w l Z EL n0 own nm B ret R Q Ny My h cells slots pc' ls (st)) : Run w l Z EL n0 own nm B ret R Q Ny My h cells slots pc ls (x :: st) :=
  Run.pure (fun p e below T m c target hA hx hby hs => XS.pop hA hx rfl (hb hby hd) rfl hc (by subst hp; exact hs)) rfl hr
theorem r_dup {pc' : Nat} {x : Value} (hd : decode B pc = .ok (.dup, 1)) (hp : pc + 1 = pc') (hc : x.category = 1) (hr : Run w l Z EL n0 own nm B ret R Q Ny My h cells slots pc' ls (x :: x :: st)) : Run w l Z EL n0 own nm B ret R Q Ny My h cells slots pc ls (x :: st) :=
  Run.pure (fun p e below T m c target hA hx hby hs => XS.dup hA hx rfl (hb hby hd) rfl hc (by subst hp; exact hs)) rfl hr
theorem r_swap {pc' : Nat} {x y : Value} (hd : decode B pc = .ok (.swap, 1)) (hp : pc + 1 = pc') (hc : x.category = 1) (hc2 : y.category = 1) (hr : Run w l Z EL n0 own nm B ret R Q Ny My h cells slots pc' ls (y :: x :: st)) : Run w l Z EL n0 own nm B ret R Q Ny My h cells slots pc ls (x :: y :: st) :=
  Run.pure (fun p e below T m c target hA hx hby hs => XS.swap hA hx rfl (hb hby hd) rfl hc hc2 (by subst hp; exact hs)) rfl hr
theorem r_dupX1 {pc' : Nat} {x y : Value} (hd : decode B pc = .ok (.dup_x1, 1)) (hp : pc + 1 = pc') (hc : x.category = 1) (hc2 : y.category = 1) (hr : Run w l Z EL n0 own nm B ret R Q Ny My h cells slots pc' ls (x :: y :: x :: st)) : Run w l Z EL n0 own nm B ret R Q Ny My h cells slots pc ls (x :: y :: st) :=
  Run.pure (fun p e below T m c target hA hx hby hs => XS.dupX1 hA hx rfl (hb hby hd) rfl hc hc2 (by subst hp; exact hs)) rfl hr
theorem r_dup2 {pc' : Nat} {x y : Value} (hd : decode B pc = .ok (.dup2, 1)) (hp : pc + 1 = pc') (hc : x.category = 1) (hc2 : y.category = 1) (hr : Run w l Z EL n0 own nm B ret R Q Ny My h cells slots pc' ls (x :: y :: x :: y :: st)) : Run w l Z EL n0 own nm B ret R Q Ny My h cells slots pc ls (x :: y :: st) :=
  Run.pure (fun p e below T m c target hA hx hby hs => XT.dup2 hA hx rfl (hb hby hd) rfl hc hc2 (by subst hp; exact hs)) rfl hr
theorem r_istoreN {pc' : Nat} {k : Fin 4} {x : Int32} {l' : Array Slot} (hd : decode B pc = .ok (.istore_n k, 1)) (hp : pc + 1 = pc') (hl : storeLocals ls k.val (.int x) = some l') (hr : Run w l Z EL n0 own nm B ret R Q Ny My h cells slots pc' l' (st)) : Run w l Z EL n0 own nm B ret R Q Ny My h cells slots pc ls (.int x :: st) :=
  Run.pure (fun p e below T m c target hA hx hby hs => XS.istoreN hA hx rfl (hb hby hd) rfl hl (by subst hp; exact hs)) (storeLocals_size hl) hr
theorem r_istore {pc' : Nat} {k : Nat} {x : Int32} {l' : Array Slot} (hd : decode B pc = .ok (.istore k, 2)) (hp : pc + 2 = pc') (hl : storeLocals ls k (.int x) = some l') (hr : Run w l Z EL n0 own nm B ret R Q Ny My h cells slots pc' l' (st)) : Run w l Z EL n0 own nm B ret R Q Ny My h cells slots pc ls (.int x :: st) :=
  Run.pure (fun p e below T m c target hA hx hby hs => XS.istore hA hx rfl (hb hby hd) rfl hl (by subst hp; exact hs)) (storeLocals_size hl) hr
theorem r_lstoreN {pc' : Nat} {k : Fin 4} {x : Int64} {l' : Array Slot} (hd : decode B pc = .ok (.lstore_n k, 1)) (hp : pc + 1 = pc') (hl : storeLocals ls k.val (.long x) = some l') (hr : Run w l Z EL n0 own nm B ret R Q Ny My h cells slots pc' l' (st)) : Run w l Z EL n0 own nm B ret R Q Ny My h cells slots pc ls (.long x :: st) :=
  Run.pure (fun p e below T m c target hA hx hby hs => XS.lstoreN hA hx rfl (hb hby hd) rfl hl (by subst hp; exact hs)) (storeLocals_size hl) hr
theorem r_lstore {pc' : Nat} {k : Nat} {x : Int64} {l' : Array Slot} (hd : decode B pc = .ok (.lstore k, 2)) (hp : pc + 2 = pc') (hl : storeLocals ls k (.long x) = some l') (hr : Run w l Z EL n0 own nm B ret R Q Ny My h cells slots pc' l' (st)) : Run w l Z EL n0 own nm B ret R Q Ny My h cells slots pc ls (.long x :: st) :=
  Run.pure (fun p e below T m c target hA hx hby hs => XS.lstore hA hx rfl (hb hby hd) rfl hl (by subst hp; exact hs)) (storeLocals_size hl) hr
theorem r_astoreN {pc' : Nat} {k : Fin 4} {x : Value} {l' : Array Slot} (hd : decode B pc = .ok (.astore_n k, 1)) (hp : pc + 1 = pc') (hv : x.isRef = true) (hl : storeLocals ls k.val x = some l') (hr : Run w l Z EL n0 own nm B ret R Q Ny My h cells slots pc' l' (st)) : Run w l Z EL n0 own nm B ret R Q Ny My h cells slots pc ls (x :: st) :=
  Run.pure (fun p e below T m c target hA hx hby hs => XS.astoreN hA hx rfl (hb hby hd) rfl hv hl (by subst hp; exact hs)) (storeLocals_size hl) hr
theorem r_astore {pc' : Nat} {k : Nat} {x : Value} {l' : Array Slot} (hd : decode B pc = .ok (.astore k, 2)) (hp : pc + 2 = pc') (hv : x.isRef = true) (hl : storeLocals ls k x = some l') (hr : Run w l Z EL n0 own nm B ret R Q Ny My h cells slots pc' l' (st)) : Run w l Z EL n0 own nm B ret R Q Ny My h cells slots pc ls (x :: st) :=
  Run.pure (fun p e below T m c target hA hx hby hs => XS.astore hA hx rfl (hb hby hd) rfl hv hl (by subst hp; exact hs)) (storeLocals_size hl) hr
theorem r_iinc {pc' : Nat} {k : Nat} {cst : Int} {x : Int32} {l' : Array Slot} (hd : decode B pc = .ok (.iinc k cst, 3)) (hp : pc + 3 = pc') (hl : ls[k]? = some (.val (.int x))) (hl' : storeLocals ls k (.int (x + Int32.ofInt cst)) = some l') (hr : Run w l Z EL n0 own nm B ret R Q Ny My h cells slots pc' l' (st)) : Run w l Z EL n0 own nm B ret R Q Ny My h cells slots pc ls (st) :=
  Run.pure (fun p e below T m c target hA hx hby hs => XS.iinc hA hx rfl (hb hby hd) hl hl' (by subst hp; exact hs)) (storeLocals_size hl') hr
theorem r_goto {pc' : Nat} {o : Int} (hd : decode B pc = .ok (.goto o, 3)) (hp : (pc : Int) + o = (pc' : Int)) (hr : Run w l Z EL n0 own nm B ret R Q Ny My h cells slots pc' ls st) : Run w l Z EL n0 own nm B ret R Q Ny My h cells slots pc ls st :=
  Run.pure (fun p e below T m c target hA hx hby hs => XS.goto hA hx rfl (pc0 := pc) (pc' := pc') rfl (hb hby hd) (by omega) (by omega) hs) rfl hr
theorem r_if {pc' pc2 : Nat} {cd : ClassFile.Cond} {o : Int} {x : Int32} (hd : decode B pc = .ok (.ifCond cd o, 3)) (hp : pc + 3 = pc') (hq : (pc : Int) + o = (pc2 : Int)) (h1 : if_icmp.holds cd x 0 = true → Run w l Z EL n0 own nm B ret R Q Ny My h cells slots pc2 ls st) (h2 : if_icmp.holds cd x 0 = false → Run w l Z EL n0 own nm B ret R Q Ny My h cells slots pc' ls st) : Run w l Z EL n0 own nm B ret R Q Ny My h cells slots pc ls (.int x :: st) := by
  cases hb0 : if_icmp.holds cd x 0 with
  | true => exact Run.pure (fun p e below T m c target hA hx hby hs => XS.ifYes hA hx rfl (pc0 := pc) (pc' := pc2) rfl (hb hby hd) rfl ((if0 _ _).trans hb0) (by omega) (by omega) hs) rfl (h1 hb0)
  | false => exact Run.pure (fun p e below T m c target hA hx hby hs => XS.ifNo hA hx rfl (hb hby hd) rfl ((if0 _ _).trans hb0) (by subst hp; exact hs)) rfl (h2 hb0)
theorem r_icmp {pc' pc2 : Nat} {cd : ClassFile.Cond} {o : Int} {x y : Int32} (hd : decode B pc = .ok (.if_icmp cd o, 3)) (hp : pc + 3 = pc') (hq : (pc : Int) + o = (pc2 : Int)) (h1 : if_icmp.holds cd x y = true → Run w l Z EL n0 own nm B ret R Q Ny My h cells slots pc2 ls st) (h2 : if_icmp.holds cd x y = false → Run w l Z EL n0 own nm B ret R Q Ny My h cells slots pc' ls st) : Run w l Z EL n0 own nm B ret R Q Ny My h cells slots pc ls (.int y :: .int x :: st) := by
  cases hb0 : if_icmp.holds cd x y with
  | true => exact Run.pure (fun p e below T m c target hA hx hby hs => XS.icmpYes hA hx rfl (pc0 := pc) (pc' := pc2) rfl (hb hby hd) rfl hb0 (by omega) (by omega) hs) rfl (h1 hb0)
  | false => exact Run.pure (fun p e below T m c target hA hx hby hs => XS.icmpNo hA hx rfl (hb hby hd) rfl hb0 (by subst hp; exact hs)) rfl (h2 hb0)
theorem h_eq {x y : Int32} : (if_icmp.holds .eq x y = true → x = y) ∧ (if_icmp.holds .eq x y = false → ¬ x = y) := ⟨fun q => Classical.byContradiction fun e => (by rw [(feq e).1] at q; cases q), fun q e => (by rw [(teq e).1] at q; cases q)⟩
theorem h_ne {x y : Int32} : (if_icmp.holds .ne x y = true → ¬ x = y) ∧ (if_icmp.holds .ne x y = false → x = y) := ⟨fun q e => (by rw [(teq e).2] at q; cases q), fun q => Classical.byContradiction fun e => (by rw [(feq e).2] at q; cases q)⟩
theorem h_lt {x y : Int32} : (if_icmp.holds .lt x y = true → x < y) ∧ (if_icmp.holds .lt x y = false → ¬ x < y) := ⟨fun q => Classical.byContradiction fun e => (by rw [(flt e).1] at q; cases q), fun q e => (by rw [(tlt e).1] at q; cases q)⟩
theorem h_ge {x y : Int32} : (if_icmp.holds .ge x y = true → ¬ x < y) ∧ (if_icmp.holds .ge x y = false → x < y) := ⟨fun q e => (by rw [(tlt e).2.1] at q; cases q), fun q => Classical.byContradiction fun e => (by rw [(flt e).2.1] at q; cases q)⟩
theorem h_gt {x y : Int32} : (if_icmp.holds .gt x y = true → y < x) ∧ (if_icmp.holds .gt x y = false → ¬ y < x) := ⟨fun q => Classical.byContradiction fun e => (by rw [(flt e).2.2.1] at q; cases q), fun q e => (by rw [(tlt e).2.2.1] at q; cases q)⟩
theorem h_le {x y : Int32} : (if_icmp.holds .le x y = true → ¬ y < x) ∧ (if_icmp.holds .le x y = false → y < x) := ⟨fun q e => (by rw [(tlt e).2.2.2] at q; cases q), fun q => Classical.byContradiction fun e => (by rw [(flt e).2.2.2] at q; cases q)⟩
theorem r_ifeq {pc' pc2 : Nat} {o : Int} {x : Int32} (hd : decode B pc = .ok (.ifCond .eq o, 3)) (hp : pc + 3 = pc') (hq : (pc : Int) + o = (pc2 : Int)) (h1 : x = (0 : Int32) → Run w l Z EL n0 own nm B ret R Q Ny My h cells slots pc2 ls st) (h2 : ¬ x = (0 : Int32) → Run w l Z EL n0 own nm B ret R Q Ny My h cells slots pc' ls st) : Run w l Z EL n0 own nm B ret R Q Ny My h cells slots pc ls (.int x :: st) := r_if hd hp hq (fun q => h1 (h_eq.1 q)) (fun q => h2 (h_eq.2 q))
theorem r_icmpeq {pc' pc2 : Nat} {o : Int} {x y : Int32} (hd : decode B pc = .ok (.if_icmp .eq o, 3)) (hp : pc + 3 = pc') (hq : (pc : Int) + o = (pc2 : Int)) (h1 : x = y → Run w l Z EL n0 own nm B ret R Q Ny My h cells slots pc2 ls st) (h2 : ¬ x = y → Run w l Z EL n0 own nm B ret R Q Ny My h cells slots pc' ls st) : Run w l Z EL n0 own nm B ret R Q Ny My h cells slots pc ls (.int y :: .int x :: st) := r_icmp hd hp hq (fun q => h1 (h_eq.1 q)) (fun q => h2 (h_eq.2 q))
theorem r_ifne {pc' pc2 : Nat} {o : Int} {x : Int32} (hd : decode B pc = .ok (.ifCond .ne o, 3)) (hp : pc + 3 = pc') (hq : (pc : Int) + o = (pc2 : Int)) (h1 : ¬ x = (0 : Int32) → Run w l Z EL n0 own nm B ret R Q Ny My h cells slots pc2 ls st) (h2 : x = (0 : Int32) → Run w l Z EL n0 own nm B ret R Q Ny My h cells slots pc' ls st) : Run w l Z EL n0 own nm B ret R Q Ny My h cells slots pc ls (.int x :: st) := r_if hd hp hq (fun q => h1 (h_ne.1 q)) (fun q => h2 (h_ne.2 q))
theorem r_icmpne {pc' pc2 : Nat} {o : Int} {x y : Int32} (hd : decode B pc = .ok (.if_icmp .ne o, 3)) (hp : pc + 3 = pc') (hq : (pc : Int) + o = (pc2 : Int)) (h1 : ¬ x = y → Run w l Z EL n0 own nm B ret R Q Ny My h cells slots pc2 ls st) (h2 : x = y → Run w l Z EL n0 own nm B ret R Q Ny My h cells slots pc' ls st) : Run w l Z EL n0 own nm B ret R Q Ny My h cells slots pc ls (.int y :: .int x :: st) := r_icmp hd hp hq (fun q => h1 (h_ne.1 q)) (fun q => h2 (h_ne.2 q))
theorem r_iflt {pc' pc2 : Nat} {o : Int} {x : Int32} (hd : decode B pc = .ok (.ifCond .lt o, 3)) (hp : pc + 3 = pc') (hq : (pc : Int) + o = (pc2 : Int)) (h1 : x < (0 : Int32) → Run w l Z EL n0 own nm B ret R Q Ny My h cells slots pc2 ls st) (h2 : ¬ x < (0 : Int32) → Run w l Z EL n0 own nm B ret R Q Ny My h cells slots pc' ls st) : Run w l Z EL n0 own nm B ret R Q Ny My h cells slots pc ls (.int x :: st) := r_if hd hp hq (fun q => h1 (h_lt.1 q)) (fun q => h2 (h_lt.2 q))
theorem r_icmplt {pc' pc2 : Nat} {o : Int} {x y : Int32} (hd : decode B pc = .ok (.if_icmp .lt o, 3)) (hp : pc + 3 = pc') (hq : (pc : Int) + o = (pc2 : Int)) (h1 : x < y → Run w l Z EL n0 own nm B ret R Q Ny My h cells slots pc2 ls st) (h2 : ¬ x < y → Run w l Z EL n0 own nm B ret R Q Ny My h cells slots pc' ls st) : Run w l Z EL n0 own nm B ret R Q Ny My h cells slots pc ls (.int y :: .int x :: st) := r_icmp hd hp hq (fun q => h1 (h_lt.1 q)) (fun q => h2 (h_lt.2 q))
theorem r_ifge {pc' pc2 : Nat} {o : Int} {x : Int32} (hd : decode B pc = .ok (.ifCond .ge o, 3)) (hp : pc + 3 = pc') (hq : (pc : Int) + o = (pc2 : Int)) (h1 : ¬ x < (0 : Int32) → Run w l Z EL n0 own nm B ret R Q Ny My h cells slots pc2 ls st) (h2 : x < (0 : Int32) → Run w l Z EL n0 own nm B ret R Q Ny My h cells slots pc' ls st) : Run w l Z EL n0 own nm B ret R Q Ny My h cells slots pc ls (.int x :: st) := r_if hd hp hq (fun q => h1 (h_ge.1 q)) (fun q => h2 (h_ge.2 q))
theorem r_icmpge {pc' pc2 : Nat} {o : Int} {x y : Int32} (hd : decode B pc = .ok (.if_icmp .ge o, 3)) (hp : pc + 3 = pc') (hq : (pc : Int) + o = (pc2 : Int)) (h1 : ¬ x < y → Run w l Z EL n0 own nm B ret R Q Ny My h cells slots pc2 ls st) (h2 : x < y → Run w l Z EL n0 own nm B ret R Q Ny My h cells slots pc' ls st) : Run w l Z EL n0 own nm B ret R Q Ny My h cells slots pc ls (.int y :: .int x :: st) := r_icmp hd hp hq (fun q => h1 (h_ge.1 q)) (fun q => h2 (h_ge.2 q))
theorem r_ifgt {pc' pc2 : Nat} {o : Int} {x : Int32} (hd : decode B pc = .ok (.ifCond .gt o, 3)) (hp : pc + 3 = pc') (hq : (pc : Int) + o = (pc2 : Int)) (h1 : (0 : Int32) < x → Run w l Z EL n0 own nm B ret R Q Ny My h cells slots pc2 ls st) (h2 : ¬ (0 : Int32) < x → Run w l Z EL n0 own nm B ret R Q Ny My h cells slots pc' ls st) : Run w l Z EL n0 own nm B ret R Q Ny My h cells slots pc ls (.int x :: st) := r_if hd hp hq (fun q => h1 (h_gt.1 q)) (fun q => h2 (h_gt.2 q))
theorem r_icmpgt {pc' pc2 : Nat} {o : Int} {x y : Int32} (hd : decode B pc = .ok (.if_icmp .gt o, 3)) (hp : pc + 3 = pc') (hq : (pc : Int) + o = (pc2 : Int)) (h1 : y < x → Run w l Z EL n0 own nm B ret R Q Ny My h cells slots pc2 ls st) (h2 : ¬ y < x → Run w l Z EL n0 own nm B ret R Q Ny My h cells slots pc' ls st) : Run w l Z EL n0 own nm B ret R Q Ny My h cells slots pc ls (.int y :: .int x :: st) := r_icmp hd hp hq (fun q => h1 (h_gt.1 q)) (fun q => h2 (h_gt.2 q))
theorem r_ifle {pc' pc2 : Nat} {o : Int} {x : Int32} (hd : decode B pc = .ok (.ifCond .le o, 3)) (hp : pc + 3 = pc') (hq : (pc : Int) + o = (pc2 : Int)) (h1 : ¬ (0 : Int32) < x → Run w l Z EL n0 own nm B ret R Q Ny My h cells slots pc2 ls st) (h2 : (0 : Int32) < x → Run w l Z EL n0 own nm B ret R Q Ny My h cells slots pc' ls st) : Run w l Z EL n0 own nm B ret R Q Ny My h cells slots pc ls (.int x :: st) := r_if hd hp hq (fun q => h1 (h_le.1 q)) (fun q => h2 (h_le.2 q))
theorem r_icmple {pc' pc2 : Nat} {o : Int} {x y : Int32} (hd : decode B pc = .ok (.if_icmp .le o, 3)) (hp : pc + 3 = pc') (hq : (pc : Int) + o = (pc2 : Int)) (h1 : ¬ y < x → Run w l Z EL n0 own nm B ret R Q Ny My h cells slots pc2 ls st) (h2 : y < x → Run w l Z EL n0 own nm B ret R Q Ny My h cells slots pc' ls st) : Run w l Z EL n0 own nm B ret R Q Ny My h cells slots pc ls (.int y :: .int x :: st) := r_icmp hd hp hq (fun q => h1 (h_le.1 q)) (fun q => h2 (h_le.2 q))
theorem r_ifnullY {pc2 : Nat} {o : Int} (hd : decode B pc = .ok (.ifnull o, 3)) (hq : (pc : Int) + o = (pc2 : Int)) (hr : Run w l Z EL n0 own nm B ret R Q Ny My h cells slots pc2 ls st) : Run w l Z EL n0 own nm B ret R Q Ny My h cells slots pc ls (.null :: st) :=
  Run.pure (fun p e below T m c target hA hx hby hs => XS.ifnullYes hA hx rfl (pc0 := pc) (pc' := pc2) rfl (hb hby hd) rfl (by omega) (by omega) hs) rfl hr
theorem r_ifnullN {pc' : Nat} {o : Int} {b : Addr} (hd : decode B pc = .ok (.ifnull o, 3)) (hp : pc + 3 = pc') (hr : Run w l Z EL n0 own nm B ret R Q Ny My h cells slots pc' ls st) : Run w l Z EL n0 own nm B ret R Q Ny My h cells slots pc ls (.ref b :: st) :=
  Run.pure (fun p e below T m c target hA hx hby hs => XS.ifnullNo hA hx rfl (hb hby hd) rfl (by subst hp; exact hs)) rfl hr
theorem r_ifnonnullY {pc2 : Nat} {o : Int} {b : Addr} (hd : decode B pc = .ok (.ifnonnull o, 3)) (hq : (pc : Int) + o = (pc2 : Int)) (hr : Run w l Z EL n0 own nm B ret R Q Ny My h cells slots pc2 ls st) : Run w l Z EL n0 own nm B ret R Q Ny My h cells slots pc ls (.ref b :: st) :=
  Run.pure (fun p e below T m c target hA hx hby hs => XS.ifnonnullYes hA hx rfl (pc0 := pc) (pc' := pc2) rfl (hb hby hd) rfl (by omega) (by omega) hs) rfl hr
theorem r_ifnonnullN {pc' : Nat} {o : Int} (hd : decode B pc = .ok (.ifnonnull o, 3)) (hp : pc + 3 = pc') (hr : Run w l Z EL n0 own nm B ret R Q Ny My h cells slots pc' ls st) : Run w l Z EL n0 own nm B ret R Q Ny My h cells slots pc ls (.null :: st) :=
  Run.pure (fun p e below T m c target hA hx hby hs => XS.ifnonnullNo hA hx rfl (hb hby hd) rfl (by subst hp; exact hs)) rfl hr
theorem r_acmp {pc' pc2 : Nat} {cd : ClassFile.ACond} {o : Int} {x y : Value} (hx1 : x.isRef = true) (hy1 : y.isRef = true) (hd : decode B pc = .ok (.if_acmp cd o, 3)) (hp : pc + 3 = pc') (hq : (pc : Int) + o = (pc2 : Int)) (h1 : XT.acmp cd x y = true → Run w l Z EL n0 own nm B ret R Q Ny My h cells slots pc2 ls st) (h2 : XT.acmp cd x y = false → Run w l Z EL n0 own nm B ret R Q Ny My h cells slots pc' ls st) : Run w l Z EL n0 own nm B ret R Q Ny My h cells slots pc ls (y :: x :: st) := by
  cases hb0 : XT.acmp cd x y with
  | true => exact Run.pure (fun p e below T m c target hA hx hby hs => XT.acmpYes hA hx rfl (pc0 := pc) (pc' := pc2) rfl (hb hby hd) rfl hx1 hy1 hb0 (by omega) (by omega) hs) rfl (h1 hb0)
  | false => exact Run.pure (fun p e below T m c target hA hx hby hs => XT.acmpNo hA hx rfl (hb hby hd) rfl hx1 hy1 hb0 (by subst hp; exact hs)) rfl (h2 hb0)
theorem r_istoreS {pc' k : Nat} {x : Int32} {l' : Array Slot} {o : Slot} (hd : decode B pc = .ok (.istore k, 2)) (hp : pc + 2 = pc') (hold : ls[k]? = some o) (ho : One o) (hl : ls.setIfInBounds k (.val (.int x)) = l') (hr : Run w l Z EL n0 own nm B ret R Q Ny My h cells slots pc' l' st) : Run w l Z EL n0 own nm B ret R Q Ny My h cells slots pc ls (.int x :: st) :=
  Run.pure (fun p e below T m c target hA hx hby hs => XS.istoreS hA hx rfl (hb hby hd) rfl hold ho (by subst hp hl; exact hs)) (by subst hl; simp) hr
theorem r_istoreNS {pc' : Nat} {k : Fin 4} {x : Int32} {l' : Array Slot} {o : Slot} (hd : decode B pc = .ok (.istore_n k, 1)) (hp : pc + 1 = pc') (hold : ls[k.val]? = some o) (ho : One o) (hl : ls.setIfInBounds k.val (.val (.int x)) = l') (hr : Run w l Z EL n0 own nm B ret R Q Ny My h cells slots pc' l' st) : Run w l Z EL n0 own nm B ret R Q Ny My h cells slots pc ls (.int x :: st) :=
  Run.pure (fun p e below T m c target hA hx hby hs => XS.istoreNS hA hx rfl (hb hby hd) rfl hold ho (by subst hp hl; exact hs)) (by subst hl; simp) hr
theorem r_irem {pc' : Nat} {x y : Int32} (hd : decode B pc = .ok (.irem, 1)) (hp : pc + 1 = pc') (hy : y ≠ 0) (hr : Run w l Z EL n0 own nm B ret R Q Ny My h cells slots pc' ls (.int (x % y) :: st)) : Run w l Z EL n0 own nm B ret R Q Ny My h cells slots pc ls (.int y :: .int x :: st) :=
  Run.warm (fun p e s m args below meth c T locs hx hby hml hnm hZ hown X eT hO => ⟨T, X, eT, fun t k => iremM X hx (g := mkF m pc ls (.int y :: .int x :: st)) rfl (hb hby hd) rfl hy (by subst hp; exact k)⟩) hr
theorem r_getfield {pc' : Nat} {R0 O n d host : String} {index : Nat} {a : Addr} {v : Value} (hd : decode B pc = .ok (.getfield index, 3)) (hp : pc + 3 = pc') (wl : (Jvm.Cond.fieldLink own index R0 n d).before a0 Z = true ∨ (Jvm.Cond.fieldLinkNest own index R0 n d host).before a0 Z = true) (via : Via Z R0 O n d) (F : Fld Z h a O n d v) (hr : Run w l Z EL n0 own nm B ret R Q Ny My h cells slots pc' ls (v :: st)) : Run w l Z EL n0 own nm B ret R Q Ny My h cells slots pc ls (.ref a :: st) :=
  Run.warm (fun p e s m args below meth c T locs hx hby hml hnm hZ hown X eT hO => by
    obtain ⟨T', X', e', stp⟩ := getF X hx hZ hown wl via eT F (g := mkF m pc ls (.ref a :: st)) rfl rfl (hb hby hd)
    exact ⟨T', X', e', fun t k => stp t (by subst hp; exact k)⟩) hr
theorem r_getstatic {pc' : Nat} {R0 O n d host : String} {index : Nat} {v : Value} (hd : decode B pc = .ok (.getstatic index, 3)) (hp : pc + 3 = pc') (wl : (Jvm.Cond.fieldLink own index R0 n d).before a0 Z = true ∨ (Jvm.Cond.fieldLinkNest own index R0 n d host).before a0 Z = true) (via : Via Z R0 O n d) (F : Sta Z Z.heap O n d v) (hr : Run w l Z EL n0 own nm B ret R Q Ny My h cells slots pc' ls (v :: st)) : Run w l Z EL n0 own nm B ret R Q Ny My h cells slots pc ls st :=
  Run.warm (fun p e s m args below meth c T locs hx hby hml hnm hZ hown X eT hO => by
    obtain ⟨T', X', e', stp⟩ := getS2 X hx hZ hown wl via eT (F.ext hO.2) (g := mkF m pc ls st) rfl (hb hby hd)
    exact ⟨T', X', e', fun t k => stp t (by subst hp; exact k)⟩) hr
theorem r_castY {pc' : Nat} {K : String} {index : Nat} {a : Addr} (hd : decode B pc = .ok (.checkcast index, 3)) (hp : pc + 3 = pc') (wl : (Jvm.Cond.classLink own index K).before a0 Z = true) (F : Ins Z h a K true) (hr : Run w l Z EL n0 own nm B ret R Q Ny My h cells slots pc' ls (.ref a :: st)) : Run w l Z EL n0 own nm B ret R Q Ny My h cells slots pc ls (.ref a :: st) :=
  Run.warm (fun p e s m args below meth c T locs hx hby hml hnm hZ hown X eT hO => by
    obtain ⟨T', X', e', stp⟩ := castY X hx hZ hown wl eT F (g := mkF m pc ls (.ref a :: st)) rfl rfl (hb hby hd)
    exact ⟨T', X', e', fun t k => stp t (by subst hp; exact k)⟩) hr
theorem r_instY {pc' : Nat} {K : String} {index : Nat} {a : Addr} (hd : decode B pc = .ok (.instanceof index, 3)) (hp : pc + 3 = pc') (wl : (Jvm.Cond.classLink own index K).before a0 Z = true) (F : Ins Z h a K true) (hr : Run w l Z EL n0 own nm B ret R Q Ny My h cells slots pc' ls (.int 1 :: st)) : Run w l Z EL n0 own nm B ret R Q Ny My h cells slots pc ls (.ref a :: st) :=
  Run.warm (fun p e s m args below meth c T locs hx hby hml hnm hZ hown X eT hO => by
    obtain ⟨T', X', e', stp⟩ := instY X hx hZ hown wl eT F (g := mkF m pc ls (.ref a :: st)) rfl rfl (hb hby hd)
    exact ⟨T', X', e', fun t k => stp t (by subst hp; exact k)⟩) hr
theorem r_instNo {pc' : Nat} {K C : String} {index : Nat} {a : Addr} (hd : decode B pc = .ok (.instanceof index, 3)) (hp : pc + 3 = pc') (wl : (Jvm.Cond.classLink own index K).before a0 Z = true) (E : Exa Z h a C) (F : ∃ c t, Z.vm.findClass C = some c ∧ Z.vm.findClass K = some t ∧ Z.vm.assignable c t = false) (hr : Run w l Z EL n0 own nm B ret R Q Ny My h cells slots pc' ls (.int 0 :: st)) : Run w l Z EL n0 own nm B ret R Q Ny My h cells slots pc ls (.ref a :: st) :=
  Run.warm (fun p e s m args below meth c T locs hx hby hml hnm hZ hown X eT hO => by
    obtain ⟨T', X', e', stp⟩ := instNo X hx hZ hown wl eT E F (g := mkF m pc ls (.ref a :: st)) rfl rfl (hb hby hd)
    exact ⟨T', X', e', fun t k => stp t (by subst hp; exact k)⟩) hr
theorem r_instNull {pc' : Nat} {index : Nat} (hd : decode B pc = .ok (.instanceof index, 3)) (hp : pc + 3 = pc') (hr : Run w l Z EL n0 own nm B ret R Q Ny My h cells slots pc' ls (.int 0 :: st)) : Run w l Z EL n0 own nm B ret R Q Ny My h cells slots pc ls (.null :: st) :=
  Run.warm (fun p e s m args below meth c T locs hx hby hml hnm hZ hown X eT hO => ⟨T, X, eT, fun t k => X.instanceofNull hx (g := mkF m pc ls (.null :: st)) rfl rfl (hb hby hd) t (by subst hp; exact k)⟩) hr
theorem r_castNull {pc' : Nat} {index : Nat} (hd : decode B pc = .ok (.checkcast index, 3)) (hp : pc + 3 = pc') (hr : Run w l Z EL n0 own nm B ret R Q Ny My h cells slots pc' ls (.null :: st)) : Run w l Z EL n0 own nm B ret R Q Ny My h cells slots pc ls (.null :: st) :=
  Run.warm (fun p e s m args below meth c T locs hx hby hml hnm hZ hown X eT hO => ⟨T, X, eT, fun t k => X.checkcastNull hx (g := mkF m pc ls (.null :: st)) rfl rfl (hb hby hd) t (by subst hp; exact k)⟩) hr
theorem r_initO {pc' : Nat} {index : Nat} {a : Addr} {W : Nat} (hd : decode B pc = .ok (.invokespecial index, 3)) (hp : pc + 3 = pc') (w1 : (Jvm.Cond.methodLink own index Lib.objectInit).before a0 Z = true) (w2 : (Jvm.Cond.instanceMethod Lib.objectInit).before a0 Z = true) (w3 : (Jvm.Cond.code Lib.objectInit ⟨#[0xb1]⟩ 1 none).before a0 Z = true)
    (hf : 1 ≤ R.frames) (hW : (st.map fun v => v.category).sum ≤ W) (hl : W + 12 ≤ R.locals) (hr : Run w l Z EL n0 own nm B ret R Q Ny My h cells slots pc' ls st) : Run w l Z EL n0 own nm B ret R Q Ny My h cells slots pc ls (.ref a :: st) :=
  Run.warm (fun p e s m args below meth c T locs hx hby hml hnm hZ hown X eT hO => by
    obtain ⟨T', X', e', stp⟩ := initO X hx hZ hown w1 w2 w3 eT (g := mkF m pc ls (.ref a :: st)) rfl hml.symm rfl (hb hby hd) hf (W := W) (by show 2 * 0 + _ ≤ _; omega) hl
    exact ⟨T', X', e', fun t k => stp t (by subst hp; exact k)⟩) hr
theorem r_ldcI {pc' : Nat} {index : Nat} {v : Int32} (hd : decode B pc = .ok (.ldc index, 2)) (hp : pc + 2 = pc') (wl : (Jvm.Cond.constant own index v).before a0 Z = true) (hr : Run w l Z EL n0 own nm B ret R Q Ny My h cells slots pc' ls (.int v :: st)) : Run w l Z EL n0 own nm B ret R Q Ny My h cells slots pc ls st :=
  Run.warm (fun p e s m args below meth c T locs hx hby hml hnm hZ hown X eT hO => ⟨T, X, eT, fun t k => X.ldcInt hx hown (mvT hZ wl) (g := mkF m pc ls st) rfl (hb hby hd) t (by subst hp; exact k)⟩) hr
theorem r_ldcwI {pc' : Nat} {index : Nat} {v : Int32} (hd : decode B pc = .ok (.ldc_w index, 3)) (hp : pc + 3 = pc') (wl : (Jvm.Cond.constant own index v).before a0 Z = true) (hr : Run w l Z EL n0 own nm B ret R Q Ny My h cells slots pc' ls (.int v :: st)) : Run w l Z EL n0 own nm B ret R Q Ny My h cells slots pc ls st :=
  Run.warm (fun p e s m args below meth c T locs hx hby hml hnm hZ hown X eT hO => ⟨T, X, eT, fun t k => X.ldcwInt hx hown (mvT hZ wl) (g := mkF m pc ls st) rfl (hb hby hd) t (by subst hp; exact k)⟩) hr
theorem r_lookHit {pc2 len : Nat} {k : Int32} {dflt a off : Int} {pairs : Array (Int × Int)} (hd : decode B pc = .ok (.lookupswitch dflt pairs, len)) (hs : (pairs.toList.zip (pairs.toList.drop 1)).all (fun (a, next) => a.1 < next.1) = true) (hf : pairs.find? (·.1 == k.toInt) = some (a, off)) (hq : (pc : Int) + off = (pc2 : Int)) (hr : Run w l Z EL n0 own nm B ret R Q Ny My h cells slots pc2 ls st) : Run w l Z EL n0 own nm B ret R Q Ny My h cells slots pc ls (.int k :: st) :=
  Run.warm (fun p ee s m args below meth c T locs hx hby hml hnm hZ hown X eT hO => ⟨T, X, eT, fun t kk => X.lookupswitchHit hx (g := mkF m pc ls (.int k :: st)) rfl rfl (hb hby hd) hs hf (by show 0 ≤ (pc : Int) + off; omega) t (by
    have e : ((pc : Int) + off).toNat = pc2 := by omega
    show Steps p.tables ee below (T.setTop (mkF m ((pc : Int) + off).toNat ls st)) t
    rw [e]; exact kk)⟩) hr
theorem r_lookMiss {pc2 len : Nat} {k : Int32} {dflt : Int} {pairs : Array (Int × Int)} (hd : decode B pc = .ok (.lookupswitch dflt pairs, len)) (hs : (pairs.toList.zip (pairs.toList.drop 1)).all (fun (a, next) => a.1 < next.1) = true) (hf : pairs.find? (·.1 == k.toInt) = none) (hq : (pc : Int) + dflt = (pc2 : Int)) (hr : Run w l Z EL n0 own nm B ret R Q Ny My h cells slots pc2 ls st) : Run w l Z EL n0 own nm B ret R Q Ny My h cells slots pc ls (.int k :: st) :=
  Run.warm (fun p ee s m args below meth c T locs hx hby hml hnm hZ hown X eT hO => ⟨T, X, eT, fun t kk => X.lookupswitchMiss hx (g := mkF m pc ls (.int k :: st)) rfl rfl (hb hby hd) hs hf (by show 0 ≤ (pc : Int) + dflt; omega) t (by
    have e : ((pc : Int) + dflt).toNat = pc2 := by omega
    show Steps p.tables ee below (T.setTop (mkF m ((pc : Int) + dflt).toNat ls st)) t
    rw [e]; exact kk)⟩) hr
theorem r_tabIn {pc2 len : Nat} {k : Int32} {dflt low high off : Int} {offs : Array Int} (hd : decode B pc = .ok (.tableswitch dflt low high offs, len)) (hin : ¬ (k.toInt < low ∨ k.toInt > high)) (ho : offs[(k.toInt - low).toNat]? = some off) (hq : (pc : Int) + off = (pc2 : Int)) (hr : Run w l Z EL n0 own nm B ret R Q Ny My h cells slots pc2 ls st) : Run w l Z EL n0 own nm B ret R Q Ny My h cells slots pc ls (.int k :: st) :=
  Run.pure (fun p e below T m c target hA hx hby hs => XS.tswIn hA hx rfl (pc0 := pc) (pc' := pc2) rfl (hb hby hd) rfl hin ho (by omega) (by omega) hs) rfl hr
theorem r_tabOut {pc2 len : Nat} {k : Int32} {dflt low high : Int} {offs : Array Int} (hd : decode B pc = .ok (.tableswitch dflt low high offs, len)) (hout : k.toInt < low ∨ k.toInt > high) (hq : (pc : Int) + dflt = (pc2 : Int)) (hr : Run w l Z EL n0 own nm B ret R Q Ny My h cells slots pc2 ls st) : Run w l Z EL n0 own nm B ret R Q Ny My h cells slots pc ls (.int k :: st) :=
  Run.pure (fun p e below T m c target hA hx hby hs => XS.tswOut hA hx rfl (pc0 := pc) (pc' := pc2) rfl (hb hby hd) rfl hout (by omega) (by omega) hs) rfl hr
theorem r_ldc2L {pc' : Nat} {index : Nat} {v : Int64} (hd : decode B pc = .ok (.ldc2_w index, 3)) (hp : pc + 3 = pc') (wl : (Jvm.Cond.constantLong own index v).before a0 Z = true) (hr : Run w l Z EL n0 own nm B ret R Q Ny My h cells slots pc' ls (.long v :: st)) : Run w l Z EL n0 own nm B ret R Q Ny My h cells slots pc ls st :=
  Run.warm (fun p e s m args below meth c T locs hx hby hml hnm hZ hown X eT hO => ⟨T, X, eT, fun t k => X.ldc2Long hx hown (mvT hZ wl) (g := mkF m pc ls st) rfl (hb hby hd) t (by subst hp; exact k)⟩) hr
theorem r_arraylength {pc' : Nat} {a : Addr} {k : ClassId} {ty : FieldType} {z : Int32} {vs : List Value} {dv : Value} (hd : decode B pc = .ok (.arraylength, 1)) (hp : pc + 1 = pc') (A : Arv Z h a k ty z vs dv) (hr : Run w l Z EL n0 own nm B ret R Q Ny My h cells slots pc' ls (.int z :: st)) : Run w l Z EL n0 own nm B ret R Q Ny My h cells slots pc ls (.ref a :: st) :=
  Run.warm (fun p e s m args below meth c T locs hx hby hml hnm hZ hown X eT hO => by
    obtain ⟨cl, A1, -, S1, N1, -, -⟩ := A
    refine ⟨T, X, eT, fun t k => X.arraylength hx (by rw [eT]; exact A1.1) (State.isArrayOf_alike hZ.alike A1.2.1) (g := mkF m pc ls (.ref a :: st)) rfl rfl (hb hby hd) t ?_⟩
    rw [len_of S1 N1]; subst hp; exact k) hr
theorem arv_at {Z : State} {h : Heap} {a : Addr} {k : ClassId} {ty : FieldType} {z j : Int32} {vs : List Value} {dv v : Value} (A : Arv Z h a k ty z vs dv) (hj : ¬ j < 0 ∧ j < z) (hv : vs.getD j.toNatClampNeg dv = v) :
    ∃ c, Arr Z h a c ty ∧ ¬ (j < 0 ∨ c.slots.size ≤ j.toNatClampNeg) ∧ c.slots[j.toNatClampNeg]? = some v := by
  obtain ⟨cl, A1, -, S1, N1, H1, -⟩ := A
  exact ⟨cl, A1, inb_of S1 hj, H1.at (inb_of S1 hj) hv⟩
theorem r_caload {pc' : Nat} {a : Addr} {k : ClassId} {z j : Int32} {vs : List Value} {dv v : Value} (hd : decode B pc = .ok (.caload, 1)) (hp : pc + 1 = pc') (A : Arv Z h a k .char z vs dv) (hj : ¬ j < 0 ∧ j < z) (hv : vs.getD j.toNatClampNeg dv = v) (hr : Run w l Z EL n0 own nm B ret R Q Ny My h cells slots pc' ls (v :: st)) : Run w l Z EL n0 own nm B ret R Q Ny My h cells slots pc ls (.int j :: .ref a :: st) :=
  Run.warm (fun p e s m args below meth c T locs hx hby hml hnm hZ hown X eT hO => by
    obtain ⟨cl, A1, b1, g1⟩ := arv_at A hj hv
    exact ⟨T, X, eT, fun t k => X.caload hx (by rw [eT]; exact A1.1) (State.isArrayOf_alike hZ.alike A1.2.1) A1.2.2 b1 g1 (g := mkF m pc ls (.int j :: .ref a :: st)) rfl rfl (hb hby hd) t (by subst hp; exact k)⟩) hr
theorem r_iaload {pc' : Nat} {a : Addr} {k : ClassId} {z j : Int32} {vs : List Value} {dv v : Value} (hd : decode B pc = .ok (.iaload, 1)) (hp : pc + 1 = pc') (A : Arv Z h a k .int z vs dv) (hj : ¬ j < 0 ∧ j < z) (hv : vs.getD j.toNatClampNeg dv = v) (hr : Run w l Z EL n0 own nm B ret R Q Ny My h cells slots pc' ls (v :: st)) : Run w l Z EL n0 own nm B ret R Q Ny My h cells slots pc ls (.int j :: .ref a :: st) :=
  Run.warm (fun p e s m args below meth c T locs hx hby hml hnm hZ hown X eT hO => by
    obtain ⟨cl, A1, b1, g1⟩ := arv_at A hj hv
    exact ⟨T, X, eT, fun t k => X.iaload hx (by rw [eT]; exact A1.1) (State.isArrayOf_alike hZ.alike A1.2.1) A1.2.2 b1 g1 (g := mkF m pc ls (.int j :: .ref a :: st)) rfl rfl (hb hby hd) t (by subst hp; exact k)⟩) hr
theorem r_baload {pc' : Nat} {a : Addr} {k : ClassId} {z j : Int32} {vs : List Value} {dv v : Value} (hd : decode B pc = .ok (.baload, 1)) (hp : pc + 1 = pc') (A : Arv Z h a k .byte z vs dv) (hj : ¬ j < 0 ∧ j < z) (hv : vs.getD j.toNatClampNeg dv = v) (hr : Run w l Z EL n0 own nm B ret R Q Ny My h cells slots pc' ls (v :: st)) : Run w l Z EL n0 own nm B ret R Q Ny My h cells slots pc ls (.int j :: .ref a :: st) :=
  Run.warm (fun p e s m args below meth c T locs hx hby hml hnm hZ hown X eT hO => by
    obtain ⟨cl, A1, b1, g1⟩ := arv_at A hj hv
    exact ⟨T, X, eT, fun t k => X.baloadBytes hx (by rw [eT]; exact A1.1) (State.isArrayOf_alike hZ.alike A1.2.1) A1.2.2 b1 g1 (g := mkF m pc ls (.int j :: .ref a :: st)) rfl rfl (hb hby hd) t (by subst hp; exact k)⟩) hr
theorem r_aaload {pc' : Nat} {a : Addr} {k : ClassId} {ty : FieldType} {z j : Int32} {vs : List Value} {dv v : Value} (hd : decode B pc = .ok (.aaload, 1)) (hp : pc + 1 = pc') (A : Arv Z h a k ty z vs dv) (hty : ty.isReference = true) (hj : ¬ j < 0 ∧ j < z) (hv : vs.getD j.toNatClampNeg dv = v) (hr : Run w l Z EL n0 own nm B ret R Q Ny My h cells slots pc' ls (v :: st)) : Run w l Z EL n0 own nm B ret R Q Ny My h cells slots pc ls (.int j :: .ref a :: st) :=
  Run.warm (fun p e s m args below meth c T locs hx hby hml hnm hZ hown X eT hO => by
    obtain ⟨cl, A1, b1, g1⟩ := arv_at A hj hv
    exact ⟨T, X, eT, fun t k => X.aaload hx (by rw [eT]; exact A1.1) (State.isArrayOf_alike hZ.alike A1.2.1) hty A1.2.2 b1 g1 (g := mkF m pc ls (.int j :: .ref a :: st)) rfl rfl (hb hby hd) t (by subst hp; exact k)⟩) hr
/-- a step that makes or writes -/
theorem Run.heap {pc' cells' slots' : Nat} {st' : List Value} {h' : Heap} {My' : List Addr} (H : ∀ (p : Program) (e : Env) (s : State) (m : MethodId) (args : Array Value) (below : List Frame) (meth : Method) (c : Code) (T : State) (locs : List Loc) (vm : Vm), p.tables.exec = Jvm.exec → c.code = B → c.maxLocals = ls.size → meth.name = nm → Z.Warmed39 vm → vm.findClass own = some m.cls → Stand p l e R (s.setVm vm) m args below meth c T locs cells slots → T.heap = h → Fr n0 locs → Hid w Z EL n0 My s vm h below →
      ∃ T' locs', Stand p l e R (s.setVm vm) m args below meth c T' locs' cells' slots' ∧ T'.heap = h' ∧ Fr n0 locs' ∧ Hid w Z EL n0 My' s vm h' below ∧ ∀ target, Steps p.tables e below (T'.setTop (mkF m pc' ls st')) target → Steps p.tables e below (T.setTop (mkF m pc ls st)) target)
    (hr : Run w l Z EL n0 own nm B ret R Q Ny My' h' cells' slots' pc' ls st') : Run w l Z EL n0 own nm B ret R Q Ny My h cells slots pc ls st := by
  intro p e s m args below meth c T locs vm hx hby hml hret hnm hlk hZ hown X eT N hH
  obtain ⟨T', locs', X', e', N', hH', stp⟩ := H p e s m args below meth c T locs vm hx hby hml hnm hZ hown X eT N hH
  obtain ⟨t, o, hs, r⟩ := hr p e s m args below meth c T' locs' vm hx hby hml hret hnm hlk hZ hown X' e' N' hH'
  exact ⟨t, o, stp t hs, r⟩
theorem r_new {pc' : Nat} {C : String} {index n : Nat} (hd : decode B pc = .ok (.new index, 3)) (hp : pc + 3 = pc') (wl : (Jvm.Cond.classLink own index C).before a0 Z = true) (wi : (Jvm.Cond.instantiable C n).before a0 Z = true) (wz : (Jvm.Cond.initialized C).before a0 Z = true) (hc : cells + 1 ≤ R.cells) (hl : slots + n ≤ R.slots)
    (K : ∀ (h' : Heap) (b : Nat), b = h.size → h.size < h'.size → Ext h h' → Exa Z h' b C → (∀ {O nm d : String} {ty : FieldType}, Laid Z a0 C O nm d → parseFieldDescriptor d = some ty → Fld Z h' b O nm d (defaultValue ty)) → Unt h' b → Run w l Z EL n0 own nm B ret R Q Ny (b :: My) h' (cells + 1) (slots + n) pc' ls (.ref b :: st)) : Run w l Z EL n0 own nm B ret R Q Ny My h cells slots pc ls st := by
  intro p e s m args below meth c T locs vm hx hby hml hret hnm hlk hZ hown X eT N hH
  obtain ⟨T', h', X', e', E', A', D', U', stp⟩ := newO X hx hZ hown wl wi wz eT (g := mkF m pc ls st) rfl (hb hby hd) hc hl
  have hlt : h.size < h'.size := A'.lt
  obtain ⟨t, o, hs, r⟩ := K h' h.size rfl hlt E' A' D' U' p e s m args below meth c T' locs vm hx hby hml hret hnm hlk hZ hown X' e' N (hH.extNew E' hlt)
  exact ⟨t, o, stp t (by subst hp; exact hs), r⟩
theorem r_newP {pc' : Nat} {aty : ArrayType} {n : Int32} {cap : Nat} {ad : String} (hd : decode B pc = .ok (.newarray aty, 2)) (hp : pc + 2 = pc') (wa : (Jvm.Cond.arrayClass (newarray.typeOf aty)).before a0 Z = true) (hn : ¬ n < 0) (hcap : n.toNatClampNeg ≤ cap) (hbig : cap * 8 ≤ 536870912) (hc : cells + 1 ≤ R.cells) (hl : slots + cap ≤ R.slots) (had : "[" ++ (newarray.typeOf aty).toString = ad)
    (K : ∀ (h' : Heap) (b : Nat) (k : ClassId), b = h.size → h.size < h'.size → Ext h h' → Exa Z h' b ad → Arv Z h' b k (newarray.typeOf aty) n [] (defaultValue (newarray.typeOf aty)) → Run w l Z EL n0 own nm B ret R Q Ny (b :: My) h' (cells + 1) (slots + cap) pc' ls (.ref b :: st)) : Run w l Z EL n0 own nm B ret R Q Ny My h cells slots pc ls (.int n :: st) := by
  intro p e s m args below meth c T locs vm hx hby hml hret hnm hlk hZ hown X eT N hH
  obtain ⟨T', h', cA, X', e', E', A', D', stp⟩ := newPE X hx hZ wa eT (g := mkF m pc ls (.int n :: st)) rfl (hb hby hd) rfl hn hcap hbig hc hl had
  have hlt : h.size < h'.size := D'.lt
  obtain ⟨t, o, hs, r⟩ := K h' h.size cA rfl hlt E' D' (Arv.new A' hn) p e s m args below meth c T' locs vm hx hby hml hret hnm hlk hZ hown X' e' N (hH.extNew E' hlt)
  exact ⟨t, o, stp t (by subst hp; exact hs), r⟩
theorem r_newR {pc' : Nat} {C : String} {index : Nat} {n : Int32} {cap : Nat} {ad : String} (hd : decode B pc = .ok (.anewarray index, 3)) (hp : pc + 3 = pc') (w1 : (Jvm.Cond.classLink own index C).before a0 Z = true) (w2 : (Jvm.Cond.arrayOver (.object C)).before a0 Z = true) (hn : ¬ n < 0) (hcap : n.toNatClampNeg ≤ cap) (hbig : cap * 8 ≤ 536870912) (hc : cells + 1 ≤ R.cells) (hl : slots + cap ≤ R.slots) (had : "[" ++ (FieldType.object C).toString = ad)
    (K : ∀ (h' : Heap) (b : Nat) (k : ClassId), b = h.size → h.size < h'.size → Ext h h' → Exa Z h' b ad → Ovr Z k C → Arv Z h' b k (.object C) n [] .null → Run w l Z EL n0 own nm B ret R Q Ny (b :: My) h' (cells + 1) (slots + cap) pc' ls (.ref b :: st)) : Run w l Z EL n0 own nm B ret R Q Ny My h cells slots pc ls (.int n :: st) := by
  intro p e s m args below meth c T locs vm hx hby hml hret hnm hlk hZ hown X eT N hH
  obtain ⟨T', h', cA, X', e', E', A', D', O', stp⟩ := newRE X hx hZ hown w1 w2 eT (g := mkF m pc ls (.int n :: st)) rfl (hb hby hd) rfl hn hcap hbig hc hl had
  have hlt : h.size < h'.size := D'.lt
  obtain ⟨t, o, hs, r⟩ := K h' h.size cA rfl hlt E' D' O' (Arv.new A' hn) p e s m args below meth c T' locs vm hx hby hml hret hnm hlk hZ hown X' e' N (hH.extNew E' hlt)
  exact ⟨t, o, stp t (by subst hp; exact hs), r⟩
theorem r_putfield {pc' : Nat} {R0 O n d C : String} {index kk : Nat} {ty : FieldType} {a : Addr} {v v' old : Value} (hd : decode B pc = .ok (.putfield index, 3)) (hp : pc + 3 = pc') (wl : (Jvm.Cond.fieldLink own index R0 n d).before a0 Z = true) (via : Via Z R0 O n d) (F : Fld Z h a O n d old) (E : Exa Z h a C)
    (L : (Jvm.Cond.lays C O n d).before a0 Z = true ∨ ((Jvm.Cond.laysFinal C O n d).before a0 Z = true ∧ own = O ∧ nm = "<init>")) (wi : (Jvm.Cond.instantiable C kk).before a0 Z = true) (hty : parseFieldDescriptor d = some ty) (hn : narrow ty v = v') (hf : fits ty v' = true) (ge : n0 ≤ a) (S : Sf w Z h My a)
    (K : ∀ h' : Heap, Wr h h' a (Jvm.RoadKit.slotOf Z O n d) v' → Run w l Z EL n0 own nm B ret R Q Ny My h' cells slots pc' ls st) : Run w l Z EL n0 own nm B ret R Q Ny My h cells slots pc ls (v :: .ref a :: st) := by
  intro p e s m args below meth c T locs vm hx hby hml hret hnm hlk hZ hown X eT N hH
  obtain ⟨T', h', X', e', W', stp⟩ := putFN X hx hZ hown wl via eT F E (L.imp id fun q => ⟨q.1, q.2.1, hnm.trans q.2.2⟩) wi hty hn hf (g := mkF m pc ls (v :: .ref a :: st)) rfl rfl (hb hby hd)
  obtain ⟨t, o, hs, r⟩ := K h' W' p e s m args below meth c T' _ vm hx hby hml hret hnm hlk hZ hown X' e' (Fr.snoc X' N ge) (hH.keep hZ (Keep.of_wr W') (allS ⟨ge, S⟩ all0))
  exact ⟨t, o, stp t (by subst hp; exact hs), r⟩
theorem Sf.arv {w : Bool} {Z : State} {h : Heap} {My : List Addr} {a : Addr} {k : ClassId} {ty : FieldType} {z : Int32} {vs : List Value} {dv : Value} (A : Arv Z h a k ty z vs dv) (ht : ty ≠ .byte) : Sf w Z h My a := by
  obtain ⟨cl, A1, -⟩ := A
  exact Or.inr (Or.inr (Or.inr ⟨cl, ty, A1, ht⟩))
theorem Sf.exa {w : Bool} {Z : State} {h : Heap} {My : List Addr} {a : Addr} {C : String} (E : Exa Z h a C) (h1 : C ≠ "java/lang/String") (h2 : C ≠ "[B") : Sf w Z h My a := Or.inr (Or.inr (Or.inl ⟨C, E, h1, h2⟩))
theorem Sf.my {w : Bool} {Z : State} {h : Heap} {My : List Addr} {a : Addr} (q : a ∈ My) : Sf w Z h My a := Or.inr (Or.inl q)
theorem r_castore {pc' : Nat} {a : Addr} {k : ClassId} {z j x : Int32} {vs : List Value} {dv : Value} (i : Nat) (hd : decode B pc = .ok (.castore, 1)) (hp : pc + 1 = pc') (A : Arv Z h a k .char z vs dv) (hj : ¬ j < 0 ∧ j < z) (hi : j.toNatClampNeg = i) (hlen : i < vs.length) (ge : n0 ≤ a) 
    (K : ∀ h' : Heap, Wr h h' a i (.int (nar .char x)) → Arv Z h' a k .char z (vs.set i (.int (nar .char x))) dv → Run w l Z EL n0 own nm B ret R Q Ny My h' cells slots pc' ls st) : Run w l Z EL n0 own nm B ret R Q Ny My h cells slots pc ls (.int x :: .int j :: .ref a :: st) := by
  intro p e s m args below meth c T locs vm hx hby hml hret hnm hlk hZ hown X eT N hH
  obtain ⟨cl, A1, q1, S1, N1, H1, G1⟩ := id A
  obtain ⟨T', h', X', e', W', stp⟩ := stC X hx hZ eT A1 (inb_of S1 hj) (g := mkF m pc ls (.int x :: .int j :: .ref a :: st)) rfl rfl (hb hby hd)
  have S : Sf w Z h My a := Sf.arv A (by decide)
  obtain ⟨t, o, hs, r⟩ := K h' (hi ▸ W') (Arv.set A1 q1 S1 N1 H1 G1 (fits_nar_char _) W' i hi hlen) p e s m args below meth c T' _ vm hx hby hml hret hnm hlk hZ hown X' e' (Fr.snoc X' N ge) (hH.keep hZ (Keep.of_wr W') (allS ⟨ge, S⟩ all0))
  exact ⟨t, o, stp t (by subst hp; exact hs), r⟩
theorem r_bastore {pc' : Nat} {a : Addr} {k : ClassId} {z j x : Int32} {vs : List Value} {dv : Value} (i : Nat) (hd : decode B pc = .ok (.bastore, 1)) (hp : pc + 1 = pc') (A : Arv Z h a k .byte z vs dv) (hj : ¬ j < 0 ∧ j < z) (hi : j.toNatClampNeg = i) (hlen : i < vs.length) (ge : n0 ≤ a) (S : Sf w Z h My a) 
    (K : ∀ h' : Heap, Wr h h' a i (.int (nar .byte x)) → Arv Z h' a k .byte z (vs.set i (.int (nar .byte x))) dv → Run w l Z EL n0 own nm B ret R Q Ny My h' cells slots pc' ls st) : Run w l Z EL n0 own nm B ret R Q Ny My h cells slots pc ls (.int x :: .int j :: .ref a :: st) := by
  intro p e s m args below meth c T locs vm hx hby hml hret hnm hlk hZ hown X eT N hH
  obtain ⟨cl, A1, q1, S1, N1, H1, G1⟩ := id A
  obtain ⟨T', h', X', e', W', stp⟩ := stB X hx hZ eT A1 (inb_of S1 hj) (g := mkF m pc ls (.int x :: .int j :: .ref a :: st)) rfl rfl (hb hby hd)
  obtain ⟨t, o, hs, r⟩ := K h' (hi ▸ W') (Arv.set A1 q1 S1 N1 H1 G1 (fits_nar_byte _) W' i hi hlen) p e s m args below meth c T' _ vm hx hby hml hret hnm hlk hZ hown X' e' (Fr.snoc X' N ge) (hH.keep hZ (Keep.of_wr W') (allS ⟨ge, S⟩ all0))
  exact ⟨t, o, stp t (by subst hp; exact hs), r⟩
theorem r_sastore {pc' : Nat} {a : Addr} {k : ClassId} {z j x : Int32} {vs : List Value} {dv : Value} (i : Nat) (hd : decode B pc = .ok (.sastore, 1)) (hp : pc + 1 = pc') (A : Arv Z h a k .short z vs dv) (hj : ¬ j < 0 ∧ j < z) (hi : j.toNatClampNeg = i) (hlen : i < vs.length) (ge : n0 ≤ a) 
    (K : ∀ h' : Heap, Wr h h' a i (.int (nar .short x)) → Arv Z h' a k .short z (vs.set i (.int (nar .short x))) dv → Run w l Z EL n0 own nm B ret R Q Ny My h' cells slots pc' ls st) : Run w l Z EL n0 own nm B ret R Q Ny My h cells slots pc ls (.int x :: .int j :: .ref a :: st) := by
  intro p e s m args below meth c T locs vm hx hby hml hret hnm hlk hZ hown X eT N hH
  obtain ⟨cl, A1, q1, S1, N1, H1, G1⟩ := id A
  obtain ⟨T', h', X', e', W', stp⟩ := stS X hx hZ eT A1 (inb_of S1 hj) (g := mkF m pc ls (.int x :: .int j :: .ref a :: st)) rfl rfl (hb hby hd)
  have S : Sf w Z h My a := Sf.arv A (by decide)
  obtain ⟨t, o, hs, r⟩ := K h' (hi ▸ W') (Arv.set A1 q1 S1 N1 H1 G1 (fits_nar_short _) W' i hi hlen) p e s m args below meth c T' _ vm hx hby hml hret hnm hlk hZ hown X' e' (Fr.snoc X' N ge) (hH.keep hZ (Keep.of_wr W') (allS ⟨ge, S⟩ all0))
  exact ⟨t, o, stp t (by subst hp; exact hs), r⟩
theorem r_bastoreZ {pc' : Nat} {a : Addr} {k : ClassId} {z j x : Int32} {vs : List Value} {dv : Value} (i : Nat) (hd : decode B pc = .ok (.bastore, 1)) (hp : pc + 1 = pc') (A : Arv Z h a k .boolean z vs dv) (hj : ¬ j < 0 ∧ j < z) (hi : j.toNatClampNeg = i) (hlen : i < vs.length) (ge : n0 ≤ a) 
    (K : ∀ h' : Heap, Wr h h' a i (.int (nar .boolean x)) → Arv Z h' a k .boolean z (vs.set i (.int (nar .boolean x))) dv → Run w l Z EL n0 own nm B ret R Q Ny My h' cells slots pc' ls st) : Run w l Z EL n0 own nm B ret R Q Ny My h cells slots pc ls (.int x :: .int j :: .ref a :: st) := by
  intro p e s m args below meth c T locs vm hx hby hml hret hnm hlk hZ hown X eT N hH
  obtain ⟨cl, A1, q1, S1, N1, H1, G1⟩ := id A
  obtain ⟨T', h', X', e', W', stp⟩ := stZ X hx hZ eT A1 (inb_of S1 hj) (g := mkF m pc ls (.int x :: .int j :: .ref a :: st)) rfl rfl (hb hby hd)
  have S : Sf w Z h My a := Sf.arv A (by decide)
  obtain ⟨t, o, hs, r⟩ := K h' (hi ▸ W') (Arv.set A1 q1 S1 N1 H1 G1 (fits_nar_bool _) W' i hi hlen) p e s m args below meth c T' _ vm hx hby hml hret hnm hlk hZ hown X' e' (Fr.snoc X' N ge) (hH.keep hZ (Keep.of_wr W') (allS ⟨ge, S⟩ all0))
  exact ⟨t, o, stp t (by subst hp; exact hs), r⟩
theorem r_iastore {pc' : Nat} {a : Addr} {k : ClassId} {z j x : Int32} {vs : List Value} {dv : Value} (i : Nat) (hd : decode B pc = .ok (.iastore, 1)) (hp : pc + 1 = pc') (A : Arv Z h a k .int z vs dv) (hj : ¬ j < 0 ∧ j < z) (hi : j.toNatClampNeg = i) (hlen : i < vs.length) (ge : n0 ≤ a) 
    (K : ∀ h' : Heap, Wr h h' a i (.int x) → Arv Z h' a k .int z (vs.set i (.int x)) dv → Run w l Z EL n0 own nm B ret R Q Ny My h' cells slots pc' ls st) : Run w l Z EL n0 own nm B ret R Q Ny My h cells slots pc ls (.int x :: .int j :: .ref a :: st) := by
  intro p e s m args below meth c T locs vm hx hby hml hret hnm hlk hZ hown X eT N hH
  obtain ⟨cl, A1, q1, S1, N1, H1, G1⟩ := id A
  obtain ⟨T', h', X', e', W', stp⟩ := stI X hx hZ eT A1 (inb_of S1 hj) (g := mkF m pc ls (.int x :: .int j :: .ref a :: st)) rfl rfl (hb hby hd)
  have S : Sf w Z h My a := Sf.arv A (by decide)
  obtain ⟨t, o, hs, r⟩ := K h' (hi ▸ W') (Arv.set A1 q1 S1 N1 H1 G1 (rfl) W' i hi hlen) p e s m args below meth c T' _ vm hx hby hml hret hnm hlk hZ hown X' e' (Fr.snoc X' N ge) (hH.keep hZ (Keep.of_wr W') (allS ⟨ge, S⟩ all0))
  exact ⟨t, o, stp t (by subst hp; exact hs), r⟩
theorem r_aastore {pc' : Nat} {a : Addr} {k : ClassId} {ty : FieldType} {z j : Int32} {vs : List Value} {dv v : Value} (i : Nat) (hd : decode B pc = .ok (.aastore, 1)) (hp : pc + 1 = pc') (A : Arv Z h a k ty z vs dv) (hty : ty.isReference = true) (hj : ¬ j < 0 ∧ j < z) (hi : j.toNatClampNeg = i) (hlen : i < vs.length) (F : Sto Z h a v) (hv : fits ty v = true) (ge : n0 ≤ a)
    (K : ∀ h' : Heap, Wr h h' a i v → Arv Z h' a k ty z (vs.set i v) dv → Run w l Z EL n0 own nm B ret R Q Ny My h' cells slots pc' ls st) : Run w l Z EL n0 own nm B ret R Q Ny My h cells slots pc ls (v :: .int j :: .ref a :: st) := by
  intro p e s m args below meth c T locs vm hx hby hml hret hnm hlk hZ hown X eT N hH
  obtain ⟨cl, A1, q1, S1, N1, H1, G1⟩ := id A
  obtain ⟨T', h', X', e', W', stp⟩ := stR X hx hZ eT A1 (inb_of S1 hj) hty F (g := mkF m pc ls (v :: .int j :: .ref a :: st)) rfl rfl (hb hby hd)
  have S : Sf w Z h My a := Sf.arv A (fun q => by rw [q] at hty; cases hty)
  obtain ⟨t, o, hs, r⟩ := K h' (hi ▸ W') (Arv.set A1 q1 S1 N1 H1 G1 hv W' i hi hlen) p e s m args below meth c T' _ vm hx hby hml hret hnm hlk hZ hown X' e' (Fr.snoc X' N ge) (hH.keep hZ (Keep.of_wr W') (allS ⟨ge, S⟩ all0))
  exact ⟨t, o, stp t (by subst hp; exact hs), r⟩
theorem r_arraycopy {pc' index : Nat} {a b : Addr} {k k' : ClassId} {ty ty' : FieldType} {z z' sp dp nn : Int32} {vs vd us : List Value} {dv dd : Value} {W : Nat} (hd : decode B pc = .ok (.invokestatic index, 3)) (hp : pc + 3 = pc')
    (w1 : (Jvm.Cond.methodLink own index Jvm.Stand.acN).before a0 Z = true) (w2 : (Jvm.Cond.native Jvm.Stand.acN).before a0 Z = true) (w3 : (Jvm.Cond.static Jvm.Stand.acN).before a0 Z = true) (w4 : (Jvm.Cond.initialized "java/lang/System").before a0 Z = true)
    (A : Arv Z h a k ty z vs dv) (B' : Arv Z h b k' ty' z' vd dd) (hty : (ty = ty' ∧ refKind ty = false) ∨ (refKind ty = true ∧ refKind ty' = true ∧ StoL Z h b us)) (h1 : ¬ sp < 0) (h2 : ¬ dp < 0) (h3 : ¬ nn < 0) (h4 : sp.toNatClampNeg + nn.toNatClampNeg ≤ z.toNatClampNeg) (h5 : dp.toNatClampNeg + nn.toNatClampNeg ≤ z'.toNatClampNeg)
    (hus : us = (List.range nn.toNatClampNeg).map fun i => vs.getD (sp.toNatClampNeg + i) dv) (hlv : dp.toNatClampNeg + nn.toNatClampNeg ≤ vd.length) (ge : n0 ≤ b) (S : Sf w Z h My b) (hf : 1 ≤ R.frames) (hW : (st.map fun v => v.category).sum ≤ W) (hlo : W + (nativeFrameWords "java/lang/System" "arraycopy" 5 + 11) ≤ R.locals)
    (K : ∀ h' : Heap, Keep h h' [b] → Arv Z h' b k' ty' z' (vd.take dp.toNatClampNeg ++ us ++ vd.drop (dp.toNatClampNeg + nn.toNatClampNeg)) dd → Run w l Z EL n0 own nm B ret R Q Ny My h' cells slots pc' ls st) : Run w l Z EL n0 own nm B ret R Q Ny My h cells slots pc ls (.int nn :: .int dp :: .ref b :: .int sp :: .ref a :: st) := by
  intro p e s m args below meth c T locs vm hx hby hml hret hnm hlk hZ hown X eT N hH
  obtain ⟨T', h', L', X', e', N', K', A', stp⟩ := cpA X hx hZ hown w1 w2 w3 w4 eT A B' hty h1 h2 h3 h4 h5 hus hlv N ge (g := mkF m pc ls (.int nn :: .int dp :: .ref b :: .int sp :: .ref a :: st)) rfl hml.symm rfl (hb hby hd) hf (W := W) (by show 2 * 0 + _ ≤ _; omega) hlo
  obtain ⟨t, o, hs, r⟩ := K h' K' A' p e s m args below meth c T' L' vm hx hby hml hret hnm hlk hZ hown X' e' N' (hH.keep hZ K' (allS ⟨ge, S⟩ all0))
  exact ⟨t, o, stp t (by subst hp; exact hs), r⟩
/-- the end of a walk -/
theorem Run.leave {v : Option Value} (hv : ret = none → v = none) (hQ : Q v h) (hS : ∀ x ∈ Ny v, x ∈ My) (hc : cells ≤ R.cells) (hl : slots ≤ R.slots)
    (H : ∀ (p : Program) (e : Env) (s : State) (m : MethodId) (args : Array Value) (below : List Frame) (meth : Method) (c : Code) (T : State) (locs : List Loc) (fs : List Frame), p.tables.exec = Jvm.exec → c.code = B → meth.sig.returnType = ret → Stand p l e R s m args below meth c T locs cells slots →
      (∀ (f : JFrame) (acts : List Action), f.method = m → f.locked = none → f.entered = [] → (doReturn e (T.setTop f) acts v).1 = T.setFrames fs) → Steps p.tables e below (T.setTop (mkF m pc ls st)) (T.setFrames fs)) : Run w l Z EL n0 own nm B ret R Q Ny My h cells slots pc ls st := by
  intro p e s m args below meth c T locs vm hx hby hml hret hnm hlk hZ hown X eT N hH
  cases w with
  | false =>
    obtain rfl := hH.2.1.1 rfl
    obtain ⟨fs, hr, hrun, hended, hW, hsame⟩ := X.leave (v := v) (fun q => hv (hret ▸ q)) hlk
    exact ⟨_, _, H p e _ m args below meth c T locs fs hx hby hret X hr, hrun, hended, v, locs, rfl, (by show Q v T.heap; rw [eT]; exact hQ), N, fun _ => ⟨⟨v, rfl⟩, hW, hsame.mono hc hl⟩, fun q => (by cases q)⟩
  | true =>
    obtain ⟨hEW0, ⟨k0, hS0, hk0⟩, hC, hMy⟩ := hH.2.2 rfl
    obtain ⟨fs, hr, hrun, hended, hE⟩ := X.leaveW hS0 (by rw [eT]; exact hk0) (v := v) (fun q => hv (hret ▸ q)) hlk
    have hZT : Z.Warmed39 T.vm := wtrans (s := s.setVm vm) hZ X.warmed
    have hA : CHr Z EL vm h T.vm h := by obtain ⟨a1, hEW⟩ := hEW0; exact CHv.at X hZ hEW hC.1
    exact ⟨_, _, H p e _ m args below meth c T locs fs hx hby hret X hr, hrun, hended, v, locs, rfl, (by show Q v T.heap; rw [eT]; exact hQ), N, fun q => (by cases q), fun _ => ⟨⟨hE.1, hE.2.1, hE.2.2.1, hE.2.2.2.mono hc hl⟩, by
      show CHr Z EL s.vm s.heap T.vm T.heap
      rw [eT]; exact hC.trans hA, fun x hx => by
      show x < T.heap.size ∧ Safe Z EL T.vm T.heap x
      rw [eT]
      exact ⟨(hMy x (hS x hx)).1, hA.safe (hMy x (hS x hx)).1 (hMy x (hS x hx)).2⟩⟩⟩
theorem r_ireturn {z : Int32} (hd : decode B pc = .ok (.ireturn, 1)) (hret : ret = some .int) (hQ : Q (some (.int z)) h) (hS : ∀ x ∈ Ny (some (.int z)), x ∈ My) (hc : cells ≤ R.cells) (hl : slots ≤ R.slots) : Run w l Z EL n0 own nm B ret R Q Ny My h cells slots pc ls (.int z :: st) :=
  Run.leave (v := some (.int z)) (fun q => by rw [hret] at q; cases q) hQ hS hc hl fun p e s m args below meth c T locs fs hx hby hr X hl => retOut X hx (hr.trans hret) rfl (Or.inl ⟨rfl, Or.inl rfl, z, rfl⟩) (hb hby hd) hl
theorem r_ireturnN {z : Int32} {t : FieldType} (hd : decode B pc = .ok (.ireturn, 1)) (hret : ret = some t) (ht : t = .boolean ∨ t = .byte ∨ t = .char ∨ t = .short) (hQ : Q (some (.int (nar t z))) h) (hS : ∀ x ∈ Ny (some (.int (nar t z))), x ∈ My) (hc : cells ≤ R.cells) (hl : slots ≤ R.slots) : Run w l Z EL n0 own nm B ret R Q Ny My h cells slots pc ls (.int z :: st) :=
  Run.leave (v := some (.int (nar t z))) (fun q => by rw [hret] at q; cases q) hQ hS hc hl fun p e s m args below meth c T locs fs hx hby hr X hl => retN X hx (hr.trans hret) ht (hb hby hd) hl
theorem r_lreturn {z : Int64} (hd : decode B pc = .ok (.lreturn, 1)) (hret : ret = some .long) (hQ : Q (some (.long z)) h) (hS : ∀ x ∈ Ny (some (.long z)), x ∈ My) (hc : cells ≤ R.cells) (hl : slots ≤ R.slots) : Run w l Z EL n0 own nm B ret R Q Ny My h cells slots pc ls (.long z :: st) :=
  Run.leave (v := some (.long z)) (fun q => by rw [hret] at q; cases q) hQ hS hc hl fun p e s m args below meth c T locs fs hx hby hr X hl => retOut X hx (hr.trans hret) rfl (Or.inr (Or.inl ⟨rfl, rfl, z, rfl⟩)) (hb hby hd) hl
theorem r_areturn {v : Value} {t : FieldType} (hd : decode B pc = .ok (.areturn, 1)) (hret : ret = some t) (ht : t.isReference = true) (hv : v.isRef = true) (hn : narrow t v = v) (hQ : Q (some v) h) (hS : ∀ x ∈ Ny (some v), x ∈ My) (hc : cells ≤ R.cells) (hl : slots ≤ R.slots) : Run w l Z EL n0 own nm B ret R Q Ny My h cells slots pc ls (v :: st) :=
  Run.leave (v := some v) (fun q => by rw [hret] at q; cases q) hQ hS hc hl fun p e s m args below meth c T locs fs hx hby hr X hl => retOut X hx (hr.trans hret) hn (Or.inr (Or.inr (Or.inr (Or.inr ⟨rfl, ht, hv⟩)))) (hb hby hd) hl
theorem r_return (hd : decode B pc = .ok (.return_, 1)) (hret : ret = none) (hQ : Q none h) (hS : ∀ x ∈ Ny none, x ∈ My) (hc : cells ≤ R.cells) (hl : slots ≤ R.slots) : Run w l Z EL n0 own nm B ret R Q Ny My h cells slots pc ls [] :=
  Run.leave (v := none) (fun _ => rfl) hQ hS hc hl fun p e s m args below meth c T locs fs hx hby hr X hl => X.returnOut hx (hr.trans hret) (hb hby hd) hl
end Rules
/-- who pays a call, tables not widened -/
def Pays (l : Launch) (Z : State) (n0 : Nat) (R : Room) (y : MethodName) (len W : Nat) (as : Array Value) (h : Heap) (kc ks : Nat) (Q : Option Value → Heap → Prop) : Prop :=
  Old Z n0 h → ∀ (p : Program) (e : Env) (below : List Frame) (s : State) (args : Array Value), Z.Warmed39 s.vm → s.vm.MethodsKnown → s.vm.FramesKnown below →
    Back l R p e below s args y len W (fun A a => a = as ∧ A.U.heap = h ∧ A.cells + kc ≤ R.cells ∧ A.slots + ks ≤ R.slots) (fun A _ v B => ∃ L, (Q v B.U.heap ∧ Fr n0 L) ∧ B.locs = A.locs ++ L ∧ B.cells = A.cells + kc ∧ B.slots = A.slots + ks)
/-- who pays a call that may intern -/
def PaysW (l : Launch) (Z : State) (EL : List (String × Nat)) (n0 : Nat) (My : List Addr) (R : Room) (y : MethodName) (len W : Nat) (as : Array Value) (h : Heap) (kc ks : Nat) (Q : Option Value → Heap → Prop) (Ny : Option Value → List Addr) : Prop :=
  Old Z n0 h → ∀ (p : Program) (e : Env) (below : List Frame) (s : State) (args : Array Value) (vm : Vm), Z.Warmed39 vm → vm.MethodsKnown → vm.FramesKnown below → (∃ a0, EW Z a0 EL) → CHv Z EL vm h → (∀ x ∈ My, x < h.size ∧ Safe Z EL vm h x) →
    BackS l R p e below (s.setVm vm) args y len W (fun A a => a = as ∧ A.U.heap = h ∧ A.cells + kc ≤ R.cells ∧ A.slots + ks ≤ R.slots) (fun A _ v B => ∃ L, (Q v B.U.heap ∧ Fr n0 L) ∧ B.locs = A.locs ++ L ∧ B.cells = A.cells + kc ∧ B.slots = A.slots + ks ∧ CHr Z EL vm h B.U.vm B.U.heap ∧ ∀ x ∈ Ny v, x < B.U.heap.size ∧ Safe Z EL B.U.vm B.U.heap x)
section Calls
variable {w : Bool} {l : Launch} {Z : State} {EL : List (String × Nat)} {n0 : Nat} {own nm : String} {B : ByteArray} {ret : Option FieldType} {R : Room} {Q : Option Value → Heap → Prop} {Ny : Option Value → List Addr} {My : List Addr} {h : Heap} {cells slots pc : Nat} {ls : Array Slot} {st : List Value} {a0 : Array Value}
theorem Ok.pays {y : MethodName} {bytes : ByteArray} {maxL : Nat} {rt : Option FieldType} {rm : Room} {as : Array Value} {Qc : Option Value → Heap → Prop} {Nc : Option Value → List Addr} {len W : Nat} (O : Ok false l Z EL n0 My y bytes maxL rt rm as h Qc Nc) (wc : (Jvm.Cond.code y bytes maxL rt).before a0 Z = true) (wz : (Jvm.Cond.initialized y.cls).before a0 Z = true) (hf : rm.frames + 1 ≤ R.frames) (hl : W + (maxL + 11) + rm.locals ≤ R.locals) :
    Pays l Z n0 R y len W as h rm.cells rm.slots Qc := fun hO p e below s args hZ k1 k2 => by
  have hM : MetFree l y (head1 [Jvm.Cond.code y bytes maxL rt] rm) (fun a U => a = as ∧ Z.Warmed39 U.vm ∧ U.heap = h) (fun _ _ bl s _ => s.vm.MethodsKnown ∧ s.vm.FramesKnown bl) (fun _ U o U' => ∃ v L, o = .returned v ∧ (Qc v U'.heap ∧ Fr n0 L) ∧ FrameEnd U o U' L rm.cells rm.slots) := by
    intro p e ha hc hk s m args below hf happ hP hK
    obtain ⟨n, o, h1, h2, h3, v, L, h4, h5, h6, h7, -⟩ := O [] p e ha hc hk s m args below hf happ ⟨hP.1, hP.2.1, hP.2.2, hO, fun q => by cases q⟩ hK
    exact ⟨n, o, h1, h2, h3, v, L, h4, ⟨h5, h6⟩, h7 rfl⟩
  exact backOfKL (Q := fun v h' L => Qc v h' ∧ Fr n0 L) hM hZ wc wz hf hl k1 k2
theorem Ok.paysW {y : MethodName} {bytes : ByteArray} {maxL : Nat} {rt : Option FieldType} {rm : Room} {as : Array Value} {Qc : Option Value → Heap → Prop} {Nc : Option Value → List Addr} {len W : Nat} (O : Ok true l Z EL n0 My y bytes maxL rt rm as h Qc Nc) (wc : (Jvm.Cond.code y bytes maxL rt).before a0 Z = true) (wz : (Jvm.Cond.initialized y.cls).before a0 Z = true) (hf : rm.frames + 1 ≤ R.frames) (hl : W + (maxL + 11) + rm.locals ≤ R.locals) :
    PaysW l Z EL n0 My R y len W as h rm.cells rm.slots Qc Nc := fun hO p e below s args vm0 hZ k1 k2 hEL H hMy => by
  obtain ⟨a1, hEW⟩ := id hEL
  exact BackS.of_freeWG (bytes := bytes) (maxL := maxL) (ret := rt) (E := fun _ first o t L k n => k = rm.cells ∧ n = rm.slots ∧ (∃ v, o = .returned v ∧ (Qc v t.heap ∧ Fr n0 L) ∧ ∀ x ∈ Nc v, x < t.heap.size ∧ Safe Z EL t.vm t.heap x) ∧ CHr Z EL first.vm first.heap t.vm t.heap) (O []) hf hl
    (fun m meth c A a Y hp => have hU : Z.Warmed39 A.U.vm := wtrans (s := s.setVm vm0) hZ Y.warmed
      ⟨by show (Cond.and _ .tt).before a A.U = true; rw [Cond.before_and, mv hU wc]; rfl, mv hU wc, mv hU wz, hp.2.2.1, hp.2.2.2⟩)
    (fun m meth c A a g mk Y hp => ⟨hp.1, wtrans (s := s.setVm vm0) hZ Y.warmed, hp.2.1, hO, fun _ => ⟨hEL, (CHv.at Y hZ hEW H).1, fun x hx => ⟨(hMy x hx).1, (CHv.at Y hZ hEW H).safe (hMy x hx).1 (hMy x hx).2⟩⟩⟩) (fun m meth c A a g mk Y _ hg => known_frames Y hg k1 k2)
    (fun _ _ _ _ ⟨v, L, h1, h2, h3, h4⟩ => ⟨L, _, _, (h4.2 rfl).1, rfl, rfl, ⟨v, h1, ⟨h2, h3⟩, (h4.2 rfl).2.2⟩, (h4.2 rfl).2.1⟩)
    (fun m meth c A a g mk v t L k n Y hp _ _ ⟨e1, e2, ⟨v', e3, e4, e4'⟩, e5⟩ => by
      cases e3; subst e1 e2
      refine ⟨L, e4, rfl, rfl, rfl, (CHv.at Y hZ hEW H).trans ?_, e4'⟩
      rw [← hp.2.1]; exact e5)
theorem Pays.weak {y : MethodName} {len W kc ks kc' ks' : Nat} {as : Array Value} {Q Q' : Option Value → Heap → Prop} (h1 : kc ≤ kc') (h2 : ks ≤ ks') (P : Pays l Z n0 R y len W as h kc ks Q) (hQ : ∀ v h', Q v h' → Q' v h') : Pays l Z n0 R y len W as h kc' ks' Q' :=
  fun hO p e below s args hZ k1 k2 m meth c A g ig mk a X hg hsize hdg hW hn hp => by
    obtain ⟨v, B', X', ⟨L, hq, l1, l2, l3⟩, st⟩ := P hO p e below s args hZ k1 k2 m meth c A g ig mk a X hg hsize hdg hW hn ⟨hp.1, hp.2.1, by have := hp.2.2.1; omega, by have := hp.2.2.2; omega⟩
    exact ⟨v, ⟨B'.U, B'.locs, A.cells + kc', A.slots + ks'⟩, X'.mono (by show B'.cells ≤ A.cells + kc'; omega) (by show B'.slots ≤ A.slots + ks'; omega), ⟨L, ⟨hQ _ _ hq.1, hq.2⟩, l1, rfl, rfl⟩, st⟩
theorem nf_sel {args : Array Value} {s : State} {C : String} {x1 y1 x0 : MethodName} (w : (Jvm.Cond.selects C x1 y1).before args s = true) (hc : y1.cls = x0.cls) : NotFace s x0 := fun r0 h0 => by
  obtain ⟨c2, r2, m2, -, -, q3, -, k, hk, hi⟩ := Cond.selects_spec w
  have a := findClass_of_methodNamed q3
  have b := findClass_of_methodNamed h0
  rw [hc] at a
  have e := Option.some.inj (a.symm.trans b)
  rw [e] at hk
  exact ⟨k, hk, hi⟩
/-- a call, narrow -/
theorem Run.call {pc' len W kc ks : Nat} {y : MethodName} {as : Array Value} {Qc : Option Value → Heap → Prop} {rest : List Value} {wl : List Addr} (hp : pc + len = pc')
    (H : ∀ (p : Program) (e : Env) (s : State) (m : MethodId) (args : Array Value) (below : List Frame) (meth : Method) (c : Code) (T : State) (locs : List Loc), p.tables.exec = Jvm.exec → c.code = B → c.maxLocals = ls.size → Z.Warmed39 s.vm → s.vm.findClass own = some m.cls → Stand p l e R s m args below meth c T locs cells slots → T.heap = h →
      ∀ (Pre : Pt → Array Value → Prop) (Post : Pt → Array Value → Option Value → Pt → Prop), Back l R p e below s args y len W Pre Post → (∀ vm₁, s.WarmedH vm₁ → Pre ⟨T.setVm vm₁, locs, cells, slots⟩ as) →
        ∃ (v : Option Value) (vm₁ : Vm) (B' : Pt), s.WarmedH vm₁ ∧ Stand p l e R s m args below meth c B'.U B'.locs B'.cells B'.slots ∧ Post ⟨T.setVm vm₁, locs, cells, slots⟩ as v B' ∧ Steps p.tables e below (T.setTop (mkF m pc ls st)) (B'.U.setTop (mkF m (pc + len) ls (v.toList ++ rest))))
    (P : Pays l Z n0 R y len W as h kc ks Qc) (hk : ∀ v h', Qc v h' → Keep h h' wl) (hs : ∀ x ∈ wl, n0 ≤ x ∧ Sf w Z h My x) (hc : cells + kc ≤ R.cells) (hl : slots + ks ≤ R.slots)
    (K : ∀ v h', Qc v h' → Run w l Z EL n0 own nm B ret R Q Ny My h' (cells + kc) (slots + ks) pc' ls (v.toList ++ rest)) : Run w l Z EL n0 own nm B ret R Q Ny My h cells slots pc ls st := by
  intro p e s m args below meth c T locs vm hx hby hml hret hnm hlk hZ hown X eT N hH
  obtain ⟨v, vm₁, ⟨U, L', c', n'⟩, -, X', ⟨L, ⟨hq, hF⟩, l1, l2, l3⟩, stp⟩ := H p e (s.setVm vm) m args below meth c T locs hx hby hml hZ hown X eT _ _ (P hH.1 p e below (s.setVm vm) args hZ (hH.known).1 (hH.known).2) (fun vm₁ _ => ⟨rfl, eT, hc, hl⟩)
  dsimp only [Pt.U, Pt.locs, Pt.cells, Pt.slots] at X' l1 l2 l3 stp hq
  subst l1 l2 l3
  obtain ⟨t, o, hs', r⟩ := K v U.heap hq p e s m args below meth c U _ vm hx hby hml hret hnm hlk hZ hown X' rfl (Fr.app N hF) (hH.keep hZ (hk v _ hq) hs)
  exact ⟨t, o, stp.trans (by subst hp; exact hs'), r⟩
/-- a call, narrow; what it made is known to be fresh -/
theorem Run.callF {pc' len W kc ks : Nat} {y : MethodName} {as : Array Value} {Qc : Option Value → Heap → Prop} {rest : List Value} {wl : List Addr} (hp : pc + len = pc')
    (H : ∀ (p : Program) (e : Env) (s : State) (m : MethodId) (args : Array Value) (below : List Frame) (meth : Method) (c : Code) (T : State) (locs : List Loc), p.tables.exec = Jvm.exec → c.code = B → c.maxLocals = ls.size → Z.Warmed39 s.vm → s.vm.findClass own = some m.cls → Stand p l e R s m args below meth c T locs cells slots → T.heap = h →
      ∀ (Pre : Pt → Array Value → Prop) (Post : Pt → Array Value → Option Value → Pt → Prop), Back l R p e below s args y len W Pre Post → (∀ vm₁, s.WarmedH vm₁ → Pre ⟨T.setVm vm₁, locs, cells, slots⟩ as) →
        ∃ (v : Option Value) (vm₁ : Vm) (B' : Pt), s.WarmedH vm₁ ∧ Stand p l e R s m args below meth c B'.U B'.locs B'.cells B'.slots ∧ Post ⟨T.setVm vm₁, locs, cells, slots⟩ as v B' ∧ Steps p.tables e below (T.setTop (mkF m pc ls st)) (B'.U.setTop (mkF m (pc + len) ls (v.toList ++ rest))))
    (P : Pays l Z n0 R y len W as h kc ks Qc) (hk : ∀ v h', Qc v h' → Keep h h' wl) (hs : ∀ x ∈ wl, n0 ≤ x ∧ Sf w Z h My x) (hc : cells + kc ≤ R.cells) (hl : slots + ks ≤ R.slots)
    (K : ∀ v h', Qc v h' → ∃ F : List Addr, (∀ x ∈ F, (x ∈ My ∨ h.size ≤ x) ∧ x < h'.size) ∧ Run w l Z EL n0 own nm B ret R Q Ny (F ++ My) h' (cells + kc) (slots + ks) pc' ls (v.toList ++ rest)) : Run w l Z EL n0 own nm B ret R Q Ny My h cells slots pc ls st := by
  intro p e s m args below meth c T locs vm hx hby hml hret hnm hlk hZ hown X eT N hH
  obtain ⟨v, vm₁, ⟨U, L', c', n'⟩, -, X', ⟨L, ⟨hq, hF⟩, l1, l2, l3⟩, stp⟩ := H p e (s.setVm vm) m args below meth c T locs hx hby hml hZ hown X eT _ _ (P hH.1 p e below (s.setVm vm) args hZ (hH.known).1 (hH.known).2) (fun vm₁ _ => ⟨rfl, eT, hc, hl⟩)
  dsimp only [Pt.U, Pt.locs, Pt.cells, Pt.slots] at X' l1 l2 l3 stp hq
  subst l1 l2 l3
  obtain ⟨F, hF1, r0⟩ := K v U.heap hq
  obtain ⟨t, o, hs', r⟩ := r0 p e s m args below meth c U _ vm hx hby hml hret hnm hlk hZ hown X' rfl (Fr.app N hF) (hH.keepNew hZ (hk v _ hq) hs hF1)
  exact ⟨t, o, stp.trans (by subst hp; exact hs'), r⟩
/-- a call that may intern, in a walk that may -/
theorem Run.callW {pc' len W kc ks : Nat} {y : MethodName} {as : Array Value} {Qc : Option Value → Heap → Prop} {Nc : Option Value → List Addr} {Mc : List Addr} {rest : List Value} {wl : List Addr} (hw : w = true) (hp : pc + len = pc')
    (H : ∀ (p : Program) (e : Env) (s : State) (m : MethodId) (args : Array Value) (below : List Frame) (meth : Method) (c : Code) (T : State) (locs : List Loc), p.tables.exec = Jvm.exec → c.code = B → c.maxLocals = ls.size → Z.Warmed39 s.vm → s.vm.findClass own = some m.cls → Stand p l e R s m args below meth c T locs cells slots → T.heap = h →
      ∀ (Pre : Pt → Array Value → Prop) (Post : Pt → Array Value → Option Value → Pt → Prop), BackS l R p e below s args y len W Pre Post → (∀ vm₁, s.WarmedH vm₁ → Pre ⟨T.setVm vm₁, locs, cells, slots⟩ as) →
        ∃ (v : Option Value) (vm₁ : Vm) (B' : Pt), s.WarmedH vm₁ ∧ Stand p l e R (s.setVm B'.U.vm) m args below meth c B'.U B'.locs B'.cells B'.slots ∧ s.Since B'.U.vm B'.U.heap.size ∧ T.heap.size ≤ B'.U.heap.size ∧ Post ⟨T.setVm vm₁, locs, cells, slots⟩ as v B' ∧ Steps p.tables e below (T.setTop (mkF m pc ls st)) (B'.U.setTop (mkF m (pc + len) ls (v.toList ++ rest))))
    (P : PaysW l Z EL n0 Mc R y len W as h kc ks Qc Nc) (hm : ∀ x ∈ Mc, x ∈ My) (hk : ∀ v h', Qc v h' → Keep h h' wl) (hs : ∀ x ∈ wl, n0 ≤ x) (hc : cells + kc ≤ R.cells) (hl : slots + ks ≤ R.slots)
    (K : ∀ v h', Qc v h' → Run w l Z EL n0 own nm B ret R Q Ny (Nc v ++ My) h' (cells + kc) (slots + ks) pc' ls (v.toList ++ rest)) : Run w l Z EL n0 own nm B ret R Q Ny My h cells slots pc ls st := by
  intro p e s m args below meth c T locs vm hx hby hml hret hnm hlk hZ hown X eT N hH
  obtain ⟨hEW, ⟨k0, hS0, hk0⟩, hC, hMy⟩ := hH.2.2 hw
  obtain ⟨v, vm₁, ⟨U, L', c', n'⟩, -, X', hS', hgr, ⟨L, ⟨hq, hF⟩, l1, l2, l3, hC', hN'⟩, stp⟩ := H p e (s.setVm vm) m args below meth c T locs hx hby hml hZ hown X eT _ _ (P hH.1 p e below s args vm hZ (hH.known).1 (hH.known).2 hEW hC.1 fun x hx => hMy x (hm x hx)) (fun vm₁ _ => ⟨rfl, eT, hc, hl⟩)
  dsimp only [Pt.U, Pt.locs, Pt.cells, Pt.slots] at X' l1 l2 l3 stp hq hS' hgr hC' hN'
  subst l1 l2 l3
  obtain ⟨X2, hS2, hZ2, hown2⟩ := rebS hS0 (Nat.le_trans hk0 (by rw [eT]; exact Nat.le_refl _) : k0 ≤ T.heap.size) X' hS' hgr hZ hown
  obtain ⟨t, o, hs', r⟩ := K v U.heap hq p e s m args below meth c U _ U.vm hx hby hml hret hnm hlk hZ2 hown2 X2 rfl (Fr.app N hF) ⟨hH.1.keep (hk v _ hq) hs, ⟨fun q => (by rw [hw] at q; cases q), hH.2.1.2⟩, fun _ => ⟨hEW, ⟨_, hS2, Nat.le_refl _⟩, hC.trans hC', fun x hx => by
    rcases List.mem_append.mp hx with hx | hx
    · exact hN' x hx
    · exact ⟨Nat.lt_of_lt_of_le (hMy x hx).1 (hk v _ hq).1, hC'.safe (hMy x hx).1 (hMy x hx).2⟩⟩⟩
  exact ⟨t, o, stp.trans (by subst hp; exact hs'), r⟩
theorem r_static {pc' index W kc ks : Nat} {y : MethodName} {argsL rest : List Value} {as : Array Value} {Qc : Option Value → Heap → Prop} {wl : List Addr} {bytes : ByteArray} {maxL : Nat} {rt : Option FieldType} (hd : decode B pc = .ok (.invokestatic index, 3)) (hp : pc + 3 = pc') (w1 : (Jvm.Cond.methodLink own index y).before a0 Z = true) (w2 : (Jvm.Cond.static y).before a0 Z = true) (w3 : (Jvm.Cond.initialized y.cls).before a0 Z = true) (w4 : (Jvm.Cond.code y bytes maxL rt).before a0 Z = true) (hy : y.cls ≠ "java/lang/invoke/MethodHandle" ∧ y.cls ≠ "java/lang/invoke/VarHandle") (hlen : ∀ sig, parseMethodDescriptor y.desc = some sig → argsL.length = sig.parameters.length) (hst : st = argsL.reverse ++ rest) (has : argsL.toArray = as) (hW : (rest.map fun v => v.category).sum ≤ W) (P : Pays l Z n0 R y 3 W as h kc ks Qc) (hk : ∀ v h', Qc v h' → Keep h h' wl) (hs : ∀ x ∈ wl, n0 ≤ x ∧ Sf w Z h My x) (hc : cells + kc ≤ R.cells) (hl : slots + ks ≤ R.slots)
    (K : ∀ v h', Qc v h' → Run w l Z EL n0 own nm B ret R Q Ny My h' (cells + kc) (slots + ks) pc' ls (v.toList ++ rest)) : Run w l Z EL n0 own nm B ret R Q Ny My h cells slots pc ls st :=
  Run.call (len := 3) (y := y) (as := as) hp (fun p e s m args below meth c T locs hx hby hml hZ hown X eT Pre Post hK hpre => by
    obtain ⟨v, vm₁, B', x1, x2, x3, st0⟩ := Jvm.LawKit.callS X hx hown (mvT hZ w1) (mvT hZ w2) (mvT hZ w3) (mvT hZ w4) hy hK (g := mkF m pc ls st) rfl hml.symm (argsL := argsL) (rest := rest) hlen hst (by show 2 * 0 + _ ≤ _; omega) (hb hby hd) (by rw [has]; exact hpre)
    exact ⟨v, vm₁, B', x1, x2, has ▸ x3, st0 _ (Steps.refl _)⟩) P hk hs hc hl K
theorem r_staticF {pc' index W kc ks : Nat} {y : MethodName} {argsL rest : List Value} {as : Array Value} {Qc : Option Value → Heap → Prop} {wl : List Addr} {bytes : ByteArray} {maxL : Nat} {rt : Option FieldType} (hd : decode B pc = .ok (.invokestatic index, 3)) (hp : pc + 3 = pc') (w1 : (Jvm.Cond.methodLink own index y).before a0 Z = true) (w2 : (Jvm.Cond.static y).before a0 Z = true) (w3 : (Jvm.Cond.initialized y.cls).before a0 Z = true) (w4 : (Jvm.Cond.code y bytes maxL rt).before a0 Z = true) (hy : y.cls ≠ "java/lang/invoke/MethodHandle" ∧ y.cls ≠ "java/lang/invoke/VarHandle") (hlen : ∀ sig, parseMethodDescriptor y.desc = some sig → argsL.length = sig.parameters.length) (hst : st = argsL.reverse ++ rest) (has : argsL.toArray = as) (hW : (rest.map fun v => v.category).sum ≤ W) (P : Pays l Z n0 R y 3 W as h kc ks Qc) (hk : ∀ v h', Qc v h' → Keep h h' wl) (hs : ∀ x ∈ wl, n0 ≤ x ∧ Sf w Z h My x) (hc : cells + kc ≤ R.cells) (hl : slots + ks ≤ R.slots)
    (K : ∀ v h', Qc v h' → ∃ F : List Addr, (∀ x ∈ F, (x ∈ My ∨ h.size ≤ x) ∧ x < h'.size) ∧ Run w l Z EL n0 own nm B ret R Q Ny (F ++ My) h' (cells + kc) (slots + ks) pc' ls (v.toList ++ rest)) : Run w l Z EL n0 own nm B ret R Q Ny My h cells slots pc ls st :=
  Run.callF (len := 3) (y := y) (as := as) hp (fun p e s m args below meth c T locs hx hby hml hZ hown X eT Pre Post hK hpre => by
    obtain ⟨v, vm₁, B', x1, x2, x3, st0⟩ := Jvm.LawKit.callS X hx hown (mvT hZ w1) (mvT hZ w2) (mvT hZ w3) (mvT hZ w4) hy hK (g := mkF m pc ls st) rfl hml.symm (argsL := argsL) (rest := rest) hlen hst (by show 2 * 0 + _ ≤ _; omega) (hb hby hd) (by rw [has]; exact hpre)
    exact ⟨v, vm₁, B', x1, x2, has ▸ x3, st0 _ (Steps.refl _)⟩) P hk hs hc hl K
theorem r_staticW {pc' index W kc ks : Nat} {y : MethodName} {argsL rest : List Value} {as : Array Value} {Qc : Option Value → Heap → Prop} {wl : List Addr} {Nc : Option Value → List Addr} {Mc : List Addr} (hw : w = true) {bytes : ByteArray} {maxL : Nat} {rt : Option FieldType} (hd : decode B pc = .ok (.invokestatic index, 3)) (hp : pc + 3 = pc') (w1 : (Jvm.Cond.methodLink own index y).before a0 Z = true) (w2 : (Jvm.Cond.static y).before a0 Z = true) (w3 : (Jvm.Cond.initialized y.cls).before a0 Z = true) (w4 : (Jvm.Cond.code y bytes maxL rt).before a0 Z = true) (hy : y.cls ≠ "java/lang/invoke/MethodHandle" ∧ y.cls ≠ "java/lang/invoke/VarHandle") (hlen : ∀ sig, parseMethodDescriptor y.desc = some sig → argsL.length = sig.parameters.length) (hst : st = argsL.reverse ++ rest) (has : argsL.toArray = as) (hW : (rest.map fun v => v.category).sum ≤ W) (P : PaysW l Z EL n0 Mc R y 3 W as h kc ks Qc Nc) (hm : ∀ x ∈ Mc, x ∈ My) (hk : ∀ v h', Qc v h' → Keep h h' wl) (hs : ∀ x ∈ wl, n0 ≤ x) (hc : cells + kc ≤ R.cells) (hl : slots + ks ≤ R.slots)
    (K : ∀ v h', Qc v h' → Run w l Z EL n0 own nm B ret R Q Ny (Nc v ++ My) h' (cells + kc) (slots + ks) pc' ls (v.toList ++ rest)) : Run w l Z EL n0 own nm B ret R Q Ny My h cells slots pc ls st :=
  Run.callW (len := 3) (y := y) (as := as) hw hp (fun p e s m args below meth c T locs hx hby hml hZ hown X eT Pre Post hK hpre => by
    obtain ⟨v, vm₁, B', x1, x2, x4, x5, x3, st0⟩ := callSS X hx hown (mvT hZ w1) (mvT hZ w2) (mvT hZ w3) (mvT hZ w4) hy hK (g := mkF m pc ls st) rfl hml.symm (argsL := argsL) (rest := rest) hlen hst (by show 2 * 0 + _ ≤ _; omega) (hb hby hd) (by rw [has]; exact hpre)
    exact ⟨v, vm₁, B', x1, x2, x4, x5, has ▸ x3, st0⟩) P hm hk hs hc hl K
theorem r_special {pc' index W kc ks : Nat} {y : MethodName} {argsL rest : List Value} {as : Array Value} {Qc : Option Value → Heap → Prop} {wl : List Addr} {bytes : ByteArray} {maxL : Nat} {a : Addr} (hd : decode B pc = .ok (.invokespecial index, 3)) (hp : pc + 3 = pc') (hi : y.name = "<init>") (w1 : (Jvm.Cond.methodLink own index y).before a0 Z = true) (w2 : (Jvm.Cond.instanceMethod y).before a0 Z = true) (w4 : (Jvm.Cond.code y bytes maxL none).before a0 Z = true) (hy : y.cls ≠ "java/lang/invoke/MethodHandle" ∧ y.cls ≠ "java/lang/invoke/VarHandle") (hlen : ∀ sig, parseMethodDescriptor y.desc = some sig → argsL.length = sig.parameters.length) (hst : st = argsL.reverse ++ .ref a :: rest) (has : (Value.ref a :: argsL).toArray = as) (hW : (rest.map fun v => v.category).sum ≤ W) (P : Pays l Z n0 R y 3 W as h kc ks Qc) (hk : ∀ v h', Qc v h' → Keep h h' wl) (hs : ∀ x ∈ wl, n0 ≤ x ∧ Sf w Z h My x) (hc : cells + kc ≤ R.cells) (hl : slots + ks ≤ R.slots)
    (K : ∀ v h', Qc v h' → Run w l Z EL n0 own nm B ret R Q Ny My h' (cells + kc) (slots + ks) pc' ls (v.toList ++ rest)) : Run w l Z EL n0 own nm B ret R Q Ny My h cells slots pc ls st :=
  Run.call (len := 3) (y := y) (as := as) hp (fun p e s m args below meth c T locs hx hby hml hZ hown X eT Pre Post hK hpre => by
    obtain ⟨v, vm₁, B', x1, x2, x3, st0⟩ := X.specialBack hx hi hown (mvT hZ w1) (mvT hZ w2) (mvT hZ w4) hy hK (g := mkF m pc ls st) rfl hml.symm (Steps.refl _) (a := a) (argsL := argsL) (rest := rest) hlen hst (by show 2 * 0 + _ ≤ _; omega) (hb hby hd) (by rw [has]; exact hpre)
    exact ⟨v, vm₁, B', x1, x2, has ▸ x3, st0⟩) P hk hs hc hl K
theorem r_specialF {pc' index W kc ks : Nat} {y : MethodName} {argsL rest : List Value} {as : Array Value} {Qc : Option Value → Heap → Prop} {wl : List Addr} {bytes : ByteArray} {maxL : Nat} {a : Addr} (hd : decode B pc = .ok (.invokespecial index, 3)) (hp : pc + 3 = pc') (hi : y.name = "<init>") (w1 : (Jvm.Cond.methodLink own index y).before a0 Z = true) (w2 : (Jvm.Cond.instanceMethod y).before a0 Z = true) (w4 : (Jvm.Cond.code y bytes maxL none).before a0 Z = true) (hy : y.cls ≠ "java/lang/invoke/MethodHandle" ∧ y.cls ≠ "java/lang/invoke/VarHandle") (hlen : ∀ sig, parseMethodDescriptor y.desc = some sig → argsL.length = sig.parameters.length) (hst : st = argsL.reverse ++ .ref a :: rest) (has : (Value.ref a :: argsL).toArray = as) (hW : (rest.map fun v => v.category).sum ≤ W) (P : Pays l Z n0 R y 3 W as h kc ks Qc) (hk : ∀ v h', Qc v h' → Keep h h' wl) (hs : ∀ x ∈ wl, n0 ≤ x ∧ Sf w Z h My x) (hc : cells + kc ≤ R.cells) (hl : slots + ks ≤ R.slots)
    (K : ∀ v h', Qc v h' → ∃ F : List Addr, (∀ x ∈ F, (x ∈ My ∨ h.size ≤ x) ∧ x < h'.size) ∧ Run w l Z EL n0 own nm B ret R Q Ny (F ++ My) h' (cells + kc) (slots + ks) pc' ls (v.toList ++ rest)) : Run w l Z EL n0 own nm B ret R Q Ny My h cells slots pc ls st :=
  Run.callF (len := 3) (y := y) (as := as) hp (fun p e s m args below meth c T locs hx hby hml hZ hown X eT Pre Post hK hpre => by
    obtain ⟨v, vm₁, B', x1, x2, x3, st0⟩ := X.specialBack hx hi hown (mvT hZ w1) (mvT hZ w2) (mvT hZ w4) hy hK (g := mkF m pc ls st) rfl hml.symm (Steps.refl _) (a := a) (argsL := argsL) (rest := rest) hlen hst (by show 2 * 0 + _ ≤ _; omega) (hb hby hd) (by rw [has]; exact hpre)
    exact ⟨v, vm₁, B', x1, x2, has ▸ x3, st0⟩) P hk hs hc hl K
theorem r_specialW {pc' index W kc ks : Nat} {y : MethodName} {argsL rest : List Value} {as : Array Value} {Qc : Option Value → Heap → Prop} {wl : List Addr} {Nc : Option Value → List Addr} {Mc : List Addr} (hw : w = true) {bytes : ByteArray} {maxL : Nat} {a : Addr} (hd : decode B pc = .ok (.invokespecial index, 3)) (hp : pc + 3 = pc') (hi : y.name = "<init>") (w1 : (Jvm.Cond.methodLink own index y).before a0 Z = true) (w2 : (Jvm.Cond.instanceMethod y).before a0 Z = true) (w4 : (Jvm.Cond.code y bytes maxL none).before a0 Z = true) (hy : y.cls ≠ "java/lang/invoke/MethodHandle" ∧ y.cls ≠ "java/lang/invoke/VarHandle") (hlen : ∀ sig, parseMethodDescriptor y.desc = some sig → argsL.length = sig.parameters.length) (hst : st = argsL.reverse ++ .ref a :: rest) (has : (Value.ref a :: argsL).toArray = as) (hW : (rest.map fun v => v.category).sum ≤ W) (P : PaysW l Z EL n0 Mc R y 3 W as h kc ks Qc Nc) (hm : ∀ x ∈ Mc, x ∈ My) (hk : ∀ v h', Qc v h' → Keep h h' wl) (hs : ∀ x ∈ wl, n0 ≤ x) (hc : cells + kc ≤ R.cells) (hl : slots + ks ≤ R.slots)
    (K : ∀ v h', Qc v h' → Run w l Z EL n0 own nm B ret R Q Ny (Nc v ++ My) h' (cells + kc) (slots + ks) pc' ls (v.toList ++ rest)) : Run w l Z EL n0 own nm B ret R Q Ny My h cells slots pc ls st :=
  Run.callW (len := 3) (y := y) (as := as) hw hp (fun p e s m args below meth c T locs hx hby hml hZ hown X eT Pre Post hK hpre => by
    obtain ⟨v, vm₁, B', x1, x2, x4, x5, x3, st0⟩ := X.specialBackS hx hi hown (mvT hZ w1) (mvT hZ w2) (mvT hZ w4) hy hK (g := mkF m pc ls st) rfl hml.symm (Steps.refl _) (a := a) (argsL := argsL) (rest := rest) hlen hst (by show 2 * 0 + _ ≤ _; omega) (hb hby hd) (by rw [has]; exact hpre)
    exact ⟨v, vm₁, B', x1, x2, x4, x5, has ▸ x3, st0⟩) P hm hk hs hc hl K
theorem r_super {pc' index W kc ks : Nat} {y : MethodName} {argsL rest : List Value} {as : Array Value} {Qc : Option Value → Heap → Prop} {wl : List Addr} {bytes : ByteArray} {maxL : Nat} {rt : Option FieldType} {C : String} {a : Addr} (hd : decode B pc = .ok (.invokespecial index, 3)) (hp : pc + 3 = pc') (hi : y.name ≠ "<init>") (w1 : (Jvm.Cond.methodLink own index y).before a0 Z = true) (w2 : (Jvm.Cond.sameMethod y.cls y.cls y.name y.desc).before a0 Z = true) (w3 : (Jvm.Cond.instanceMethod y).before a0 Z = true) (w5 : (Jvm.Cond.superclass own y.cls).before a0 Z = true) (w4 : (Jvm.Cond.code y bytes maxL rt).before a0 Z = true) (E : Exa Z h a C) (hlen : ∀ sig, parseMethodDescriptor y.desc = some sig → argsL.length = sig.parameters.length) (hst : st = argsL.reverse ++ .ref a :: rest) (has : (Value.ref a :: argsL).toArray = as) (hW : (rest.map fun v => v.category).sum ≤ W) (P : Pays l Z n0 R y 3 W as h kc ks Qc) (hk : ∀ v h', Qc v h' → Keep h h' wl) (hs : ∀ x ∈ wl, n0 ≤ x ∧ Sf w Z h My x) (hc : cells + kc ≤ R.cells) (hl : slots + ks ≤ R.slots)
    (K : ∀ v h', Qc v h' → Run w l Z EL n0 own nm B ret R Q Ny My h' (cells + kc) (slots + ks) pc' ls (v.toList ++ rest)) : Run w l Z EL n0 own nm B ret R Q Ny My h cells slots pc ls st :=
  Run.call (len := 3) (y := y) (as := as) hp (fun p e s m args below meth c T locs hx hby hml hZ hown X eT Pre Post hK hpre => by
    obtain ⟨v, vm₁, B', x1, x2, x3, st0⟩ := superBack X hx hZ hown w1 w2 w3 w5 hi hK eT (Ins.self E) (g := mkF m pc ls st) rfl hml.symm w4 (argsL := argsL) (rest := rest) hlen hst (by show 2 * 0 + _ ≤ _; omega) (hb hby hd) (by rw [has]; exact hpre)
    exact ⟨v, vm₁, B', x1, x2, has ▸ x3, st0⟩) P hk hs hc hl K
theorem r_superF {pc' index W kc ks : Nat} {y : MethodName} {argsL rest : List Value} {as : Array Value} {Qc : Option Value → Heap → Prop} {wl : List Addr} {bytes : ByteArray} {maxL : Nat} {rt : Option FieldType} {C : String} {a : Addr} (hd : decode B pc = .ok (.invokespecial index, 3)) (hp : pc + 3 = pc') (hi : y.name ≠ "<init>") (w1 : (Jvm.Cond.methodLink own index y).before a0 Z = true) (w2 : (Jvm.Cond.sameMethod y.cls y.cls y.name y.desc).before a0 Z = true) (w3 : (Jvm.Cond.instanceMethod y).before a0 Z = true) (w5 : (Jvm.Cond.superclass own y.cls).before a0 Z = true) (w4 : (Jvm.Cond.code y bytes maxL rt).before a0 Z = true) (E : Exa Z h a C) (hlen : ∀ sig, parseMethodDescriptor y.desc = some sig → argsL.length = sig.parameters.length) (hst : st = argsL.reverse ++ .ref a :: rest) (has : (Value.ref a :: argsL).toArray = as) (hW : (rest.map fun v => v.category).sum ≤ W) (P : Pays l Z n0 R y 3 W as h kc ks Qc) (hk : ∀ v h', Qc v h' → Keep h h' wl) (hs : ∀ x ∈ wl, n0 ≤ x ∧ Sf w Z h My x) (hc : cells + kc ≤ R.cells) (hl : slots + ks ≤ R.slots)
    (K : ∀ v h', Qc v h' → ∃ F : List Addr, (∀ x ∈ F, (x ∈ My ∨ h.size ≤ x) ∧ x < h'.size) ∧ Run w l Z EL n0 own nm B ret R Q Ny (F ++ My) h' (cells + kc) (slots + ks) pc' ls (v.toList ++ rest)) : Run w l Z EL n0 own nm B ret R Q Ny My h cells slots pc ls st :=
  Run.callF (len := 3) (y := y) (as := as) hp (fun p e s m args below meth c T locs hx hby hml hZ hown X eT Pre Post hK hpre => by
    obtain ⟨v, vm₁, B', x1, x2, x3, st0⟩ := superBack X hx hZ hown w1 w2 w3 w5 hi hK eT (Ins.self E) (g := mkF m pc ls st) rfl hml.symm w4 (argsL := argsL) (rest := rest) hlen hst (by show 2 * 0 + _ ≤ _; omega) (hb hby hd) (by rw [has]; exact hpre)
    exact ⟨v, vm₁, B', x1, x2, has ▸ x3, st0⟩) P hk hs hc hl K
theorem r_superW {pc' index W kc ks : Nat} {y : MethodName} {argsL rest : List Value} {as : Array Value} {Qc : Option Value → Heap → Prop} {wl : List Addr} {Nc : Option Value → List Addr} {Mc : List Addr} (hw : w = true) {bytes : ByteArray} {maxL : Nat} {rt : Option FieldType} {C : String} {a : Addr} (hd : decode B pc = .ok (.invokespecial index, 3)) (hp : pc + 3 = pc') (hi : y.name ≠ "<init>") (w1 : (Jvm.Cond.methodLink own index y).before a0 Z = true) (w2 : (Jvm.Cond.sameMethod y.cls y.cls y.name y.desc).before a0 Z = true) (w3 : (Jvm.Cond.instanceMethod y).before a0 Z = true) (w5 : (Jvm.Cond.superclass own y.cls).before a0 Z = true) (w4 : (Jvm.Cond.code y bytes maxL rt).before a0 Z = true) (E : Exa Z h a C) (hlen : ∀ sig, parseMethodDescriptor y.desc = some sig → argsL.length = sig.parameters.length) (hst : st = argsL.reverse ++ .ref a :: rest) (has : (Value.ref a :: argsL).toArray = as) (hW : (rest.map fun v => v.category).sum ≤ W) (P : PaysW l Z EL n0 Mc R y 3 W as h kc ks Qc Nc) (hm : ∀ x ∈ Mc, x ∈ My) (hk : ∀ v h', Qc v h' → Keep h h' wl) (hs : ∀ x ∈ wl, n0 ≤ x) (hc : cells + kc ≤ R.cells) (hl : slots + ks ≤ R.slots)
    (K : ∀ v h', Qc v h' → Run w l Z EL n0 own nm B ret R Q Ny (Nc v ++ My) h' (cells + kc) (slots + ks) pc' ls (v.toList ++ rest)) : Run w l Z EL n0 own nm B ret R Q Ny My h cells slots pc ls st :=
  Run.callW (len := 3) (y := y) (as := as) hw hp (fun p e s m args below meth c T locs hx hby hml hZ hown X eT Pre Post hK hpre => by
    obtain ⟨v, vm₁, B', x1, x2, x4, x5, x3, st0⟩ := superBackS X hx hZ hown w1 w2 w3 w5 hi hK eT (Ins.self E) (g := mkF m pc ls st) rfl hml.symm w4 (argsL := argsL) (rest := rest) hlen hst (by show 2 * 0 + _ ≤ _; omega) (hb hby hd) (by rw [has]; exact hpre)
    exact ⟨v, vm₁, B', x1, x2, x4, x5, has ▸ x3, st0⟩) P hm hk hs hc hl K
theorem r_virtual {pc' index W kc ks : Nat} {y : MethodName} {argsL rest : List Value} {as : Array Value} {Qc : Option Value → Heap → Prop} {wl : List Addr} {x0 : MethodName} {C : String} {a : Addr} (hd : decode B pc = .ok (.invokevirtual index, 3)) (hp : pc + 3 = pc') (w1 : (Jvm.Cond.methodLink own index x0).before a0 Z = true) (w2 : (Jvm.Cond.declares x0).before a0 Z = true) (w3 : (Jvm.Cond.selects C x0 y).before a0 Z = true) (w4 : (Jvm.Cond.instanceMethod y).before a0 Z = true) (hy : x0.cls ≠ "java/lang/invoke/MethodHandle" ∧ x0.cls ≠ "java/lang/invoke/VarHandle") (hn : x0 = y ∧ C = x0.cls) (E : Exa Z h a C) (hlen : ∀ sig, parseMethodDescriptor x0.desc = some sig → argsL.length = sig.parameters.length) (hst : st = argsL.reverse ++ .ref a :: rest) (has : (Value.ref a :: argsL).toArray = as) (hW : (rest.map fun v => v.category).sum ≤ W) (P : Pays l Z n0 R y 3 W as h kc ks Qc) (hk : ∀ v h', Qc v h' → Keep h h' wl) (hs : ∀ x ∈ wl, n0 ≤ x ∧ Sf w Z h My x) (hc : cells + kc ≤ R.cells) (hl : slots + ks ≤ R.slots)
    (K : ∀ v h', Qc v h' → Run w l Z EL n0 own nm B ret R Q Ny My h' (cells + kc) (slots + ks) pc' ls (v.toList ++ rest)) : Run w l Z EL n0 own nm B ret R Q Ny My h cells slots pc ls st :=
  Run.call (len := 3) (y := y) (as := as) hp (fun p e s m args below meth c T locs hx hby hml hZ hown X eT Pre Post hK hpre => by
    obtain ⟨cq34, kq34, q34a, q34b, q34c⟩ := isOf hZ eT E
    obtain ⟨v, vm₁, B', x1, x2, x3, st0⟩ := X.virtualBack hx (y := x0) (z := y) hown (mvT hZ w1) (mvT hZ w2) (notFace_of_selects (args := #[]) (by obtain ⟨q1, q2⟩ := hn; subst q1 q2; exact mvT hZ w3)) (mvT hZ w3) (mvT hZ w4) hy hK q34a q34c (g := mkF m pc ls st) rfl hml.symm (Steps.refl _) (argsL := argsL) (rest := rest) hlen hst (by show 2 * 0 + _ ≤ _; omega) (hb hby hd) (by rw [has]; exact hpre)
    exact ⟨v, vm₁, B', x1, x2, has ▸ x3, st0⟩) P hk hs hc hl K
theorem r_virtualF {pc' index W kc ks : Nat} {y : MethodName} {argsL rest : List Value} {as : Array Value} {Qc : Option Value → Heap → Prop} {wl : List Addr} {x0 : MethodName} {C : String} {a : Addr} (hd : decode B pc = .ok (.invokevirtual index, 3)) (hp : pc + 3 = pc') (w1 : (Jvm.Cond.methodLink own index x0).before a0 Z = true) (w2 : (Jvm.Cond.declares x0).before a0 Z = true) (w3 : (Jvm.Cond.selects C x0 y).before a0 Z = true) (w4 : (Jvm.Cond.instanceMethod y).before a0 Z = true) (hy : x0.cls ≠ "java/lang/invoke/MethodHandle" ∧ x0.cls ≠ "java/lang/invoke/VarHandle") (hn : x0 = y ∧ C = x0.cls) (E : Exa Z h a C) (hlen : ∀ sig, parseMethodDescriptor x0.desc = some sig → argsL.length = sig.parameters.length) (hst : st = argsL.reverse ++ .ref a :: rest) (has : (Value.ref a :: argsL).toArray = as) (hW : (rest.map fun v => v.category).sum ≤ W) (P : Pays l Z n0 R y 3 W as h kc ks Qc) (hk : ∀ v h', Qc v h' → Keep h h' wl) (hs : ∀ x ∈ wl, n0 ≤ x ∧ Sf w Z h My x) (hc : cells + kc ≤ R.cells) (hl : slots + ks ≤ R.slots)
    (K : ∀ v h', Qc v h' → ∃ F : List Addr, (∀ x ∈ F, (x ∈ My ∨ h.size ≤ x) ∧ x < h'.size) ∧ Run w l Z EL n0 own nm B ret R Q Ny (F ++ My) h' (cells + kc) (slots + ks) pc' ls (v.toList ++ rest)) : Run w l Z EL n0 own nm B ret R Q Ny My h cells slots pc ls st :=
  Run.callF (len := 3) (y := y) (as := as) hp (fun p e s m args below meth c T locs hx hby hml hZ hown X eT Pre Post hK hpre => by
    obtain ⟨cq34, kq34, q34a, q34b, q34c⟩ := isOf hZ eT E
    obtain ⟨v, vm₁, B', x1, x2, x3, st0⟩ := X.virtualBack hx (y := x0) (z := y) hown (mvT hZ w1) (mvT hZ w2) (notFace_of_selects (args := #[]) (by obtain ⟨q1, q2⟩ := hn; subst q1 q2; exact mvT hZ w3)) (mvT hZ w3) (mvT hZ w4) hy hK q34a q34c (g := mkF m pc ls st) rfl hml.symm (Steps.refl _) (argsL := argsL) (rest := rest) hlen hst (by show 2 * 0 + _ ≤ _; omega) (hb hby hd) (by rw [has]; exact hpre)
    exact ⟨v, vm₁, B', x1, x2, has ▸ x3, st0⟩) P hk hs hc hl K
theorem r_virtualW {pc' index W kc ks : Nat} {y : MethodName} {argsL rest : List Value} {as : Array Value} {Qc : Option Value → Heap → Prop} {wl : List Addr} {Nc : Option Value → List Addr} {Mc : List Addr} (hw : w = true) {x0 : MethodName} {C : String} {a : Addr} (hd : decode B pc = .ok (.invokevirtual index, 3)) (hp : pc + 3 = pc') (w1 : (Jvm.Cond.methodLink own index x0).before a0 Z = true) (w2 : (Jvm.Cond.declares x0).before a0 Z = true) (w3 : (Jvm.Cond.selects C x0 y).before a0 Z = true) (w4 : (Jvm.Cond.instanceMethod y).before a0 Z = true) (hy : x0.cls ≠ "java/lang/invoke/MethodHandle" ∧ x0.cls ≠ "java/lang/invoke/VarHandle") (hn : x0 = y ∧ C = x0.cls) (E : Exa Z h a C) (hlen : ∀ sig, parseMethodDescriptor x0.desc = some sig → argsL.length = sig.parameters.length) (hst : st = argsL.reverse ++ .ref a :: rest) (has : (Value.ref a :: argsL).toArray = as) (hW : (rest.map fun v => v.category).sum ≤ W) (P : PaysW l Z EL n0 Mc R y 3 W as h kc ks Qc Nc) (hm : ∀ x ∈ Mc, x ∈ My) (hk : ∀ v h', Qc v h' → Keep h h' wl) (hs : ∀ x ∈ wl, n0 ≤ x) (hc : cells + kc ≤ R.cells) (hl : slots + ks ≤ R.slots)
    (K : ∀ v h', Qc v h' → Run w l Z EL n0 own nm B ret R Q Ny (Nc v ++ My) h' (cells + kc) (slots + ks) pc' ls (v.toList ++ rest)) : Run w l Z EL n0 own nm B ret R Q Ny My h cells slots pc ls st :=
  Run.callW (len := 3) (y := y) (as := as) hw hp (fun p e s m args below meth c T locs hx hby hml hZ hown X eT Pre Post hK hpre => by
    obtain ⟨cq34, kq34, q34a, q34b, q34c⟩ := isOf hZ eT E
    obtain ⟨v, vm₁, B', x1, x2, x4, x5, x3, st0⟩ := X.virtualBackS hx (y := x0) (z := y) hown (mvT hZ w1) (mvT hZ w2) (notFace_of_selects (args := #[]) (by obtain ⟨q1, q2⟩ := hn; subst q1 q2; exact mvT hZ w3)) (mvT hZ w3) (mvT hZ w4) hy hK q34a q34c (g := mkF m pc ls st) rfl hml.symm (Steps.refl _) (argsL := argsL) (rest := rest) hlen hst (by show 2 * 0 + _ ≤ _; omega) (hb hby hd) (by rw [has]; exact hpre)
    exact ⟨v, vm₁, B', x1, x2, x4, x5, has ▸ x3, st0⟩) P hm hk hs hc hl K
theorem r_virtualU {pc' index W kc ks : Nat} {y : MethodName} {argsL rest : List Value} {as : Array Value} {Qc : Option Value → Heap → Prop} {wl : List Addr} {x0 : MethodName} {C : String} {a : Addr} {S0 : String} (hd : decode B pc = .ok (.invokevirtual index, 3)) (hp : pc + 3 = pc') (w1 : (Jvm.Cond.methodLink own index x0).before a0 Z = true) (w2 : (Jvm.Cond.declares x0).before a0 Z = true) (w3 : (Jvm.Cond.selects C x0 y).before a0 Z = true) (w4 : (Jvm.Cond.instanceMethod y).before a0 Z = true) (hy : x0.cls ≠ "java/lang/invoke/MethodHandle" ∧ x0.cls ≠ "java/lang/invoke/VarHandle") (hn : (Jvm.Cond.superclass x0.cls S0).before a0 Z = true) (E : Exa Z h a C) (hlen : ∀ sig, parseMethodDescriptor x0.desc = some sig → argsL.length = sig.parameters.length) (hst : st = argsL.reverse ++ .ref a :: rest) (has : (Value.ref a :: argsL).toArray = as) (hW : (rest.map fun v => v.category).sum ≤ W) (P : Pays l Z n0 R y 3 W as h kc ks Qc) (hk : ∀ v h', Qc v h' → Keep h h' wl) (hs : ∀ x ∈ wl, n0 ≤ x ∧ Sf w Z h My x) (hc : cells + kc ≤ R.cells) (hl : slots + ks ≤ R.slots)
    (K : ∀ v h', Qc v h' → Run w l Z EL n0 own nm B ret R Q Ny My h' (cells + kc) (slots + ks) pc' ls (v.toList ++ rest)) : Run w l Z EL n0 own nm B ret R Q Ny My h cells slots pc ls st :=
  Run.call (len := 3) (y := y) (as := as) hp (fun p e s m args below meth c T locs hx hby hml hZ hown X eT Pre Post hK hpre => by
    obtain ⟨cq34, kq34, q34a, q34b, q34c⟩ := isOf hZ eT E
    obtain ⟨v, vm₁, B', x1, x2, x3, st0⟩ := X.virtualBack hx (y := x0) (z := y) hown (mvT hZ w1) (mvT hZ w2) (nf_super (args := #[]) (mvT hZ hn)) (mvT hZ w3) (mvT hZ w4) hy hK q34a q34c (g := mkF m pc ls st) rfl hml.symm (Steps.refl _) (argsL := argsL) (rest := rest) hlen hst (by show 2 * 0 + _ ≤ _; omega) (hb hby hd) (by rw [has]; exact hpre)
    exact ⟨v, vm₁, B', x1, x2, has ▸ x3, st0⟩) P hk hs hc hl K
theorem r_virtualUF {pc' index W kc ks : Nat} {y : MethodName} {argsL rest : List Value} {as : Array Value} {Qc : Option Value → Heap → Prop} {wl : List Addr} {x0 : MethodName} {C : String} {a : Addr} {S0 : String} (hd : decode B pc = .ok (.invokevirtual index, 3)) (hp : pc + 3 = pc') (w1 : (Jvm.Cond.methodLink own index x0).before a0 Z = true) (w2 : (Jvm.Cond.declares x0).before a0 Z = true) (w3 : (Jvm.Cond.selects C x0 y).before a0 Z = true) (w4 : (Jvm.Cond.instanceMethod y).before a0 Z = true) (hy : x0.cls ≠ "java/lang/invoke/MethodHandle" ∧ x0.cls ≠ "java/lang/invoke/VarHandle") (hn : (Jvm.Cond.superclass x0.cls S0).before a0 Z = true) (E : Exa Z h a C) (hlen : ∀ sig, parseMethodDescriptor x0.desc = some sig → argsL.length = sig.parameters.length) (hst : st = argsL.reverse ++ .ref a :: rest) (has : (Value.ref a :: argsL).toArray = as) (hW : (rest.map fun v => v.category).sum ≤ W) (P : Pays l Z n0 R y 3 W as h kc ks Qc) (hk : ∀ v h', Qc v h' → Keep h h' wl) (hs : ∀ x ∈ wl, n0 ≤ x ∧ Sf w Z h My x) (hc : cells + kc ≤ R.cells) (hl : slots + ks ≤ R.slots)
    (K : ∀ v h', Qc v h' → ∃ F : List Addr, (∀ x ∈ F, (x ∈ My ∨ h.size ≤ x) ∧ x < h'.size) ∧ Run w l Z EL n0 own nm B ret R Q Ny (F ++ My) h' (cells + kc) (slots + ks) pc' ls (v.toList ++ rest)) : Run w l Z EL n0 own nm B ret R Q Ny My h cells slots pc ls st :=
  Run.callF (len := 3) (y := y) (as := as) hp (fun p e s m args below meth c T locs hx hby hml hZ hown X eT Pre Post hK hpre => by
    obtain ⟨cq34, kq34, q34a, q34b, q34c⟩ := isOf hZ eT E
    obtain ⟨v, vm₁, B', x1, x2, x3, st0⟩ := X.virtualBack hx (y := x0) (z := y) hown (mvT hZ w1) (mvT hZ w2) (nf_super (args := #[]) (mvT hZ hn)) (mvT hZ w3) (mvT hZ w4) hy hK q34a q34c (g := mkF m pc ls st) rfl hml.symm (Steps.refl _) (argsL := argsL) (rest := rest) hlen hst (by show 2 * 0 + _ ≤ _; omega) (hb hby hd) (by rw [has]; exact hpre)
    exact ⟨v, vm₁, B', x1, x2, has ▸ x3, st0⟩) P hk hs hc hl K
theorem r_virtualUW {pc' index W kc ks : Nat} {y : MethodName} {argsL rest : List Value} {as : Array Value} {Qc : Option Value → Heap → Prop} {wl : List Addr} {Nc : Option Value → List Addr} {Mc : List Addr} (hw : w = true) {x0 : MethodName} {C : String} {a : Addr} {S0 : String} (hd : decode B pc = .ok (.invokevirtual index, 3)) (hp : pc + 3 = pc') (w1 : (Jvm.Cond.methodLink own index x0).before a0 Z = true) (w2 : (Jvm.Cond.declares x0).before a0 Z = true) (w3 : (Jvm.Cond.selects C x0 y).before a0 Z = true) (w4 : (Jvm.Cond.instanceMethod y).before a0 Z = true) (hy : x0.cls ≠ "java/lang/invoke/MethodHandle" ∧ x0.cls ≠ "java/lang/invoke/VarHandle") (hn : (Jvm.Cond.superclass x0.cls S0).before a0 Z = true) (E : Exa Z h a C) (hlen : ∀ sig, parseMethodDescriptor x0.desc = some sig → argsL.length = sig.parameters.length) (hst : st = argsL.reverse ++ .ref a :: rest) (has : (Value.ref a :: argsL).toArray = as) (hW : (rest.map fun v => v.category).sum ≤ W) (P : PaysW l Z EL n0 Mc R y 3 W as h kc ks Qc Nc) (hm : ∀ x ∈ Mc, x ∈ My) (hk : ∀ v h', Qc v h' → Keep h h' wl) (hs : ∀ x ∈ wl, n0 ≤ x) (hc : cells + kc ≤ R.cells) (hl : slots + ks ≤ R.slots)
    (K : ∀ v h', Qc v h' → Run w l Z EL n0 own nm B ret R Q Ny (Nc v ++ My) h' (cells + kc) (slots + ks) pc' ls (v.toList ++ rest)) : Run w l Z EL n0 own nm B ret R Q Ny My h cells slots pc ls st :=
  Run.callW (len := 3) (y := y) (as := as) hw hp (fun p e s m args below meth c T locs hx hby hml hZ hown X eT Pre Post hK hpre => by
    obtain ⟨cq34, kq34, q34a, q34b, q34c⟩ := isOf hZ eT E
    obtain ⟨v, vm₁, B', x1, x2, x4, x5, x3, st0⟩ := X.virtualBackS hx (y := x0) (z := y) hown (mvT hZ w1) (mvT hZ w2) (nf_super (args := #[]) (mvT hZ hn)) (mvT hZ w3) (mvT hZ w4) hy hK q34a q34c (g := mkF m pc ls st) rfl hml.symm (Steps.refl _) (argsL := argsL) (rest := rest) hlen hst (by show 2 * 0 + _ ≤ _; omega) (hb hby hd) (by rw [has]; exact hpre)
    exact ⟨v, vm₁, B', x1, x2, x4, x5, has ▸ x3, st0⟩) P hm hk hs hc hl K
theorem r_virtualN {pc' index W kc ks : Nat} {y : MethodName} {argsL rest : List Value} {as : Array Value} {Qc : Option Value → Heap → Prop} {wl : List Addr} {x0 : MethodName} {C : String} {a : Addr} {C1 : String} {x1 y1 : MethodName} (hd : decode B pc = .ok (.invokevirtual index, 3)) (hp : pc + 3 = pc') (w1 : (Jvm.Cond.methodLink own index x0).before a0 Z = true) (w2 : (Jvm.Cond.declares x0).before a0 Z = true) (w3 : (Jvm.Cond.selects C x0 y).before a0 Z = true) (w4 : (Jvm.Cond.instanceMethod y).before a0 Z = true) (hy : x0.cls ≠ "java/lang/invoke/MethodHandle" ∧ x0.cls ≠ "java/lang/invoke/VarHandle") (hn : (Jvm.Cond.selects C1 x1 y1).before a0 Z = true ∧ y1.cls = x0.cls) (E : Exa Z h a C) (hlen : ∀ sig, parseMethodDescriptor x0.desc = some sig → argsL.length = sig.parameters.length) (hst : st = argsL.reverse ++ .ref a :: rest) (has : (Value.ref a :: argsL).toArray = as) (hW : (rest.map fun v => v.category).sum ≤ W) (P : Pays l Z n0 R y 3 W as h kc ks Qc) (hk : ∀ v h', Qc v h' → Keep h h' wl) (hs : ∀ x ∈ wl, n0 ≤ x ∧ Sf w Z h My x) (hc : cells + kc ≤ R.cells) (hl : slots + ks ≤ R.slots)
    (K : ∀ v h', Qc v h' → Run w l Z EL n0 own nm B ret R Q Ny My h' (cells + kc) (slots + ks) pc' ls (v.toList ++ rest)) : Run w l Z EL n0 own nm B ret R Q Ny My h cells slots pc ls st :=
  Run.call (len := 3) (y := y) (as := as) hp (fun p e s m args below meth c T locs hx hby hml hZ hown X eT Pre Post hK hpre => by
    obtain ⟨cq34, kq34, q34a, q34b, q34c⟩ := isOf hZ eT E
    obtain ⟨v, vm₁, B', x1, x2, x3, st0⟩ := X.virtualBack hx (y := x0) (z := y) hown (mvT hZ w1) (mvT hZ w2) (nf_sel (args := #[]) (mvT hZ hn.1) hn.2) (mvT hZ w3) (mvT hZ w4) hy hK q34a q34c (g := mkF m pc ls st) rfl hml.symm (Steps.refl _) (argsL := argsL) (rest := rest) hlen hst (by show 2 * 0 + _ ≤ _; omega) (hb hby hd) (by rw [has]; exact hpre)
    exact ⟨v, vm₁, B', x1, x2, has ▸ x3, st0⟩) P hk hs hc hl K
theorem r_virtualNF {pc' index W kc ks : Nat} {y : MethodName} {argsL rest : List Value} {as : Array Value} {Qc : Option Value → Heap → Prop} {wl : List Addr} {x0 : MethodName} {C : String} {a : Addr} {C1 : String} {x1 y1 : MethodName} (hd : decode B pc = .ok (.invokevirtual index, 3)) (hp : pc + 3 = pc') (w1 : (Jvm.Cond.methodLink own index x0).before a0 Z = true) (w2 : (Jvm.Cond.declares x0).before a0 Z = true) (w3 : (Jvm.Cond.selects C x0 y).before a0 Z = true) (w4 : (Jvm.Cond.instanceMethod y).before a0 Z = true) (hy : x0.cls ≠ "java/lang/invoke/MethodHandle" ∧ x0.cls ≠ "java/lang/invoke/VarHandle") (hn : (Jvm.Cond.selects C1 x1 y1).before a0 Z = true ∧ y1.cls = x0.cls) (E : Exa Z h a C) (hlen : ∀ sig, parseMethodDescriptor x0.desc = some sig → argsL.length = sig.parameters.length) (hst : st = argsL.reverse ++ .ref a :: rest) (has : (Value.ref a :: argsL).toArray = as) (hW : (rest.map fun v => v.category).sum ≤ W) (P : Pays l Z n0 R y 3 W as h kc ks Qc) (hk : ∀ v h', Qc v h' → Keep h h' wl) (hs : ∀ x ∈ wl, n0 ≤ x ∧ Sf w Z h My x) (hc : cells + kc ≤ R.cells) (hl : slots + ks ≤ R.slots)
    (K : ∀ v h', Qc v h' → ∃ F : List Addr, (∀ x ∈ F, (x ∈ My ∨ h.size ≤ x) ∧ x < h'.size) ∧ Run w l Z EL n0 own nm B ret R Q Ny (F ++ My) h' (cells + kc) (slots + ks) pc' ls (v.toList ++ rest)) : Run w l Z EL n0 own nm B ret R Q Ny My h cells slots pc ls st :=
  Run.callF (len := 3) (y := y) (as := as) hp (fun p e s m args below meth c T locs hx hby hml hZ hown X eT Pre Post hK hpre => by
    obtain ⟨cq34, kq34, q34a, q34b, q34c⟩ := isOf hZ eT E
    obtain ⟨v, vm₁, B', x1, x2, x3, st0⟩ := X.virtualBack hx (y := x0) (z := y) hown (mvT hZ w1) (mvT hZ w2) (nf_sel (args := #[]) (mvT hZ hn.1) hn.2) (mvT hZ w3) (mvT hZ w4) hy hK q34a q34c (g := mkF m pc ls st) rfl hml.symm (Steps.refl _) (argsL := argsL) (rest := rest) hlen hst (by show 2 * 0 + _ ≤ _; omega) (hb hby hd) (by rw [has]; exact hpre)
    exact ⟨v, vm₁, B', x1, x2, has ▸ x3, st0⟩) P hk hs hc hl K
theorem r_virtualNW {pc' index W kc ks : Nat} {y : MethodName} {argsL rest : List Value} {as : Array Value} {Qc : Option Value → Heap → Prop} {wl : List Addr} {Nc : Option Value → List Addr} {Mc : List Addr} (hw : w = true) {x0 : MethodName} {C : String} {a : Addr} {C1 : String} {x1 y1 : MethodName} (hd : decode B pc = .ok (.invokevirtual index, 3)) (hp : pc + 3 = pc') (w1 : (Jvm.Cond.methodLink own index x0).before a0 Z = true) (w2 : (Jvm.Cond.declares x0).before a0 Z = true) (w3 : (Jvm.Cond.selects C x0 y).before a0 Z = true) (w4 : (Jvm.Cond.instanceMethod y).before a0 Z = true) (hy : x0.cls ≠ "java/lang/invoke/MethodHandle" ∧ x0.cls ≠ "java/lang/invoke/VarHandle") (hn : (Jvm.Cond.selects C1 x1 y1).before a0 Z = true ∧ y1.cls = x0.cls) (E : Exa Z h a C) (hlen : ∀ sig, parseMethodDescriptor x0.desc = some sig → argsL.length = sig.parameters.length) (hst : st = argsL.reverse ++ .ref a :: rest) (has : (Value.ref a :: argsL).toArray = as) (hW : (rest.map fun v => v.category).sum ≤ W) (P : PaysW l Z EL n0 Mc R y 3 W as h kc ks Qc Nc) (hm : ∀ x ∈ Mc, x ∈ My) (hk : ∀ v h', Qc v h' → Keep h h' wl) (hs : ∀ x ∈ wl, n0 ≤ x) (hc : cells + kc ≤ R.cells) (hl : slots + ks ≤ R.slots)
    (K : ∀ v h', Qc v h' → Run w l Z EL n0 own nm B ret R Q Ny (Nc v ++ My) h' (cells + kc) (slots + ks) pc' ls (v.toList ++ rest)) : Run w l Z EL n0 own nm B ret R Q Ny My h cells slots pc ls st :=
  Run.callW (len := 3) (y := y) (as := as) hw hp (fun p e s m args below meth c T locs hx hby hml hZ hown X eT Pre Post hK hpre => by
    obtain ⟨cq34, kq34, q34a, q34b, q34c⟩ := isOf hZ eT E
    obtain ⟨v, vm₁, B', x1, x2, x4, x5, x3, st0⟩ := X.virtualBackS hx (y := x0) (z := y) hown (mvT hZ w1) (mvT hZ w2) (nf_sel (args := #[]) (mvT hZ hn.1) hn.2) (mvT hZ w3) (mvT hZ w4) hy hK q34a q34c (g := mkF m pc ls st) rfl hml.symm (Steps.refl _) (argsL := argsL) (rest := rest) hlen hst (by show 2 * 0 + _ ≤ _; omega) (hb hby hd) (by rw [has]; exact hpre)
    exact ⟨v, vm₁, B', x1, x2, x4, x5, has ▸ x3, st0⟩) P hm hk hs hc hl K
theorem r_virtualUp {pc' index W kc ks : Nat} {y : MethodName} {argsL rest : List Value} {as : Array Value} {Qc : Option Value → Heap → Prop} {wl : List Addr} {x0 : MethodName} {C owner : String} {a : Addr} (hd : decode B pc = .ok (.invokevirtual index, 3)) (hp : pc + 3 = pc') (w1 : (Jvm.Cond.methodLink own index x0).before a0 Z = true) (w5 : (Jvm.Cond.sameMethod x0.cls owner x0.name x0.desc).before a0 Z = true) (w2 : (Jvm.Cond.declares ⟨owner, x0.name, x0.desc⟩).before a0 Z = true) (hy : owner ≠ "java/lang/invoke/MethodHandle" ∧ owner ≠ "java/lang/invoke/VarHandle") (w3 : (Jvm.Cond.selects C x0 y).before a0 Z = true) (w4 : (Jvm.Cond.instanceMethod y).before a0 Z = true) (E : Exa Z h a C) (hlen : ∀ sig, parseMethodDescriptor x0.desc = some sig → argsL.length = sig.parameters.length) (hst : st = argsL.reverse ++ .ref a :: rest) (has : (Value.ref a :: argsL).toArray = as) (hW : (rest.map fun v => v.category).sum ≤ W) (P : Pays l Z n0 R y 3 W as h kc ks Qc) (hk : ∀ v h', Qc v h' → Keep h h' wl) (hs : ∀ x ∈ wl, n0 ≤ x ∧ Sf w Z h My x) (hc : cells + kc ≤ R.cells) (hl : slots + ks ≤ R.slots)
    (K : ∀ v h', Qc v h' → Run w l Z EL n0 own nm B ret R Q Ny My h' (cells + kc) (slots + ks) pc' ls (v.toList ++ rest)) : Run w l Z EL n0 own nm B ret R Q Ny My h cells slots pc ls st :=
  Run.call (len := 3) (y := y) (as := as) hp (fun p e s m args below meth c T locs hx hby hml hZ hown X eT Pre Post hK hpre => by
    obtain ⟨cq34, kq34, q34a, q34b, q34c⟩ := isOf hZ eT E
    obtain ⟨v, vm₁, B', x1, x2, x3, st0⟩ := X.virtualBackUp hx (x := x0) (y := y) hown (mvT hZ w1) (mvT hZ w5) (mvT hZ w2) hy (mvT hZ w3) (mvT hZ w4) hK q34a q34c (g := mkF m pc ls st) rfl hml.symm (Steps.refl _) (argsL := argsL) (rest := rest) hlen hst (by show 2 * 0 + _ ≤ _; omega) (hb hby hd) (by rw [has]; exact hpre)
    exact ⟨v, vm₁, B', x1, x2, has ▸ x3, st0⟩) P hk hs hc hl K
theorem r_virtualUpF {pc' index W kc ks : Nat} {y : MethodName} {argsL rest : List Value} {as : Array Value} {Qc : Option Value → Heap → Prop} {wl : List Addr} {x0 : MethodName} {C owner : String} {a : Addr} (hd : decode B pc = .ok (.invokevirtual index, 3)) (hp : pc + 3 = pc') (w1 : (Jvm.Cond.methodLink own index x0).before a0 Z = true) (w5 : (Jvm.Cond.sameMethod x0.cls owner x0.name x0.desc).before a0 Z = true) (w2 : (Jvm.Cond.declares ⟨owner, x0.name, x0.desc⟩).before a0 Z = true) (hy : owner ≠ "java/lang/invoke/MethodHandle" ∧ owner ≠ "java/lang/invoke/VarHandle") (w3 : (Jvm.Cond.selects C x0 y).before a0 Z = true) (w4 : (Jvm.Cond.instanceMethod y).before a0 Z = true) (E : Exa Z h a C) (hlen : ∀ sig, parseMethodDescriptor x0.desc = some sig → argsL.length = sig.parameters.length) (hst : st = argsL.reverse ++ .ref a :: rest) (has : (Value.ref a :: argsL).toArray = as) (hW : (rest.map fun v => v.category).sum ≤ W) (P : Pays l Z n0 R y 3 W as h kc ks Qc) (hk : ∀ v h', Qc v h' → Keep h h' wl) (hs : ∀ x ∈ wl, n0 ≤ x ∧ Sf w Z h My x) (hc : cells + kc ≤ R.cells) (hl : slots + ks ≤ R.slots)
    (K : ∀ v h', Qc v h' → ∃ F : List Addr, (∀ x ∈ F, (x ∈ My ∨ h.size ≤ x) ∧ x < h'.size) ∧ Run w l Z EL n0 own nm B ret R Q Ny (F ++ My) h' (cells + kc) (slots + ks) pc' ls (v.toList ++ rest)) : Run w l Z EL n0 own nm B ret R Q Ny My h cells slots pc ls st :=
  Run.callF (len := 3) (y := y) (as := as) hp (fun p e s m args below meth c T locs hx hby hml hZ hown X eT Pre Post hK hpre => by
    obtain ⟨cq34, kq34, q34a, q34b, q34c⟩ := isOf hZ eT E
    obtain ⟨v, vm₁, B', x1, x2, x3, st0⟩ := X.virtualBackUp hx (x := x0) (y := y) hown (mvT hZ w1) (mvT hZ w5) (mvT hZ w2) hy (mvT hZ w3) (mvT hZ w4) hK q34a q34c (g := mkF m pc ls st) rfl hml.symm (Steps.refl _) (argsL := argsL) (rest := rest) hlen hst (by show 2 * 0 + _ ≤ _; omega) (hb hby hd) (by rw [has]; exact hpre)
    exact ⟨v, vm₁, B', x1, x2, has ▸ x3, st0⟩) P hk hs hc hl K
theorem r_virtualUpW {pc' index W kc ks : Nat} {y : MethodName} {argsL rest : List Value} {as : Array Value} {Qc : Option Value → Heap → Prop} {wl : List Addr} {Nc : Option Value → List Addr} {Mc : List Addr} (hw : w = true) {x0 : MethodName} {C owner : String} {a : Addr} (hd : decode B pc = .ok (.invokevirtual index, 3)) (hp : pc + 3 = pc') (w1 : (Jvm.Cond.methodLink own index x0).before a0 Z = true) (w5 : (Jvm.Cond.sameMethod x0.cls owner x0.name x0.desc).before a0 Z = true) (w2 : (Jvm.Cond.declares ⟨owner, x0.name, x0.desc⟩).before a0 Z = true) (hy : owner ≠ "java/lang/invoke/MethodHandle" ∧ owner ≠ "java/lang/invoke/VarHandle") (w3 : (Jvm.Cond.selects C x0 y).before a0 Z = true) (w4 : (Jvm.Cond.instanceMethod y).before a0 Z = true) (E : Exa Z h a C) (hlen : ∀ sig, parseMethodDescriptor x0.desc = some sig → argsL.length = sig.parameters.length) (hst : st = argsL.reverse ++ .ref a :: rest) (has : (Value.ref a :: argsL).toArray = as) (hW : (rest.map fun v => v.category).sum ≤ W) (P : PaysW l Z EL n0 Mc R y 3 W as h kc ks Qc Nc) (hm : ∀ x ∈ Mc, x ∈ My) (hk : ∀ v h', Qc v h' → Keep h h' wl) (hs : ∀ x ∈ wl, n0 ≤ x) (hc : cells + kc ≤ R.cells) (hl : slots + ks ≤ R.slots)
    (K : ∀ v h', Qc v h' → Run w l Z EL n0 own nm B ret R Q Ny (Nc v ++ My) h' (cells + kc) (slots + ks) pc' ls (v.toList ++ rest)) : Run w l Z EL n0 own nm B ret R Q Ny My h cells slots pc ls st :=
  Run.callW (len := 3) (y := y) (as := as) hw hp (fun p e s m args below meth c T locs hx hby hml hZ hown X eT Pre Post hK hpre => by
    obtain ⟨cq34, kq34, q34a, q34b, q34c⟩ := isOf hZ eT E
    obtain ⟨v, vm₁, B', x1, x2, x4, x5, x3, st0⟩ := X.virtualBackUpS hx (x := x0) (y := y) hown (mvT hZ w1) (mvT hZ w5) (mvT hZ w2) hy (mvT hZ w3) (mvT hZ w4) hK q34a q34c (g := mkF m pc ls st) rfl hml.symm (Steps.refl _) (argsL := argsL) (rest := rest) hlen hst (by show 2 * 0 + _ ≤ _; omega) (hb hby hd) (by rw [has]; exact hpre)
    exact ⟨v, vm₁, B', x1, x2, x4, x5, has ▸ x3, st0⟩) P hm hk hs hc hl K
theorem r_private {pc' index W kc ks : Nat} {y : MethodName} {argsL rest : List Value} {as : Array Value} {Qc : Option Value → Heap → Prop} {wl : List Addr} {bytes : ByteArray} {maxL : Nat} {rt : Option FieldType} {C : String} {a : Addr} (hd : decode B pc = .ok (.invokevirtual index, 3)) (hp : pc + 3 = pc') (w1 : (Jvm.Cond.methodLink own index y).before a0 Z = true) (w2 : (Jvm.Cond.instanceMethod y).before a0 Z = true) (w3 : (Jvm.Cond.selects y.cls y y).before a0 Z = true) (w5 : (Jvm.Cond.privateMethod y).before a0 Z = true) (w4 : (Jvm.Cond.code y bytes maxL rt).before a0 Z = true) (hy : y.cls ≠ "java/lang/invoke/MethodHandle" ∧ y.cls ≠ "java/lang/invoke/VarHandle") (E : Exa Z h a C) (hlen : ∀ sig, parseMethodDescriptor y.desc = some sig → argsL.length = sig.parameters.length) (hst : st = argsL.reverse ++ .ref a :: rest) (has : (Value.ref a :: argsL).toArray = as) (hW : (rest.map fun v => v.category).sum ≤ W) (P : Pays l Z n0 R y 3 W as h kc ks Qc) (hk : ∀ v h', Qc v h' → Keep h h' wl) (hs : ∀ x ∈ wl, n0 ≤ x ∧ Sf w Z h My x) (hc : cells + kc ≤ R.cells) (hl : slots + ks ≤ R.slots)
    (K : ∀ v h', Qc v h' → Run w l Z EL n0 own nm B ret R Q Ny My h' (cells + kc) (slots + ks) pc' ls (v.toList ++ rest)) : Run w l Z EL n0 own nm B ret R Q Ny My h cells slots pc ls st :=
  Run.call (len := 3) (y := y) (as := as) hp (fun p e s m args below meth c T locs hx hby hml hZ hown X eT Pre Post hK hpre => by
    obtain ⟨cel, ce1, ce2⟩ := E.cell
    obtain ⟨v, vm₁, B', x1, x2, x3, st0⟩ := X.privateBack hx hown (mvT hZ w1) (mvT hZ w2) (mvT hZ w3) (Cond.privateMethod_at (mvP (args := #[]) hZ w5)) (mvT hZ w4) hy hK (g := mkF m pc ls st) rfl hml.symm (Steps.refl _) (a := a) (cell := cel) (by rw [eT]; exact ce1) ce2 (argsL := argsL) (rest := rest) hlen hst (by show 2 * 0 + _ ≤ _; omega) (hb hby hd) (by rw [has]; exact hpre)
    exact ⟨v, vm₁, B', x1, x2, has ▸ x3, st0⟩) P hk hs hc hl K
theorem r_privateF {pc' index W kc ks : Nat} {y : MethodName} {argsL rest : List Value} {as : Array Value} {Qc : Option Value → Heap → Prop} {wl : List Addr} {bytes : ByteArray} {maxL : Nat} {rt : Option FieldType} {C : String} {a : Addr} (hd : decode B pc = .ok (.invokevirtual index, 3)) (hp : pc + 3 = pc') (w1 : (Jvm.Cond.methodLink own index y).before a0 Z = true) (w2 : (Jvm.Cond.instanceMethod y).before a0 Z = true) (w3 : (Jvm.Cond.selects y.cls y y).before a0 Z = true) (w5 : (Jvm.Cond.privateMethod y).before a0 Z = true) (w4 : (Jvm.Cond.code y bytes maxL rt).before a0 Z = true) (hy : y.cls ≠ "java/lang/invoke/MethodHandle" ∧ y.cls ≠ "java/lang/invoke/VarHandle") (E : Exa Z h a C) (hlen : ∀ sig, parseMethodDescriptor y.desc = some sig → argsL.length = sig.parameters.length) (hst : st = argsL.reverse ++ .ref a :: rest) (has : (Value.ref a :: argsL).toArray = as) (hW : (rest.map fun v => v.category).sum ≤ W) (P : Pays l Z n0 R y 3 W as h kc ks Qc) (hk : ∀ v h', Qc v h' → Keep h h' wl) (hs : ∀ x ∈ wl, n0 ≤ x ∧ Sf w Z h My x) (hc : cells + kc ≤ R.cells) (hl : slots + ks ≤ R.slots)
    (K : ∀ v h', Qc v h' → ∃ F : List Addr, (∀ x ∈ F, (x ∈ My ∨ h.size ≤ x) ∧ x < h'.size) ∧ Run w l Z EL n0 own nm B ret R Q Ny (F ++ My) h' (cells + kc) (slots + ks) pc' ls (v.toList ++ rest)) : Run w l Z EL n0 own nm B ret R Q Ny My h cells slots pc ls st :=
  Run.callF (len := 3) (y := y) (as := as) hp (fun p e s m args below meth c T locs hx hby hml hZ hown X eT Pre Post hK hpre => by
    obtain ⟨cel, ce1, ce2⟩ := E.cell
    obtain ⟨v, vm₁, B', x1, x2, x3, st0⟩ := X.privateBack hx hown (mvT hZ w1) (mvT hZ w2) (mvT hZ w3) (Cond.privateMethod_at (mvP (args := #[]) hZ w5)) (mvT hZ w4) hy hK (g := mkF m pc ls st) rfl hml.symm (Steps.refl _) (a := a) (cell := cel) (by rw [eT]; exact ce1) ce2 (argsL := argsL) (rest := rest) hlen hst (by show 2 * 0 + _ ≤ _; omega) (hb hby hd) (by rw [has]; exact hpre)
    exact ⟨v, vm₁, B', x1, x2, has ▸ x3, st0⟩) P hk hs hc hl K
theorem r_privateW {pc' index W kc ks : Nat} {y : MethodName} {argsL rest : List Value} {as : Array Value} {Qc : Option Value → Heap → Prop} {wl : List Addr} {Nc : Option Value → List Addr} {Mc : List Addr} (hw : w = true) {bytes : ByteArray} {maxL : Nat} {rt : Option FieldType} {C : String} {a : Addr} (hd : decode B pc = .ok (.invokevirtual index, 3)) (hp : pc + 3 = pc') (w1 : (Jvm.Cond.methodLink own index y).before a0 Z = true) (w2 : (Jvm.Cond.instanceMethod y).before a0 Z = true) (w3 : (Jvm.Cond.selects y.cls y y).before a0 Z = true) (w5 : (Jvm.Cond.privateMethod y).before a0 Z = true) (w4 : (Jvm.Cond.code y bytes maxL rt).before a0 Z = true) (hy : y.cls ≠ "java/lang/invoke/MethodHandle" ∧ y.cls ≠ "java/lang/invoke/VarHandle") (E : Exa Z h a C) (hlen : ∀ sig, parseMethodDescriptor y.desc = some sig → argsL.length = sig.parameters.length) (hst : st = argsL.reverse ++ .ref a :: rest) (has : (Value.ref a :: argsL).toArray = as) (hW : (rest.map fun v => v.category).sum ≤ W) (P : PaysW l Z EL n0 Mc R y 3 W as h kc ks Qc Nc) (hm : ∀ x ∈ Mc, x ∈ My) (hk : ∀ v h', Qc v h' → Keep h h' wl) (hs : ∀ x ∈ wl, n0 ≤ x) (hc : cells + kc ≤ R.cells) (hl : slots + ks ≤ R.slots)
    (K : ∀ v h', Qc v h' → Run w l Z EL n0 own nm B ret R Q Ny (Nc v ++ My) h' (cells + kc) (slots + ks) pc' ls (v.toList ++ rest)) : Run w l Z EL n0 own nm B ret R Q Ny My h cells slots pc ls st :=
  Run.callW (len := 3) (y := y) (as := as) hw hp (fun p e s m args below meth c T locs hx hby hml hZ hown X eT Pre Post hK hpre => by
    obtain ⟨cel, ce1, ce2⟩ := E.cell
    obtain ⟨v, vm₁, B', x1, x2, x4, x5, x3, st0⟩ := X.privateBackS hx hown (mvT hZ w1) (mvT hZ w2) (mvT hZ w3) (Cond.privateMethod_at (mvP (args := #[]) hZ w5)) (mvT hZ w4) hy hK (g := mkF m pc ls st) rfl hml.symm (Steps.refl _) (a := a) (cell := cel) (by rw [eT]; exact ce1) ce2 (argsL := argsL) (rest := rest) hlen hst (by show 2 * 0 + _ ≤ _; omega) (hb hby hd) (by rw [has]; exact hpre)
    exact ⟨v, vm₁, B', x1, x2, x4, x5, has ▸ x3, st0⟩) P hm hk hs hc hl K
theorem r_interface {pc' index W kc ks : Nat} {y : MethodName} {argsL rest : List Value} {as : Array Value} {Qc : Option Value → Heap → Prop} {wl : List Addr} {x0 : MethodName} {C : String} {a : Addr} {count : Nat} (hd : decode B pc = .ok (.invokeinterface index count, 5)) (hp : pc + 5 = pc') (w1 : (Jvm.Cond.methodLink own index x0).before a0 Z = true) (w2 : (Jvm.Cond.declares x0).before a0 Z = true) (w5 : (Jvm.Cond.interfaceMethod x0.cls x0.cls x0.name x0.desc).before a0 Z = true) (hd5 : ((Jvm.Cond.interfaceMethod x0.cls x0.cls x0.name x0.desc).onTables && (Jvm.Cond.interfaceMethod x0.cls x0.cls x0.name x0.desc).keepsFace) = true) (w3 : (Jvm.Cond.selects C x0 y).before a0 Z = true) (w4 : (Jvm.Cond.instanceMethod y).before a0 Z = true) (w6 : (Jvm.Cond.publicMethod y).before a0 Z = true) (w7 : (Jvm.Cond.unhidden C x0.name x0.desc).before a0 Z = true) (w8 : (Jvm.Cond.castable C x0.cls).before a0 Z = true) (hy : x0.cls ≠ "java/lang/invoke/MethodHandle" ∧ x0.cls ≠ "java/lang/invoke/VarHandle") (E : Exa Z h a C) (hlen : ∀ sig, parseMethodDescriptor x0.desc = some sig → argsL.length = sig.parameters.length) (hst : st = argsL.reverse ++ .ref a :: rest) (has : (Value.ref a :: argsL).toArray = as) (hW : (rest.map fun v => v.category).sum ≤ W) (P : Pays l Z n0 R y 5 W as h kc ks Qc) (hk : ∀ v h', Qc v h' → Keep h h' wl) (hs : ∀ x ∈ wl, n0 ≤ x ∧ Sf w Z h My x) (hc : cells + kc ≤ R.cells) (hl : slots + ks ≤ R.slots)
    (K : ∀ v h', Qc v h' → Run w l Z EL n0 own nm B ret R Q Ny My h' (cells + kc) (slots + ks) pc' ls (v.toList ++ rest)) : Run w l Z EL n0 own nm B ret R Q Ny My h cells slots pc ls st :=
  Run.call (len := 5) (y := y) (as := as) hp (fun p e s m args below meth c T locs hx hby hml hZ hown X eT Pre Post hK hpre => by
    obtain ⟨cq34, kq34, q34a, q34b, q34c⟩ := isOf hZ eT E
    obtain ⟨v, vm₁, B', x1, x2, x3, st0⟩ := X.interfaceBack hx (xi := x0) (y := y) hown (mvT hZ w1) (mvT hZ w2) (mvT hZ w5 hd5) (mvT hZ w3) (mvT hZ w4) (mvT hZ w6) (mvT hZ w7) (mvT hZ w8) hy hK q34a q34b q34c (g := mkF m pc ls st) rfl hml.symm (Steps.refl _) (argsL := argsL) (rest := rest) hlen hst (by show 2 * 0 + _ ≤ _; omega) (hb hby hd) (by rw [has]; exact hpre)
    exact ⟨v, vm₁, B', x1, x2, has ▸ x3, st0⟩) P hk hs hc hl K
theorem r_interfaceF {pc' index W kc ks : Nat} {y : MethodName} {argsL rest : List Value} {as : Array Value} {Qc : Option Value → Heap → Prop} {wl : List Addr} {x0 : MethodName} {C : String} {a : Addr} {count : Nat} (hd : decode B pc = .ok (.invokeinterface index count, 5)) (hp : pc + 5 = pc') (w1 : (Jvm.Cond.methodLink own index x0).before a0 Z = true) (w2 : (Jvm.Cond.declares x0).before a0 Z = true) (w5 : (Jvm.Cond.interfaceMethod x0.cls x0.cls x0.name x0.desc).before a0 Z = true) (hd5 : ((Jvm.Cond.interfaceMethod x0.cls x0.cls x0.name x0.desc).onTables && (Jvm.Cond.interfaceMethod x0.cls x0.cls x0.name x0.desc).keepsFace) = true) (w3 : (Jvm.Cond.selects C x0 y).before a0 Z = true) (w4 : (Jvm.Cond.instanceMethod y).before a0 Z = true) (w6 : (Jvm.Cond.publicMethod y).before a0 Z = true) (w7 : (Jvm.Cond.unhidden C x0.name x0.desc).before a0 Z = true) (w8 : (Jvm.Cond.castable C x0.cls).before a0 Z = true) (hy : x0.cls ≠ "java/lang/invoke/MethodHandle" ∧ x0.cls ≠ "java/lang/invoke/VarHandle") (E : Exa Z h a C) (hlen : ∀ sig, parseMethodDescriptor x0.desc = some sig → argsL.length = sig.parameters.length) (hst : st = argsL.reverse ++ .ref a :: rest) (has : (Value.ref a :: argsL).toArray = as) (hW : (rest.map fun v => v.category).sum ≤ W) (P : Pays l Z n0 R y 5 W as h kc ks Qc) (hk : ∀ v h', Qc v h' → Keep h h' wl) (hs : ∀ x ∈ wl, n0 ≤ x ∧ Sf w Z h My x) (hc : cells + kc ≤ R.cells) (hl : slots + ks ≤ R.slots)
    (K : ∀ v h', Qc v h' → ∃ F : List Addr, (∀ x ∈ F, (x ∈ My ∨ h.size ≤ x) ∧ x < h'.size) ∧ Run w l Z EL n0 own nm B ret R Q Ny (F ++ My) h' (cells + kc) (slots + ks) pc' ls (v.toList ++ rest)) : Run w l Z EL n0 own nm B ret R Q Ny My h cells slots pc ls st :=
  Run.callF (len := 5) (y := y) (as := as) hp (fun p e s m args below meth c T locs hx hby hml hZ hown X eT Pre Post hK hpre => by
    obtain ⟨cq34, kq34, q34a, q34b, q34c⟩ := isOf hZ eT E
    obtain ⟨v, vm₁, B', x1, x2, x3, st0⟩ := X.interfaceBack hx (xi := x0) (y := y) hown (mvT hZ w1) (mvT hZ w2) (mvT hZ w5 hd5) (mvT hZ w3) (mvT hZ w4) (mvT hZ w6) (mvT hZ w7) (mvT hZ w8) hy hK q34a q34b q34c (g := mkF m pc ls st) rfl hml.symm (Steps.refl _) (argsL := argsL) (rest := rest) hlen hst (by show 2 * 0 + _ ≤ _; omega) (hb hby hd) (by rw [has]; exact hpre)
    exact ⟨v, vm₁, B', x1, x2, has ▸ x3, st0⟩) P hk hs hc hl K
theorem r_interfaceW {pc' index W kc ks : Nat} {y : MethodName} {argsL rest : List Value} {as : Array Value} {Qc : Option Value → Heap → Prop} {wl : List Addr} {Nc : Option Value → List Addr} {Mc : List Addr} (hw : w = true) {x0 : MethodName} {C : String} {a : Addr} {count : Nat} (hd : decode B pc = .ok (.invokeinterface index count, 5)) (hp : pc + 5 = pc') (w1 : (Jvm.Cond.methodLink own index x0).before a0 Z = true) (w2 : (Jvm.Cond.declares x0).before a0 Z = true) (w5 : (Jvm.Cond.interfaceMethod x0.cls x0.cls x0.name x0.desc).before a0 Z = true) (hd5 : ((Jvm.Cond.interfaceMethod x0.cls x0.cls x0.name x0.desc).onTables && (Jvm.Cond.interfaceMethod x0.cls x0.cls x0.name x0.desc).keepsFace) = true) (w3 : (Jvm.Cond.selects C x0 y).before a0 Z = true) (w4 : (Jvm.Cond.instanceMethod y).before a0 Z = true) (w6 : (Jvm.Cond.publicMethod y).before a0 Z = true) (w7 : (Jvm.Cond.unhidden C x0.name x0.desc).before a0 Z = true) (w8 : (Jvm.Cond.castable C x0.cls).before a0 Z = true) (hy : x0.cls ≠ "java/lang/invoke/MethodHandle" ∧ x0.cls ≠ "java/lang/invoke/VarHandle") (E : Exa Z h a C) (hlen : ∀ sig, parseMethodDescriptor x0.desc = some sig → argsL.length = sig.parameters.length) (hst : st = argsL.reverse ++ .ref a :: rest) (has : (Value.ref a :: argsL).toArray = as) (hW : (rest.map fun v => v.category).sum ≤ W) (P : PaysW l Z EL n0 Mc R y 5 W as h kc ks Qc Nc) (hm : ∀ x ∈ Mc, x ∈ My) (hk : ∀ v h', Qc v h' → Keep h h' wl) (hs : ∀ x ∈ wl, n0 ≤ x) (hc : cells + kc ≤ R.cells) (hl : slots + ks ≤ R.slots)
    (K : ∀ v h', Qc v h' → Run w l Z EL n0 own nm B ret R Q Ny (Nc v ++ My) h' (cells + kc) (slots + ks) pc' ls (v.toList ++ rest)) : Run w l Z EL n0 own nm B ret R Q Ny My h cells slots pc ls st :=
  Run.callW (len := 5) (y := y) (as := as) hw hp (fun p e s m args below meth c T locs hx hby hml hZ hown X eT Pre Post hK hpre => by
    obtain ⟨cq34, kq34, q34a, q34b, q34c⟩ := isOf hZ eT E
    obtain ⟨v, vm₁, B', x1, x2, x4, x5, x3, st0⟩ := X.interfaceBackS hx (xi := x0) (y := y) hown (mvT hZ w1) (mvT hZ w2) (mvT hZ w5 hd5) (mvT hZ w3) (mvT hZ w4) (mvT hZ w6) (mvT hZ w7) (mvT hZ w8) hy hK q34a q34b q34c (g := mkF m pc ls st) rfl hml.symm (Steps.refl _) (argsL := argsL) (rest := rest) hlen hst (by show 2 * 0 + _ ≤ _; omega) (hb hby hd) (by rw [has]; exact hpre)
    exact ⟨v, vm₁, B', x1, x2, x4, x5, has ▸ x3, st0⟩) P hm hk hs hc hl K
/-- ldc of a String constant that is held, read -/
theorem r_ldcS {pc' : Nat} {index : Nat} {text : String} {vs : List Value} {z : Int32} {n : Nat} (hw : w = true) (hd : decode B pc = .ok (.ldc index, 2)) (hp : pc + 2 = pc') (wl : (Jvm.Cond.stringLink own index text).before a0 Z = true) (wS : ∀ a ∈ Bundle.stringAtoms, a.before a0 Z = true) (hmem : (own, index) ∈ EL)
    (ht : (∀ c ∈ text.toList, c.toNat < 256) ∧ text.toList.map (fun c => Value.int (Jvm.Lit.byteI c.toNat.toUInt16)) = vs) (hz : ¬ z < 0) (hl : z.toNatClampNeg = vs.length) (hn : 4 * text.toList.length ≤ n) (hbig : n ≤ 536870912) (hc : cells + 2 ≤ R.cells) (hl' : slots + (n + 4) ≤ R.slots)
    (K : ∀ (h' : Heap) (a b : Addr) (k : ClassId), Ext h h' → Exa Z h' a "java/lang/String" → Fld Z h' a "java/lang/String" "coder" "B" (.int 0) → Fld Z h' a "java/lang/String" "value" "[B" (.ref b) → Arv Z h' b k .byte z vs (.int 0) → (∀ x ∈ My, x ≠ a ∧ x ≠ b) → Run w l Z EL n0 own nm B ret R Q Ny My h' (cells + 2) (slots + (n + 4)) pc' ls (.ref a :: st)) : Run w l Z EL n0 own nm B ret R Q Ny My h cells slots pc ls st := by
  intro p e s m args below meth c T locs vm hx hby hml hret hnm hlk hZ hown X eT N hH
  obtain ⟨hEW0, ⟨k0, hS0, hk0⟩, hC, hMy⟩ := hH.2.2 hw
  obtain ⟨a1, hEW⟩ := id hEW0
  have hEWa : EW Z a0 EL := fun q hq => by obtain ⟨t, h1, h2⟩ := hEW q hq; exact ⟨t, h1, h2⟩
  obtain ⟨a, T', h', k1, b, k, X', e', E', hS', hk', hZ', hown', A1, C1, V1, K1, la, lb, hC', -, hne, stp⟩ := ldcCH X hx hZ hown wl wS eT hS0 hk0 hEWa hmem hC.1 ht hz hl (g := mkF m pc ls st) rfl (hb hby hd) hn hbig hc hl'
  have hmy : ∀ x ∈ My, x < h'.size ∧ Safe Z EL T'.vm h' x := fun x hx => ⟨Nat.lt_of_lt_of_le (hMy x hx).1 E'.1, hC'.safe (hMy x hx).1 (hMy x hx).2⟩
  obtain ⟨t, o, hs, r⟩ := K h' a b k E' A1 C1 V1 K1 (fun x hx => hne x (hmy x hx).2) p e s m args below meth c T' locs T'.vm hx hby hml hret hnm hlk hZ' hown' X' e' N ⟨hH.1.ext E', ⟨fun q => (by rw [hw] at q; cases q), hH.2.1.2⟩, fun _ => ⟨hEW0, ⟨k1, hS', hk'⟩, hC.trans hC', hmy⟩⟩
  exact ⟨t, o, stp t (by subst hp; exact hs), r⟩
/-- from a walk to the contract -/
theorem Ok.of_run {y : MethodName} {bytes : ByteArray} {maxL : Nat} {rt : Option FieldType} {rm : Room} {as : Array Value} {Qc : Option Value → Heap → Prop} {Nc : Option Value → List Addr} {ls0 : Array Slot} (hy : plainFor y = true) (hef : ∀ m, entryFrame m as maxL = mkF m 0 ls0 []) (hsz : maxL = ls0.size)
    (r : Run w l Z EL n0 y.cls y.name bytes rt rm Qc Nc My h 0 0 0 ls0 []) : Ok w l Z EL n0 My y bytes maxL rt rm as h Qc Nc := by
  intro ws
  refine MetFree.of_bodySF hy hisR ?_
  intro p e s m args below meth c s₁ Bd hml0 hP hK
  obtain ⟨rfl, hZ, hh, hO, hw⟩ := hP
  have hml : c.maxLocals = maxL := hml0
  have hown : s.vm.findClass y.cls = some m.cls := findClass_of_methodNamed Bd.named
  have hnm := (name_of_methodNamed Bd.named Bd.method).1
  have X0 : Stand p l e rm s m args below meth c s₁ [] 0 0 := Stand.of_body Bd
  have e0 : s₁.heap = h := by rw [← hh, Bd.state]; rfl
  obtain ⟨t, o, hs, h1, h2, v, L, h3, h4, h5, h6⟩ := r p e s m args below meth c s₁ [] s.vm Bd.exec Bd.bytes (hml.trans hsz) Bd.returns hnm Bd.notSynchronized hZ hown X0 e0 (Fr.nil n0) ⟨hO, ⟨fun _ => rfl, hK.1, hK.2, hh ▸ hO⟩, fun q => by
    obtain ⟨a, b, c⟩ := hw q
    exact ⟨a, ⟨s.heap.size, (State.WarmedH.refl s).since _, by rw [hh]; exact Nat.le_refl _⟩, by rw [hh]; exact CHr.refl b, c⟩⟩
  exact ⟨t, o, castTop (hef m) hs, h1, h2, v, L, h3, h4, h5, h6⟩
theorem ThS.old (O : Old Z n0 h) : ThS Z h := fun _ _ _ _ _ _ _ q _ => O.2.2 _ _ q
/-- the constructor of a Throwable with a message, on an object that the walk has made -/
theorem r_exc1 {pc' ic n W : Nat} {rc : String} {links : List Jvm.Free.Exc.Link} {a : Addr} {msg : Value} (hd : decode B pc = .ok (.invokespecial ic, 3)) (hp : pc + 3 = pc') (hl : l.stackTraces = true) (hok : Jvm.Free.Exc.linksOk 1 links = true)
    (w1 : (Jvm.Cond.methodLink own ic (Jvm.Free.Exc.ctor 1 (Jvm.Free.Exc.headName links))).before a0 Z = true) (w2 : (Jvm.Cond.instanceMethod (Jvm.Free.Exc.ctor 1 (Jvm.Free.Exc.headName links))).before a0 Z = true) (wT : (Jvm.Free.Exc.chainTab 1 rc links).before a0 Z = true) (wi : (Jvm.Cond.instantiable rc n).before a0 Z = true) (r2 : ∀ d ∈ twoRefs, d.before a0 Z = true)
    (E : Exa Z h a rc) (N : Unt h a) (B1 : Fld Z h a "java/lang/Throwable" "backtrace" "Ljava/lang/Object;" .null) (B2 : Fld Z h a "java/lang/Throwable" "detailMessage" "Ljava/lang/String;" .null) (hmsg : msg.isRef = true) (hr1 : rc ≠ "java/lang/String") (hr2 : rc ≠ "[B") (ge : n0 ≤ a)
    (hf : 4 + links.length ≤ R.frames) (hW : (st.map fun v => v.category).sum ≤ W) (hlo : W + (56 + 14 * links.length) ≤ R.locals) (hc : cells + 1 ≤ R.cells) (hsl : slots + 2752 ≤ R.slots)
    (K : ∀ h' : Heap, Keep h h' [a] → Exa Z h' a rc → Fld Z h' a "java/lang/Throwable" "detailMessage" "Ljava/lang/String;" msg → Run w l Z EL n0 own nm B ret R Q Ny My h' (cells + 1) (slots + 2752) pc' ls st) : Run w l Z EL n0 own nm B ret R Q Ny My h cells slots pc ls (msg :: .ref a :: st) := by
  intro p e s m args below meth c T locs vm hx hby hml hret hnm hlk hZ hown X eT N' hH
  obtain ⟨k1, k2⟩ := hH.known
  obtain ⟨T', h', X', e', Kp', E', -, F1, -, -, stp⟩ := excL1 X hx hl hZ hown hok w1 w2 wT wi r2 (ThS.old hH.2.1.2.2.2) (ThS.old hH.1) k1 k2 eT E N B1 B2 hmsg (g := mkF m pc ls (msg :: .ref a :: st)) rfl hml.symm rfl (hb hby hd) hf (by show 2 * 0 + _ + _ ≤ _; omega) hc hsl
  obtain ⟨t, o, hs, r⟩ := K h' (keep_of_kp Kp') E' F1 p e s m args below meth c T' _ vm hx hby hml hret hnm hlk hZ hown X' e' (Fr.six N' ge) (hH.keep hZ (keep_of_kp Kp') (allS ⟨ge, Sf.exa E hr1 hr2⟩ all0))
  exact ⟨t, o, stp t (by subst hp; exact hs), r⟩
end Calls
/-- the one word of a Throwable's bundle that a sheet may lack -/
abbrev badWord : Jvm.Cond := .lays Bundle.tN Bundle.tN "suppressedExceptions" Bundle.listD
/-- Throwable's parts, the exception's own words standing for the lacking one -/
theorem linksX {args : Array Value} {s : State} {pl : Platform} {C : String} (ho : pl.frameOwnsMonitors = true) (hfz : pl.finalization = false) (hm : pl.magicAccessors = ({} : Platform).magicAccessors)
    (h : ∀ d ∈ Bundle.throwableAtoms, d ≠ badWord → d.before args s = true) (x24 : (Jvm.Cond.lays C Bundle.tN "suppressedExceptions" Bundle.listD).before args s = true) (x17 : (Jvm.Cond.lays C Bundle.tN "stackTrace" Bundle.steD).before args s = true) :
    ∃ T : ThrowableC, T.Links pl s ∧ s.vm.findClass Bundle.tN = some T.cT ∧ s.methodNamed? Bundle.tFill = some T.fill ∧ s.methodNamed? Bundle.tFill0 = some T.fill0 ∧ s.fieldFound? Bundle.tN "stackTrace" Bundle.steD = some (T.cT, T.kT, T.i17, T.fStack) ∧ T.fStack.name = "stackTrace" ∧ T.fStack.type = .array (.object "java/lang/StackTraceElement") ∧ s.fieldFound? Bundle.tN "UNASSIGNED_STACK" Bundle.steD = some (T.cT, T.kT, T.i13, T.fUnassigned) := by
  have a : ∀ d, d ∈ Bundle.throwableAtoms → d ≠ badWord → d.holds args s none s [] = true := fun d h1 h2 => h d h1 h2
  -- the native and the class
  obtain ⟨⟨c, i0⟩, m0, n0, e0, nat0, cod0, loc0, sig0⟩ := Cond.native_spec (a (.native Bundle.tFill0) (by simp [Bundle.throwableAtoms]) (by decide))
  have fc : s.vm.findClass Bundle.tN = some c := findClass_of_methodNamed n0
  obtain ⟨k, hk, kn⟩ := Vm.findClass_spec fc
  obtain ⟨-, k', -, -, hk', -, -, -, -, ki⟩ := Cond.superclass_spec fc (a (.superclass Bundle.tN "java/lang/Object") (by simp [Bundle.throwableAtoms]) (by decide))
  cases hk.symm.trans hk'
  -- its methods
  obtain ⟨i1, m1, n1, e1, at1, st1, ab1, -, -⟩ := Cond.ownMethod (x := Bundle.tFill) fc hk (a (.instanceMethod Bundle.tFill) (by simp [Bundle.throwableAtoms]) (by decide))
  obtain ⟨m1', c1, e1', cc1, by1, lo1, re1, lk1, -, sig1⟩ := Cond.codeSync_spec n1 (a (.codeSync Bundle.tFill Jvm.LibCode.Throwable.Fill.code 1 (some (.object Bundle.tN))) (by simp [Bundle.throwableAtoms]) (by decide))
  cases e1.symm.trans e1'
  obtain ⟨i0', m0', n0', e0', at0, st0, ab0, nm0, ds0⟩ := Cond.ownMethod (x := Bundle.tFill0) fc hk (a (.instanceMethod Bundle.tFill0) (by simp [Bundle.throwableAtoms]) (by decide))
  obtain rfl : i0 = i0' := by have q := Option.some.inj (n0.symm.trans n0'); simpa using q
  cases e0.symm.trans e0'
  obtain ⟨i2, m2, n2, e2, at2, -, -, -, -⟩ := Cond.ownMethod (x := Bundle.tInit0) fc hk (a (.instanceMethod Bundle.tInit0) (by simp [Bundle.throwableAtoms]) (by decide))
  obtain ⟨m2', c2, -, cc2, by2, lo2, -, lk2, -, -⟩ := Cond.code_spec n2 (a (.code Bundle.tInit0 Jvm.LibCode.Throwable.Init0.code 1 none) (by simp [Bundle.throwableAtoms]) (by decide))
  -- Object's constructor
  obtain ⟨mO, mtO, nO, eO, stO, abO⟩ := Cond.instanceMethod_spec (a (.instanceMethod Bundle.oInit) (by simp [Bundle.throwableAtoms]) (by decide))
  obtain ⟨mtO', cO, eO', ccO, byO, loO, -, lkO, -, sigO⟩ := Cond.code_spec nO (a (.code Bundle.oInit ⟨#[0xb1]⟩ 1 none) (by simp [Bundle.throwableAtoms]) (by decide))
  cases eO.symm.trans eO'
  obtain ⟨kO, hkO, knO⟩ := Vm.findClass_spec (findClass_of_methodNamed nO)
  obtain ⟨nmO, dsO⟩ := name_of_methodNamed nO eO
  -- the pool's entries
  obtain ⟨p1, q1, cf, l1, r1, hcf, b1⟩ := Cond.linkedMethod fc hk nO (a (.methodLink Bundle.tN 1 Bundle.oInit) (by simp [Bundle.throwableAtoms]) (by decide)) pl hm
  obtain ⟨p27, q27, cf2, l27, r27, hcf2, b27⟩ := Cond.linkedMethod fc hk n1 (a (.methodLink Bundle.tN 27 Bundle.tFill) (by simp [Bundle.throwableAtoms]) (by decide)) pl hm
  obtain ⟨p202, q202, cf3, l202, r202, hcf3, b202⟩ := Cond.linkedMethod fc hk n0 (a (.methodLink Bundle.tN 202 Bundle.tFill0) (by simp [Bundle.throwableAtoms]) (by decide)) pl hm
  cases hcf.symm.trans hcf2
  cases hcf.symm.trans hcf3
  obtain ⟨p7, j7, f7, u7, v7, w7, s7, z7, nm7, ty7, ff7⟩ := Cond.ownField (t := .object Bundle.tN) fc hk (by decide +kernel) (a (.fieldLink Bundle.tN 7 Bundle.tN "cause" "Ljava/lang/Throwable;") (by simp [Bundle.throwableAtoms]) (by decide)) (a (.lays Bundle.tN Bundle.tN "cause" "Ljava/lang/Throwable;") (by simp [Bundle.throwableAtoms]) (by decide)) pl hm
  obtain ⟨p17, j17, f17, u17, v17, w17, s17, z17, nm17, ty17, ff17⟩ := Cond.ownField (t := .array (.object "java/lang/StackTraceElement")) fc hk (by decide +kernel) (a (.fieldLink Bundle.tN 17 Bundle.tN "stackTrace" Bundle.steD) (by simp [Bundle.throwableAtoms]) (by decide)) x17 pl hm
  obtain ⟨p24, j24, f24, u24, v24, w24, s24, z24, nm24, ty24, ff24⟩ := Cond.ownField (t := .object "java/util/List") fc hk (by decide +kernel) (a (.fieldLink Bundle.tN 24 Bundle.tN "suppressedExceptions" Bundle.listD) (by simp [Bundle.throwableAtoms]) (by decide)) x24 pl hm
  obtain ⟨p13, j13, f13, aS, cS, u13, v13, w13, s13, -, -, sta, hcS, isS, -, -, ff13⟩ := Cond.ownStatic (t := .array (.object "java/lang/StackTraceElement")) fc hk (by decide +kernel) (a (.fieldLink Bundle.tN 13 Bundle.tN "UNASSIGNED_STACK" Bundle.steD) (by simp [Bundle.throwableAtoms]) (by decide)) (a (.laysStatic Bundle.tN "UNASSIGNED_STACK" Bundle.steD) (by simp [Bundle.throwableAtoms]) (by decide)) pl hm
  obtain ⟨p20, j20, f20, -, -, u20, v20, w20, s20, -, -, -, -, -, -, -, ff20⟩ := Cond.ownStatic (t := .object "java/util/List") fc hk (by decide +kernel) (a (.fieldLink Bundle.tN 20 Bundle.tN "SUPPRESSED_SENTINEL" Bundle.listD) (by simp [Bundle.throwableAtoms]) (by decide)) (a (.laysStatic Bundle.tN "SUPPRESSED_SENTINEL" Bundle.listD) (by simp [Bundle.throwableAtoms]) (by decide)) pl hm
  obtain ⟨-, -, cM, kM, iM, fM, -, -, ffM, sM, zM, -⟩ := Cond.lays_spec (a (.lays Bundle.tN Bundle.tN "detailMessage" "Ljava/lang/String;") (by simp [Bundle.throwableAtoms]) (by decide))
  -- two fields of the exception lie apart
  obtain ⟨cX, kX, -, -, -, -, fX, hX, -⟩ := Cond.lays_spec x17
  obtain ⟨-, d17, dd17, dn17⟩ := Cond.laysAt fX hX ff17 x17
  obtain ⟨-, d24, dd24, dn24⟩ := Cond.laysAt fX hX ff24 x24
  have apart : f17.slot ≠ f24.slot := Cond.laysApart dd17 dd24 dn17 dn24 (by rw [nm17, nm24]; decide)
  have g1 : m1.sig.parameters = [] := by
    have q : (parseMethodDescriptor Bundle.tFill.desc).map (·.parameters) = some [] := by decide +kernel
    rw [sig1] at q; simpa using q
  have g0 : m0.sig.parameters = [.int] := by
    have q : (parseMethodDescriptor Bundle.tFill0.desc).map (·.parameters) = some [.int] := by decide +kernel
    rw [sig0] at q; simpa using q
  have gO : mtO.sig.parameters.length = 0 := by
    have q : (parseMethodDescriptor Bundle.oInit.desc).map (·.parameters) = some [] := by decide +kernel
    rw [sigO] at q
    have q2 : mtO.sig.parameters = [] := by simpa using q
    rw [q2]; rfl
  let T : ThrowableC := { cT := c, kT := k, cO := c, aS := aS, fillIdx := i1, fill0Idx := i0, initSIdx := i2, obj := mO, kObj := kO, methFill := m1, methFill0 := m0, methInitS := m2, methObj := mtO, codeFill := c1, codeInitS := c2, codeObj := cO, fBack := f7, fDepth := f7, fStack := f17, fCause := f7, fSupp := f24, fMsg := fM, fUnassigned := f13, fSentinel := f20, cfT := cf, ci1 := p1, n1 := q1, ci27 := p27, n27 := q27, ci202 := p202, n202 := q202, ci7 := p7, i7 := j7, ci13 := p13, i13 := j13, ci17 := p17, i17 := j17, ci20 := p20, i20 := j20, ci24 := p24, i24 := j24 }
  refine ⟨T, ?_, fc, n1, n0, ff17, nm17, ty17, ff13⟩
  constructor
  case owns => exact ho
  case noFinalization => exact hfz
  case cls => exact hk
  case name => exact kn
  case boot => exact Vm.findClass_boot fc hk
  case initialized => exact Cond.initialized_spec fc hk (a (.initialized Bundle.tN) (by simp [Bundle.throwableAtoms]) (by decide))
  case objFound => show lookupSpecial s.vm mO.cls "<init>" mtO.desc = _; rw [dsO]; exact lookupSpecial_of_named nO eO stO
  all_goals assumption
/-- what a field is at the walk's tables -/
theorem found_at {Z : State} {vm : Vm} {s : State} {C n d : String} {cf : ClassId} {k : Class} {i : Nat} {f : Field} {cf' : ClassId} {k' : Class} {i' : Nat} {f' : Field} (hZ : Z.Warmed39 vm) (h : Z.fieldFound? C n d = some (cf, k, i, f)) (h' : (s.setVm vm).fieldFound? C n d = some (cf', k', i', f')) : f' = f ∧ k'.statics = k.statics := by
  obtain ⟨k2, q, e⟩ := State.fieldFound?_setVm hZ.alike h
  have q' : (s.setVm vm).fieldFound? C n d = some (cf, k2, i, f) := q
  have r := Option.some.inj (h'.symm.trans q')
  simp only [Prod.mk.injEq] at r
  obtain ⟨-, rfl, -, rfl⟩ := r
  exact ⟨rfl, by rw [e]⟩
section Fill
variable {w : Bool} {l : Launch} {Z : State} {EL : List (String × Nat)} {n0 : Nat} {own nm : String} {B : ByteArray} {ret : Option FieldType} {R : Room} {Q : Option Value → Heap → Prop} {Ny : Option Value → List Addr} {My : List Addr} {h : Heap} {cells slots pc : Nat} {ls : Array Slot} {st : List Value} {a0 : Array Value}
set_option maxHeartbeats 4000000 in
/-- fillInStackTrace() on an exception that the walk has made -/
theorem r_fill {pc' ix n W : Nat} {rc : String} {a : Addr} {u : Value} (hd : decode B pc = .ok (.invokevirtual ix, 3)) (hp : pc + 3 = pc') (hl : l.stackTraces = true)
    (hx : ∀ d ∈ Jvm.Free.Exc.excAtoms rc, d ≠ badWord → d.before a0 Z = true) (w1 : (Jvm.Cond.methodLink own ix Bundle.tFill).before a0 Z = true) (wi : (Jvm.Cond.instantiable rc n).before a0 Z = true)
    (E : Exa Z h a rc) (N : Unt h a) (FS : Fld Z h a Bundle.tN "stackTrace" Bundle.steD u) (hun : u ≠ .null) (hur : u.isRef = true) (SU : Sta Z Z.heap Bundle.tN "UNASSIGNED_STACK" Bundle.steD u) (FB : Fld Z h a Bundle.tN "backtrace" "Ljava/lang/Object;" .null) (hr1 : rc ≠ "java/lang/String") (hr2 : rc ≠ "[B") (hr3 : rc ≠ "java/lang/Throwable") (ge : n0 ≤ a)
    (hf : 3 ≤ R.frames) (hW : (st.map fun v => v.category).sum ≤ W) (hlo : W + 42 ≤ R.locals) (hc : cells + 1 ≤ R.cells) (hsl : slots + 2752 ≤ R.slots)
    (K : ∀ h' : Heap, Keep h h' [a] → (∀ v, Fld Z h a Bundle.tN "detailMessage" "Ljava/lang/String;" v → Fld Z h' a Bundle.tN "detailMessage" "Ljava/lang/String;" v) → Run w l Z EL n0 own nm B ret R Q Ny My h' (cells + 1) (slots + 2752) pc' ls (.ref a :: st)) : Run w l Z EL n0 own nm B ret R Q Ny My h cells slots pc ls (.ref a :: st) := by
  intro p e s m args below meth c T locs vm hxe hby hml hret hnm hlk hZ hown X eT N' hH
  obtain ⟨k1, k2⟩ := hH.known
  have htr : e.platform.stackTraces = true := by rw [X.admits.platform]; exact hl
  have howns : e.platform.frameOwnsMonitors = true := by rw [X.admits.platform]
  have hfin : e.platform.finalization = false := by rw [X.admits.platform]
  have hpl : e.platform.magicAccessors = ({} : Platform).magicAccessors := by rw [X.admits.platform]
  have hZs : Z.Warmed39 (s.setVm vm).vm := hZ
  have W' : ∀ d ∈ Jvm.Free.Exc.excAtoms rc, d ≠ badWord → d.before args (s.setVm vm) = true := fun d h1 h2 => mvX (s := s.setVm vm) (ThS.old (h := (s.setVm vm).heap) hH.2.1.2.2.2) hZs (List.all_eq_true.mp exc_ok d h1) (hx d h1 h2)
  have a' : ∀ d, d ∈ Jvm.Free.Exc.excAtoms rc → d ≠ badWord → d.holds args (s.setVm vm) none (s.setVm vm) [] = true := W'
  have nb : ∀ n d, (Jvm.Cond.lays rc Bundle.tN n d) ≠ badWord := fun n d q => by injection q with q1; exact hr3 q1
  obtain ⟨TT, L, fT, nF, nF0, ffS, nmS, tyS, ffU⟩ := linksX (C := rc) howns hfin hpl (fun d h1 h2 => W' d (by simp [Jvm.Free.Exc.excAtoms, h1]) h2) (W' (.lays rc Bundle.tN "suppressedExceptions" Bundle.listD) (by simp [Jvm.Free.Exc.excAtoms]) (nb _ _)) (W' (.lays rc Bundle.tN "stackTrace" Bundle.steD) (by simp [Jvm.Free.Exc.excAtoms]) (nb _ _))
  -- the object
  obtain ⟨cell, kz, e1, e2, e3, e4, e5⟩ := id E
  obtain ⟨cell', v1, v2, v3⟩ := N
  cases e1.symm.trans v1
  obtain ⟨cz, kz', z1, z2, z3, -, -, z6⟩ := Cond.instantiable_spec wi
  cases z1.symm.trans e2
  cases z2.symm.trans e3
  obtain ⟨cs_, kX, g1, g2, g3, -, -, g6⟩ := Cond.instantiable_spec (mvT (s := s.setVm vm) (args := args) hZs wi)
  have hfr : (s.setVm vm).vm.findClass rc = some cell.cls := by show vm.findClass rc = _; rw [hZ.alike.findClass]; exact e2
  cases g1.symm.trans hfr
  have hsz : cell.slots.size = kX.instanceTypes.size := by rw [e5 z3, z6, g6]
  have hcell : T.heap[a]? = some cell := by rw [eT]; exact e1
  -- the statics
  obtain ⟨cU, iU, kU, fU, aU, cellS, s1, s2, s3, s4, s5, s6, s7⟩ := SU.ext hH.1.2
  obtain ⟨qU1, qU2⟩ := found_at hZ s1 ffU
  have haS : TT.aS = aU := by have q := L.statics; rw [qU2, s4] at q; exact (Option.some.inj q).symm
  have hcS : T.heap[TT.aS]? = some cellS := by rw [eT, haS]; exact s5
  have hneS : TT.aS ≠ a := fun q => by
    rw [q, hcell] at hcS
    rw [← Option.some.inj hcS, v2] at s6; cases s6
  -- its fields
  obtain ⟨c3, cf3, kf3, i3, f3, b1, b2, -, -, -, -, b7⟩ := FS
  cases e1.symm.trans b1
  obtain ⟨qS1, -⟩ := found_at hZ b2 ffS
  obtain ⟨c4, cf4, kf4, i4, f4, d1, d2, -, -, -, -, d7⟩ := FB
  cases e1.symm.trans d1
  obtain ⟨ci, ib, fB, lk198, rg198, at198, sB, -, nmB, tyB, ffB⟩ := Cond.ownField (t := .object "java/lang/Object") fT L.cls (by decide +kernel) (a' (.fieldLink Bundle.tN 198 Bundle.tN "backtrace" "Ljava/lang/Object;") (by simp [Jvm.Free.Exc.excAtoms]) (by decide)) (a' (.lays Bundle.tN Bundle.tN "backtrace" "Ljava/lang/Object;") (by simp [Jvm.Free.Exc.excAtoms]) (by decide)) e.platform hpl
  obtain ⟨qB1, -⟩ := found_at hZ d2 ffB
  obtain ⟨-, -, cD, kD, iD, fD, -, -, ffD, sD, -, -, -, -⟩ := Cond.lays_spec (a' (.lays rc Bundle.tN "depth" "I") (by simp [Jvm.Free.Exc.excAtoms]) (nb _ _))
  cases Option.some.inj ((Cond.lays_declared (a' (.lays rc Bundle.tN "depth" "I") (by simp [Jvm.Free.Exc.excAtoms]) (nb _ _)) ffD).symm.trans fT)
  obtain ⟨hkD, atD⟩ := State.fieldFound?_spec ffD
  cases Option.some.inj (hkD.symm.trans L.cls)
  obtain ⟨nmD, tyD⟩ := State.fieldFound?_type ffD (t := .int) (by decide +kernel)
  have hfb := Cond.soleField_find fT L.cls (a' (.soleField Bundle.tN "backtrace") (by simp [Jvm.Free.Exc.excAtoms]) (by decide)) at198 nmB sB
  have hfd := Cond.soleField_find fT L.cls (a' (.soleField Bundle.tN "depth") (by simp [Jvm.Free.Exc.excAtoms]) (by decide)) atD nmD sD
  obtain ⟨comp, cO, kO, -, -, hkO, hkindO, hO⟩ := Cond.arrayOver_spec (W' (.arrayOver (.object "java/lang/Object")) (by simp [Jvm.Free.Exc.excAtoms]) (by decide))
  obtain ⟨-, -, cM, kM, iM, fM, -, -, ffM, -, -, -, -, -⟩ := Cond.lays_spec (a' (.lays rc Bundle.tN "detailMessage" "Ljava/lang/String;") (by simp [Jvm.Free.Exc.excAtoms]) (nb _ _))
  have nmM : fM.name = "detailMessage" := (State.fieldFound?_type ffM (t := .object "java/lang/String") (by decide +kernel)).1
  obtain ⟨tS, xS, xS1, xS2⟩ := Cond.laysAt hfr g2 ffS (a' (.lays rc Bundle.tN "stackTrace" Bundle.steD) (by simp [Jvm.Free.Exc.excAtoms]) (nb _ _))
  obtain ⟨tB, xB, xB1, xB2⟩ := Cond.laysAt hfr g2 ffB (a' (.lays rc Bundle.tN "backtrace" "Ljava/lang/Object;") (by simp [Jvm.Free.Exc.excAtoms]) (nb _ _))
  obtain ⟨tD, xD, xD1, xD2⟩ := Cond.laysAt hfr g2 ffD (a' (.lays rc Bundle.tN "depth" "I") (by simp [Jvm.Free.Exc.excAtoms]) (nb _ _))
  obtain ⟨tM, xM, xM1, xM2⟩ := Cond.laysAt hfr g2 ffM (a' (.lays rc Bundle.tN "detailMessage" "Ljava/lang/String;") (by simp [Jvm.Free.Exc.excAtoms]) (nb _ _))
  have mS := Cond.laysApart xM1 xS1 xM2 xS2 (by rw [nmM, nmS]; decide)
  have mB := Cond.laysApart xM1 xB1 xM2 xB2 (by rw [nmM, nmB]; decide)
  have mD := Cond.laysApart xM1 xD1 xM2 xD2 (by rw [nmM, nmD]; decide)
  have tk : ∀ {f : Field} {v : Value}, kX.instanceTypes[f.slot]? = some f.type → fits f.type v = true → Jvm.Takes (s.setVm vm) cell f v := fun {f v} h1 h2 => by
    obtain ⟨q1, q2⟩ := Takes.of_laid (v := v) g2 g3 h1 h2
    exact ⟨by rw [hsz]; simpa using q1, by rw [v2]; exact q2⟩
  have hsel0 : selectMethod e.platform (s.setVm vm).vm cell.cls TT.fill0 = .method TT.fill0 := by
    obtain ⟨c2, r2, m2, q1, q2, q3, q4, -⟩ := Cond.selects_spec (a' (.selects rc Bundle.tFill0 Bundle.tFill0) (by simp [Jvm.Free.Exc.excAtoms]) (fun q => by cases q))
    cases Option.some.inj (q1.symm.trans hfr)
    cases Option.some.inj (q2.symm.trans (State.methodFound?_of_named nF0 (by decide)))
    cases Option.some.inj (q3.symm.trans nF0)
    rw [Launch.admits_selectMethod X.admits]; exact q4
  have hK := Jvm.Free.Str.fillPays (l := l) (R := R) (below := below) (s := s.setVm vm) (sargs := args) (len := 3) (W := W) hxe htr TT L nF (u0 := ⟨u, hur⟩) hun (self := a) (cell := cell) (cellS := cellS) (by rw [v2]; intro q h; cases h) (by rw [v2]; intro h; cases h) (by rw [v3]) (by rw [v3]) (by rw [qS1]; exact b7) hsel0 hneS (by intro h; rw [h] at s6; cases s6) (by rw [qU1]; exact s7) (tk tS (by rw [tyS]; exact fits_refV_array _ ⟨u, hur⟩)) ⟨⟨ci, ib, fB⟩, ⟨lk198, rg198, at198, sB⟩, by show cell.slots[fB.slot]? = _; rw [qB1]; exact d7⟩ k1 k2 fT hO hkO hkindO hfb hfd (fun x => tk tB (by rw [tyB]; exact fits_refV_object _ ⟨.ref x, rfl⟩)) (fun x => tk tD (by rw [tyD]; rfl)) (by omega) hlo
  obtain ⟨cq, kq, qa, qb, qc⟩ := isOf hZs eT E
  obtain ⟨v, vm₁, B', x1, x2, ⟨x3, vm2, lines, hli, -, hU, hL, hCe, hSl⟩, st0⟩ := X.virtualBack hxe (y := Bundle.tFill) (z := Bundle.tFill) hown (mvT (s := s.setVm vm) hZs w1) (W' (.declares Bundle.tFill) (by simp [Jvm.Free.Exc.excAtoms]) (fun q => by cases q)) (nf_super (args := args) (W' (.superclass Bundle.tN "java/lang/Object") (by simp [Jvm.Free.Exc.excAtoms, Bundle.throwableAtoms]) (fun q => by cases q))) (W' (.selects rc Bundle.tFill Bundle.tFill) (by simp [Jvm.Free.Exc.excAtoms]) (fun q => by cases q)) (W' (.instanceMethod Bundle.tFill) (by simp [Jvm.Free.Exc.excAtoms, Bundle.throwableAtoms]) (fun q => by cases q)) (by decide) hK qa qc (g := mkF m pc ls (.ref a :: st)) rfl hml.symm (Steps.refl _) (argsL := []) (rest := st) (lenOf (by decide +kernel : parseMethodDescriptor Bundle.tFill.desc = some ⟨[], some (.object "java/lang/Throwable")⟩) rfl) rfl (by show 2 * 0 + _ ≤ _; omega) (hb hby hd) (fun vm₁ _ => ⟨rfl, hc, hsl, hcell, hcS⟩)
  obtain ⟨U, L', c', n'⟩ := B'
  dsimp only [Pt.U, Pt.locs, Pt.cells, Pt.slots] at x2 hU hL hCe hSl st0
  subst hL hCe hSl x3
  have hsz2 := traceHolder_size_le cO hli
  have hlt : a < h.size := (Array.getElem?_eq_some_iff.mp e1).1
  have hheap : U.heap = (h.push (traceHolder cO lines)).setIfInBounds a (Jvm.Free.Str.filledOn TT.toThrowableT fB fD cell ⟨u, hur⟩ T.heap.size lines.length.toInt32) := by rw [hU, ← eT]; rfl
  have hself : U.heap[a]? = some (Jvm.Free.Str.filledOn TT.toThrowableT fB fD cell ⟨u, hur⟩ T.heap.size lines.length.toInt32) := by
    rw [hheap, Array.getElem?_setIfInBounds, if_pos rfl, if_pos (by rw [Array.size_push]; exact Nat.lt_succ_of_lt hlt)]
  have hoth : ∀ (x : Addr) (cx : Cell), h[x]? = some cx → x ≠ a → U.heap[x]? = some cx := fun x cx q ne => by
    have hl' : x < h.size := (Array.getElem?_eq_some_iff.mp q).1
    rw [hheap, Array.getElem?_setIfInBounds, if_neg (Ne.symm ne), Array.getElem?_push, if_neg (Nat.ne_of_lt hl')]; exact q
  have KK : Keep h U.heap [a] := by
    refine ⟨by rw [hheap, Array.size_setIfInBounds, Array.size_push]; omega, fun x cx q ne => hoth x cx q (by simpa using ne), fun x cx q => ?_⟩
    by_cases ex : x = a
    · subst ex
      cases e1.symm.trans q
      exact ⟨_, hself, rfl, rfl, by simp [Jvm.Free.Str.filledOn, Cell.setSlot]⟩
    · exact ⟨cx, hoth x cx q ex, rfl, rfl, rfl⟩
  have FM : ∀ v, Fld Z h a Bundle.tN "detailMessage" "Ljava/lang/String;" v → Fld Z U.heap a Bundle.tN "detailMessage" "Ljava/lang/String;" v := fun v F => by
    obtain ⟨c6, cf6, kf6, i6, f6, m1, m2, m3, m4, m5, m6, m7⟩ := F
    cases e1.symm.trans m1
    obtain ⟨qM, -⟩ := found_at hZ m2 ffM
    subst qM
    exact ⟨_, cf6, kf6, i6, fM, hself, m2, m3, m4, m5, m6, by
      simp only [Jvm.Free.Str.filledOn, Cell.setSlot, Array.getElem?_setIfInBounds]
      rw [if_neg (Ne.symm mS), if_neg (Ne.symm mD), if_neg (Ne.symm mB)]; exact m7⟩
  obtain ⟨t, o, hs, r⟩ := K U.heap KK FM p e s m args below meth c U _ vm hxe hby hml hret hnm hlk hZ hown (x2.mono (Nat.le_refl _) (by show slots + _ ≤ slots + 2752; omega)) rfl (N'.app fun y hy => by
    simp only [List.mem_cons, List.not_mem_nil, or_false] at hy
    rcases hy with rfl | rfl | rfl <;> exact ge) (hH.keep hZ KK (allS ⟨ge, Sf.exa E hr1 hr2⟩ all0))
  exact ⟨t, o, st0.trans (by subst hp; exact hs), r⟩
end Fill
/-- the words of a chain of constructors, laid flat -/
def chainAtoms (k : Nat) (rc : String) : List Jvm.Free.Exc.Link → List Jvm.Cond
  | [] => .code (Jvm.Free.Exc.ctor k "java/lang/Throwable") (Jvm.Free.Exc.topCode k) (k + 1) none :: .fieldLink "java/lang/Throwable" 31 "java/lang/Throwable" "detailMessage" "Ljava/lang/String;" :: Jvm.Free.Exc.excAtoms rc
  | x :: r => .code (Jvm.Free.Exc.ctor k x.1) x.2.2 (k + 1) none :: .initialized x.1 :: .methodLink x.1 x.2.1 (Jvm.Free.Exc.ctor k (Jvm.Free.Exc.headName r)) :: .instanceMethod (Jvm.Free.Exc.ctor k (Jvm.Free.Exc.headName r)) :: chainAtoms k rc r
theorem chain_of {k : Nat} {rc : String} {a0 : Array Value} {Z : State} : ∀ links : List Jvm.Free.Exc.Link, (∀ d ∈ chainAtoms k rc links, d.before a0 Z = true) → (Jvm.Free.Exc.chainTab k rc links).before a0 Z = true
  | [], h => conj_of h
  | x :: r, h => conj_of fun d hd => by
    simp only [List.mem_cons, List.not_mem_nil, or_false] at hd
    rcases hd with rfl | rfl | rfl | rfl | rfl
    · exact h _ (List.mem_cons_self)
    · exact h _ (List.mem_cons_of_mem _ List.mem_cons_self)
    · exact h _ (List.mem_cons_of_mem _ (List.mem_cons_of_mem _ List.mem_cons_self))
    · exact h _ (List.mem_cons_of_mem _ (List.mem_cons_of_mem _ (List.mem_cons_of_mem _ List.mem_cons_self)))
    · exact chain_of r fun d hd => h d (List.mem_cons_of_mem _ (List.mem_cons_of_mem _ (List.mem_cons_of_mem _ (List.mem_cons_of_mem _ hd))))
theorem mk_of {s : State} (h : (s.vm.classes.all fun k => match k.cf with | some cf => k.methods.size == cf.methods.size | none => true) = true) : s.vm.MethodsKnown := fun m x hx => by
  obtain ⟨k, hk, hm⟩ : ∃ k, s.vm.classes[m.cls]? = some k ∧ k.methods[m.idx]? = some x := by
    simp only [Vm.method?, Option.bind_eq_bind, Option.bind_eq_some_iff] at hx
    exact hx
  refine ⟨k, hk, fun cf hcf => ?_⟩
  have q := Array.all_eq_true_iff_forall_mem.mp h k (Array.mem_of_getElem? hk)
  rw [hcf] at q
  have e : k.methods.size = cf.methods.size := by simpa using q
  obtain ⟨hlt, -⟩ := Array.getElem?_eq_some_iff.mp hm
  rw [Array.getElem?_eq_getElem (by omega)]; rfl
end Jvm.OwnKit
namespace Jvm.OwnKit
open Jvm Jvm.ClassFile Sem Op Lib Jvm.Free Jvm.Stand Jvm.LawKit Jvm.RoadKit Bundle
/-- every char from 0 to 255 -/
def Lat (cs : List Int32) : Prop := ∀ c ∈ cs, ¬ c < 0 ∧ ¬ (255 : Int32) < c
/-- the bytes of a Latin-1 text, as values -/
abbrev bv (cs : List Int32) : List Value := (cs.map (fun c => c.toInt8.toInt32)).map Value.int
/-- a compact String with these chars: its array is at t -/
def Str (Z : State) (h : Heap) (a t : Addr) (cs : List Int32) : Prop :=
  Exa Z h a "java/lang/String" ∧ Fld Z h a "java/lang/String" "coder" "B" (.int 0) ∧ Fld Z h a "java/lang/String" "value" "[B" (.ref t) ∧ (∃ kb, Arv Z h t kb .byte (Int32.ofNat cs.length) (bv cs) (.int 0)) ∧ (cs ≠ [] → Exa Z h t "[B")
/-- the object that is returned -/
def refs : Option Value → List Addr
  | some (.ref a) => [a]
  | _ => []
theorem ofNat_in {i n : Nat} (h : i < n) (hn : n < 2 ^ 31) : ¬ Int32.ofNat i < 0 ∧ Int32.ofNat i < Int32.ofNat n := by
  have e1 : (Int32.ofNat i).toInt = i := Int32.toInt_ofNat_of_lt (by omega)
  have e2 : (Int32.ofNat n).toInt = n := Int32.toInt_ofNat_of_lt (by omega)
  have e3 : (0 : Int32).toInt = 0 := rfl
  constructor
  · rw [Int32.lt_iff_toInt_lt, e1, e3]; omega
  · rw [Int32.lt_iff_toInt_lt, e1, e2]; omega
theorem ofNat_nlt {i n : Nat} (h : n ≤ i) (hi : i < 2 ^ 31) : ¬ Int32.ofNat i < Int32.ofNat n := by
  have e1 : (Int32.ofNat i).toInt = i := Int32.toInt_ofNat_of_lt (by omega)
  have e2 : (Int32.ofNat n).toInt = n := Int32.toInt_ofNat_of_lt (by omega)
  rw [Int32.lt_iff_toInt_lt, e1, e2]; omega
theorem ofNat_cl {i : Nat} (h : i < 2 ^ 31) : (Int32.ofNat i).toNatClampNeg = i := Int32.toNatClampNeg_ofNat_of_lt h
theorem getD_map (bs : List Int32) (i : Nat) : (bs.map Value.int).getD i (.int 0) = .int (bs.getD i 0) := by
  simp only [List.getD_eq_getElem?_getD, List.getElem?_map]
  cases bs[i]? <;> rfl
theorem ofNat_sub {i j : Nat} (h : j ≤ i) : Int32.ofNat i - Int32.ofNat j = Int32.ofNat (i - j) := by
  obtain ⟨k, rfl⟩ := Nat.exists_eq_add_of_le h
  rw [Nat.add_sub_cancel_left, Int32.ofNat_add, Int32.add_comm, Int32.add_sub_cancel]
theorem ofNat_add' (i j : Nat) : Int32.ofNat i + Int32.ofNat j = Int32.ofNat (i + j) := (Int32.ofNat_add i j).symm
theorem ofNat_inj' {i j : Nat} (hi : i < 2 ^ 31) (hj : j < 2 ^ 31) (h : Int32.ofNat i = Int32.ofNat j) : i = j := by
  have e1 := ofNat_cl hi
  have e2 := ofNat_cl hj
  rw [h] at e1; omega
/-- the first place of c, from i on; -1 if there is none -/
def idx (c : Int32) : List Int32 → Nat → Int32
  | [], _ => -1
  | b :: bs, i => if b = c then Int32.ofNat i else idx c bs (i + 1)
theorem idx_hit {c : Int32} {bs : List Int32} {i : Nat} (h : i < bs.length) (e : bs.getD i 0 = c) : idx c (bs.drop i) i = Int32.ofNat i := by
  rw [List.drop_eq_getElem_cons h, idx]
  rw [List.getD_eq_getElem?_getD, List.getElem?_eq_getElem h] at e
  exact if_pos e
theorem idx_miss {c : Int32} {bs : List Int32} {i : Nat} (h : i < bs.length) (e : ¬ bs.getD i 0 = c) : idx c (bs.drop i) i = idx c (bs.drop (i + 1)) (i + 1) := by
  rw [List.drop_eq_getElem_cons h, idx]
  rw [List.getD_eq_getElem?_getD, List.getElem?_eq_getElem h] at e
  exact if_neg e
/-- a Latin-1 char and its byte -/
theorem byte_inj {a b : Int32} (ha : ¬ a < 0 ∧ ¬ (255 : Int32) < a) (hb : ¬ b < 0 ∧ ¬ (255 : Int32) < b) (h : a.toInt8.toInt32 = b.toInt8.toInt32) : a = b := by
  have q1 := (c_i2b a).1
  have q2 := (c_i2b b).1
  rw [h] at q1
  have e0 : (0 : Int32).toInt = 0 := rfl
  have e1 : (255 : Int32).toInt = 255 := rfl
  simp only [Int32.lt_iff_toInt_lt, e0, e1] at ha hb
  exact Int32.toInt_inj.mp (by omega)
theorem ofNat_le_of {m i : Nat} (hm : i + 1 < 2 ^ 31) (h : ¬ Int32.ofNat m < Int32.ofNat (i + 1)) : i < m := Classical.byContradiction fun q => h (ofNat_in (by omega) hm).2
theorem mod5 (x : Int32) : ((x &&& (2147483647 : Int32)) % (5 : Int32)) = 0 ∨ ((x &&& (2147483647 : Int32)) % (5 : Int32)) = 1 ∨ ((x &&& (2147483647 : Int32)) % (5 : Int32)) = 2 ∨ ((x &&& (2147483647 : Int32)) % (5 : Int32)) = 3 ∨ ((x &&& (2147483647 : Int32)) % (5 : Int32)) = 4 := by
  have h1 := c_mask x 2147483647 31 (by decide) (by decide)
  have h2 := (c_irem (x &&& (2147483647 : Int32)) 5 5 (by decide)).1 (by rw [h1]; omega)
  simp only [← Int32.toInt_inj]
  have e0 : (0 : Int32).toInt = 0 := rfl
  have e1 : (1 : Int32).toInt = 1 := rfl
  have e2 : (2 : Int32).toInt = 2 := rfl
  have e3 : (3 : Int32).toInt = 3 := rfl
  have e4 : (4 : Int32).toInt = 4 := rfl
  rw [h1] at h2
  omega
theorem tw_get (p : Int32 → Bool) : ∀ (l : List Int32) (i : Nat), i < (l.takeWhile p).length → (l.takeWhile p).getD i 0 = l.getD i 0
  | [], i, h => by simp at h
  | c :: l, i, h => by
    by_cases q : p c = true
    · rw [List.takeWhile_cons_of_pos q] at h ⊢
      cases i with
      | zero => rfl
      | succ i => exact tw_get p l i (by simpa using h)
    · rw [List.takeWhile_cons_of_neg q] at h
      simp at h
theorem tw_len (p : Int32 → Bool) (l : List Int32) : (l.takeWhile p).length ≤ l.length := (List.takeWhile_prefix p).length_le
theorem tw_lat {l : List Int32} (p : Int32 → Bool) (h : Lat l) : Lat (l.takeWhile p) := fun c hc => h c ((List.takeWhile_prefix p).subset hc)
/-- one more than the last place of c below n; 0 if there is none -/
def lp (c : Int32) (bs : List Int32) : Nat → Nat
  | 0 => 0
  | i + 1 => if bs.getD i 0 = c then i + 1 else lp c bs i
theorem lp_le (c : Int32) (bs : List Int32) : ∀ n, lp c bs n ≤ n
  | 0 => Nat.le_refl _
  | i + 1 => by
    rw [lp]; split
    · exact Nat.le_refl _
    · exact Nat.le_succ_of_le (lp_le c bs i)
theorem dec1 (k : Nat) : Int32.ofNat (k + 1) - 1 = Int32.ofNat k := dec_ofNat k
theorem lat_at {cs : List Int32} (h : Lat cs) {i : Nat} (hi : i < cs.length) : ¬ cs.getD i 0 < 0 ∧ ¬ (255 : Int32) < cs.getD i 0 := by
  rw [List.getD_eq_getElem?_getD, List.getElem?_eq_getElem hi]
  exact h _ (List.getElem_mem hi)
/-- the polynomial of the bytes, read without sign -/
def hsh (r : Int32) (bs : List Int32) : Int32 := bs.foldl (fun r b => 31 * r + (b &&& 255)) r
theorem hsh_drop {bs : List Int32} {i : Nat} (h : i < bs.length) (r : Int32) : hsh r (bs.drop i) = hsh (31 * r + (bs.getD i 0 &&& 255)) (bs.drop (i + 1)) := by
  rw [List.drop_eq_getElem_cons h, List.getD_eq_getElem?_getD, List.getElem?_eq_getElem h]
  rfl
theorem ns_root {Z : State} {a0 : Array Value} {O K : String} {n : Nat} (w : (Jvm.Cond.noSuperclass O).before a0 Z = true) (wi : (Jvm.Cond.instantiable K n).before a0 Z = true) (hn : O ≠ K) : NS Z O K := by
  obtain ⟨c, k, h1, h2, h3, -, -⟩ := Cond.noSuperclass_spec w
  obtain ⟨t, kt, g1, -⟩ := Cond.instantiable_spec wi
  have ne := ids_ne h1 g1 hn
  refine ⟨c, t, h1, g1, fun fuel => ?_⟩
  cases fuel with
  | zero => rfl
  | succ f => simp [Vm.isSubclassAux, ne, h2, h3]
theorem ns_no {Z : State} {a0 : Array Value} {C S K : String} {n : Nat} (w : (Jvm.Cond.superclass C S).before a0 Z = true) (wi : (Jvm.Cond.instantiable K n).before a0 Z = true) (nn : NS Z C K) (hn : C ≠ K) : ∃ c t, Z.vm.findClass C = some c ∧ Z.vm.findClass K = some t ∧ Z.vm.assignable c t = false := by
  obtain ⟨c, t, h0, g0, n3⟩ := nn
  obtain ⟨p, k, kp, h1, h2, h3, h4, h5, -, h7⟩ := Cond.superclass_spec h0 w
  obtain ⟨t', kt, g1, g2, g5, g7, -⟩ := Cond.instantiable_spec wi
  cases g0.symm.trans g1
  have ne := ids_ne h0 g0 hn
  have g7' : kt.isInterface = false := by
    rcases Bool.eq_false_or_eq_true kt.isInterface with q | q
    · rw [q] at g7; cases g7
    · exact q
  refine ⟨c, t, h0, g0, ?_⟩
  show Z.vm.assignableAux (255 + 1) c t = false
  simp [Vm.assignableAux, ne, h2, g2, h5, g5, g7', Vm.isSubclass, n3]
/-- a private method is what its own class selects -/
theorem selP {Z : State} {a0 : Array Value} {y : MethodName} {n : Nat} (w : (Jvm.Cond.privateMethod y).before a0 Z = true) (wi : (Jvm.Cond.instanceMethod y).before a0 Z = true) (wn : (Jvm.Cond.instantiable y.cls n).before a0 Z = true) (hx : y.cls ≠ "java/lang/invoke/MethodHandle" ∧ y.cls ≠ "java/lang/invoke/VarHandle") : (Jvm.Cond.selects y.cls y y).before a0 Z = true := by
  obtain ⟨m, meth, hn, hm, -, -⟩ := Cond.instanceMethod_spec wi
  obtain ⟨c, k, hc, hk, -, hi, -, -⟩ := Cond.instantiable_spec wn
  have hp := Cond.privateMethod_at w m meth hn hm
  have hf := State.methodFound?_of_named hn hx
  have hcm := findClass_of_methodNamed hn
  cases hc.symm.trans hcm
  have hi' : k.isInterface = false := by
    rcases Bool.eq_false_or_eq_true k.isInterface with q | q
    · rw [q] at hi; cases hi
    · exact q
  have hs : selectMethod {} Z.vm m.cls m = .method m := selectMethod_private hm hp
  simp [Cond.before, Cond.holds, Cond.value, hc, hf, hn, hs, hk, hi']
/-- likewise, out of what another class selects -/
theorem selP2 {Z : State} {a0 : Array Value} {y : MethodName} {C : String} (w : (Jvm.Cond.privateMethod y).before a0 Z = true) (wi : (Jvm.Cond.instanceMethod y).before a0 Z = true) (ws : (Jvm.Cond.selects C y y).before a0 Z = true) (hx : y.cls ≠ "java/lang/invoke/MethodHandle" ∧ y.cls ≠ "java/lang/invoke/VarHandle") : (Jvm.Cond.selects y.cls y y).before a0 Z = true := by
  obtain ⟨m, meth, hn, hm, -, -⟩ := Cond.instanceMethod_spec wi
  obtain ⟨c2, r2, m2, -, -, q3, -, k, hk, hi⟩ := Cond.selects_spec ws
  cases hn.symm.trans q3
  have hp := Cond.privateMethod_at w m meth hn hm
  have hf := State.methodFound?_of_named hn hx
  have hcm := findClass_of_methodNamed hn
  have hs : selectMethod {} Z.vm m.cls m = .method m := selectMethod_private hm hp
  simp [Cond.before, Cond.holds, Cond.value, hcm, hf, hn, hs, hk, hi]
/-- a method is the one that its own class has -/
theorem sameM {Z : State} {a0 : Array Value} {y x' y' : MethodName} {C : String} (wi : (Jvm.Cond.instanceMethod y).before a0 Z = true) (ws : (Jvm.Cond.selects C x' y').before a0 Z = true) (hc : y'.cls = y.cls) (hx : y.cls ≠ "java/lang/invoke/MethodHandle" ∧ y.cls ≠ "java/lang/invoke/VarHandle") : (Jvm.Cond.sameMethod y.cls y.cls y.name y.desc).before a0 Z = true := by
  obtain ⟨m, meth, hn, hm, -, -⟩ := Cond.instanceMethod_spec wi
  have hf := State.methodFound?_of_named hn hx
  have hcm := findClass_of_methodNamed hn
  obtain ⟨c2, r2, m2, -, -, q3, -, k, hk, hi⟩ := Cond.selects_spec ws
  have hcm2 := findClass_of_methodNamed q3
  rw [hc] at hcm2
  have e := Option.some.inj (hcm2.symm.trans hcm)
  rw [e] at hk
  simp [Cond.before, Cond.holds, Cond.value, hcm, hf, hn, hk, hi]
section Str
variable {Z : State} {h h' : Heap} {a t x : Addr} {cs : List Int32} {ws : List Addr} {sl : Nat} {v : Value} {a0 : Array Value}
theorem Str.exa (F : Str Z h a t cs) : Exa Z h a "java/lang/String" := F.1
theorem Str.coder (F : Str Z h a t cs) : Fld Z h a "java/lang/String" "coder" "B" (.int 0) := F.2.1
theorem Str.value (F : Str Z h a t cs) : Fld Z h a "java/lang/String" "value" "[B" (.ref t) := F.2.2.1
theorem Str.arv (F : Str Z h a t cs) : ∃ kb, Arv Z h t kb .byte (Int32.ofNat cs.length) (bv cs) (.int 0) := F.2.2.2.1
theorem Str.lt (F : Str Z h a t cs) : a < h.size := F.1.lt
theorem Str.ltB (F : Str Z h a t cs) : t < h.size := by obtain ⟨kb, K⟩ := F.arv; exact K.lt
theorem Str.ext (E : Ext h h') (F : Str Z h a t cs) : Str Z h' a t cs := by
  obtain ⟨f1, f2, f3, ⟨kb, f4⟩, f5⟩ := F
  exact ⟨f1.ext E, f2.ext E, f3.ext E, ⟨kb, f4.ext E⟩, fun q => (f5 q).ext E⟩
theorem Str.keep (F : Str Z h a t cs) (K : Keep h h' ws) (q1 : a ∉ ws) (q2 : t ∉ ws) : Str Z h' a t cs := by
  obtain ⟨f1, f2, f3, ⟨kb, f4⟩, f5⟩ := F
  exact ⟨f1.keep K, f2.keep K q1, f3.keep K q1, ⟨kb, f4.keep K q2⟩, fun q => (f5 q).keep K⟩
theorem Str.other (W : Wr h h' x sl v) (F : Str Z h a t cs) (q1 : a ≠ x) (q2 : t ≠ x) : Str Z h' a t cs := F.keep (Keep.of_wr W) (ninS q1 nin0) (ninS q2 nin0)
/-- its array is no such object -/
theorem Str.neB {C : String} {n : Nat} (F : Str Z h a t cs) (E : Exa Z h x C) (w : (Jvm.Cond.instantiable C n).before a0 Z = true) : t ≠ x := by
  obtain ⟨kb, K⟩ := F.arv
  exact (E.neArv K w).symm
theorem Exa.bytes {kb : ClassId} {n : Int32} {vs : List Value} {dv : Value} (K : Arv Z h t kb .byte n vs dv) (hk : Z.vm.findClass "[B" = some kb) : Exa Z h t "[B" := by
  obtain ⟨c, A, q, -⟩ := K
  obtain ⟨A1, ⟨p1, k, p2, comp, p3⟩, A3⟩ := id A
  exact ⟨c, k, A1, by rw [q]; exact hk, p2, A.plain, fun o => by rw [o] at p3; cases p3⟩
end Str
end Jvm.OwnKit
namespace Jvm.OwnKit
open Jvm Jvm.ClassFile Sem Op Lib Jvm.Free Jvm.Stand Jvm.LawKit Jvm.RoadKit Bundle
/-- every char from 0 to 65535 -/
def Uni (cs : List Int32) : Prop := ∀ c ∈ cs, ¬ c < 0 ∧ ¬ (65535 : Int32) < c
/-- the two bytes of a char, the low one first -/
abbrev loB (c : Int32) : Int32 := (c >>> ((0 : Int32) &&& 31)).toInt8.toInt32
abbrev hiB (c : Int32) : Int32 := (c >>> ((8 : Int32) &&& 31)).toInt8.toInt32
abbrev joinB (b0 b1 : Int32) : Int32 := (((b0 &&& (255 : Int32)) <<< ((0 : Int32) &&& 31)) ||| ((b1 &&& (255 : Int32)) <<< ((8 : Int32) &&& 31))).toUInt32.toUInt16.toUInt32.toInt32
def ubv : List Int32 → List Value
  | [] => []
  | c :: cs => .int (loB c) :: .int (hiB c) :: ubv cs
theorem toInt_in {c m : Int32} {k : Int} (hm : m.toInt = k) (h : ¬ c < 0 ∧ ¬ m < c) : 0 ≤ c.toInt ∧ c.toInt ≤ k := by
  have e0 : (0 : Int32).toInt = 0 := rfl
  simp only [Int32.lt_iff_toInt_lt, e0, hm] at h
  omega
theorem joinB_eq {c : Int32} (h : ¬ c < 0 ∧ ¬ (65535 : Int32) < c) : joinB (loB c) (hiB c) = c := by
  have hc := toInt_in (k := 65535) rfl h
  have a1 := c_ishr c 0 0 rfl
  have a2 := c_ishr c 8 8 rfl
  have b1 := c_i2b (c >>> ((0 : Int32) &&& 31))
  have b2 := c_i2b (c >>> ((8 : Int32) &&& 31))
  have m1 := c_mask (loB c) 255 8 (by decide) rfl
  have m2 := c_mask (hiB c) 255 8 (by decide) rfl
  have s1 := c_ishl (loB c &&& (255 : Int32)) 0 0 rfl
  have s2 := c_ishl (hiB c &&& (255 : Int32)) 8 8 rfl
  have r1 := rng32 ((loB c &&& (255 : Int32)) <<< ((0 : Int32) &&& 31))
  have r2 := rng32 ((hiB c &&& (255 : Int32)) <<< ((8 : Int32) &&& 31))
  have o := c_or' ((loB c &&& (255 : Int32)) <<< ((0 : Int32) &&& 31)) ((hiB c &&& (255 : Int32)) <<< ((8 : Int32) &&& 31)) 8 (by decide) 256 rfl
  have i := c_i2c (((loB c &&& (255 : Int32)) <<< ((0 : Int32) &&& 31)) ||| ((hiB c &&& (255 : Int32)) <<< ((8 : Int32) &&& 31)))
  have p0 : ((2 ^ 0 : Nat) : Int) = 1 := rfl
  have p8 : ((2 ^ 8 : Nat) : Int) = 256 := rfl
  rw [p0] at a1 s1
  rw [p8] at a2 m1 m2 s2
  apply Int32.toInt_inj.mp
  simp only [joinB, loB, hiB] at *
  omega
theorem shl1 {n : Nat} (h : n < 2 ^ 30) : (Int32.ofNat n) <<< ((1 : Int32) &&& 31) = Int32.ofNat (2 * n) := by
  have a := c_ishl (Int32.ofNat n) 1 1 rfl
  have e1 : (Int32.ofNat n).toInt = n := Int32.toInt_ofNat_of_lt (by omega)
  have e2 : (Int32.ofNat (2 * n)).toInt = (2 * n : Nat) := Int32.toInt_ofNat_of_lt (by omega)
  have p1 : ((2 ^ 1 : Nat) : Int) = 2 := rfl
  have r := rng32 ((Int32.ofNat n) <<< ((1 : Int32) &&& 31))
  rw [p1] at a
  apply Int32.toInt_inj.mp
  omega
theorem shr1 {n : Nat} (h : n < 2 ^ 30) : (Int32.ofNat (2 * n)) >>> ((1 : Int32) &&& 31) = Int32.ofNat n := by
  have a := c_ishr (Int32.ofNat (2 * n)) 1 1 rfl
  have e1 : (Int32.ofNat n).toInt = n := Int32.toInt_ofNat_of_lt (by omega)
  have e2 : (Int32.ofNat (2 * n)).toInt = (2 * n : Nat) := Int32.toInt_ofNat_of_lt (by omega)
  have p1 : ((2 ^ 1 : Nat) : Int) = 2 := rfl
  rw [p1] at a
  apply Int32.toInt_inj.mp
  omega
theorem nar_i2b (x : Int32) : nar .byte x.toInt8.toInt32 = x.toInt8.toInt32 := by
  show x.toInt8.toInt32.toInt8.toInt32 = _
  rw [Int8.toInt8_toInt32]
theorem nar_uni {c : Int32} (h : ¬ c < 0 ∧ ¬ (65535 : Int32) < c) : nar .char c = c := by
  have hc := toInt_in (k := 65535) rfl h
  have i := c_i2c c
  show c.toUInt32.toUInt16.toUInt32.toInt32 = c
  apply Int32.toInt_inj.mp
  omega
theorem Lat.uni {cs : List Int32} (h : Lat cs) : Uni cs := fun c hc => by
  have q := toInt_in (k := 255) rfl (h c hc)
  have e0 : (0 : Int32).toInt = 0 := rfl
  have e1 : (65535 : Int32).toInt = 65535 := rfl
  simp only [Int32.lt_iff_toInt_lt, e0, e1]
  omega
theorem i2c_uni (x : Int32) : ¬ x.toUInt32.toUInt16.toUInt32.toInt32 < 0 ∧ ¬ (65535 : Int32) < x.toUInt32.toUInt16.toUInt32.toInt32 := by
  have i := c_i2c x
  have e0 : (0 : Int32).toInt = 0 := rfl
  have e1 : (65535 : Int32).toInt = 65535 := rfl
  simp only [Int32.lt_iff_toInt_lt, e0, e1]
  omega
theorem ub_len (cs : List Int32) : (ubv cs).length = 2 * cs.length := by
  induction cs with
  | nil => rfl
  | cons c cs ih => simp only [ubv, List.length_cons, ih]; omega
theorem ub_app (cs ds : List Int32) : ubv (cs ++ ds) = ubv cs ++ ubv ds := by
  induction cs with
  | nil => rfl
  | cons c cs ih => simp [ubv, ih]
theorem ub_at (cs : List Int32) : ∀ i, i < cs.length → (ubv cs).getD (2 * i) (.int 0) = .int (loB (cs.getD i 0)) ∧ (ubv cs).getD (2 * i + 1) (.int 0) = .int (hiB (cs.getD i 0)) := by
  induction cs with
  | nil => intro i h; simp at h
  | cons c cs ih =>
    intro i h
    cases i with
    | zero => exact ⟨rfl, rfl⟩
    | succ i =>
      have q := ih i (by simpa using h)
      rw [show 2 * (i + 1) = 2 * i + 2 by omega]
      simpa [ubv] using q
theorem uni_at {cs : List Int32} (h : Uni cs) {i : Nat} (hi : i < cs.length) : ¬ cs.getD i 0 < 0 ∧ ¬ (65535 : Int32) < cs.getD i 0 := by
  rw [List.getD_eq_getElem?_getD, List.getElem?_eq_getElem hi]
  exact h _ (List.getElem_mem hi)
/-- two bytes more -/
theorem ub_set (cs : List Int32) (c : Int32) (n : Nat) : (((ubv cs ++ List.replicate (n + 2) (Value.int 0)).set (2 * cs.length) (.int (loB c))).set (2 * cs.length + 1) (.int (hiB c))) = ubv (cs ++ [c]) ++ List.replicate n (Value.int 0) := by
  have e := ub_len cs
  rw [List.set_append_right _ _ (by omega), show 2 * cs.length - (ubv cs).length = 0 by omega]
  rw [show List.replicate (n + 2) (Value.int 0) = .int 0 :: .int 0 :: List.replicate n (Value.int 0) from rfl, List.set_cons_zero]
  rw [List.set_append_right _ _ (by omega), show 2 * cs.length + 1 - (ubv cs).length = 1 by omega]
  rw [List.set_cons_succ, List.set_cons_zero, ub_app]
  simp [ubv]
/-- a compact String with these chars: no word on its array's class -/
def StrL (Z : State) (h : Heap) (a t : Addr) (cs : List Int32) : Prop :=
  Exa Z h a "java/lang/String" ∧ Fld Z h a "java/lang/String" "coder" "B" (.int 0) ∧ Fld Z h a "java/lang/String" "value" "[B" (.ref t) ∧ ∃ kb, Arv Z h t kb .byte (Int32.ofNat cs.length) (bv cs) (.int 0)
section StrL
variable {Z : State} {h h' : Heap} {a t x : Addr} {cs : List Int32} {ws : List Addr} {sl : Nat} {v : Value} {a0 : Array Value}
theorem Str.toL (F : Str Z h a t cs) : StrL Z h a t cs := ⟨F.exa, F.coder, F.value, F.arv⟩
theorem StrL.exa (F : StrL Z h a t cs) : Exa Z h a "java/lang/String" := F.1
theorem StrL.coder (F : StrL Z h a t cs) : Fld Z h a "java/lang/String" "coder" "B" (.int 0) := F.2.1
theorem StrL.value (F : StrL Z h a t cs) : Fld Z h a "java/lang/String" "value" "[B" (.ref t) := F.2.2.1
theorem StrL.arv (F : StrL Z h a t cs) : ∃ kb, Arv Z h t kb .byte (Int32.ofNat cs.length) (bv cs) (.int 0) := F.2.2.2
theorem StrL.lt (F : StrL Z h a t cs) : a < h.size := F.1.lt
theorem StrL.ltB (F : StrL Z h a t cs) : t < h.size := by obtain ⟨kb, K⟩ := F.arv; exact K.lt
theorem StrL.ext (E : Ext h h') (F : StrL Z h a t cs) : StrL Z h' a t cs := by
  obtain ⟨f1, f2, f3, kb, f4⟩ := F
  exact ⟨f1.ext E, f2.ext E, f3.ext E, kb, f4.ext E⟩
theorem StrL.keep (F : StrL Z h a t cs) (K : Keep h h' ws) (q1 : a ∉ ws) (q2 : t ∉ ws) : StrL Z h' a t cs := by
  obtain ⟨f1, f2, f3, kb, f4⟩ := F
  exact ⟨f1.keep K, f2.keep K q1, f3.keep K q1, kb, f4.keep K q2⟩
theorem StrL.other (W : Wr h h' x sl v) (F : StrL Z h a t cs) (q1 : a ≠ x) (q2 : t ≠ x) : StrL Z h' a t cs := F.keep (Keep.of_wr W) (ninS q1 nin0) (ninS q2 nin0)
theorem StrL.neB {C : String} {n : Nat} (F : StrL Z h a t cs) (E : Exa Z h x C) (w : (Jvm.Cond.instantiable C n).before a0 Z = true) : t ≠ x := by
  obtain ⟨kb, K⟩ := F.arv
  exact (E.neArv K w).symm
end StrL
/-- a wide String with these chars -/
def StrU (Z : State) (h : Heap) (a t : Addr) (cs : List Int32) : Prop :=
  Exa Z h a "java/lang/String" ∧ Fld Z h a "java/lang/String" "coder" "B" (.int 1) ∧ Fld Z h a "java/lang/String" "value" "[B" (.ref t) ∧ (∃ kb, Arv Z h t kb .byte (Int32.ofNat (2 * cs.length)) (ubv cs) (.int 0)) ∧ Exa Z h t "[B"
section StrU
variable {Z : State} {h h' : Heap} {a t x : Addr} {cs : List Int32} {ws : List Addr} {sl : Nat} {v : Value} {a0 : Array Value}
theorem StrU.exa (F : StrU Z h a t cs) : Exa Z h a "java/lang/String" := F.1
theorem StrU.coder (F : StrU Z h a t cs) : Fld Z h a "java/lang/String" "coder" "B" (.int 1) := F.2.1
theorem StrU.value (F : StrU Z h a t cs) : Fld Z h a "java/lang/String" "value" "[B" (.ref t) := F.2.2.1
theorem StrU.arv (F : StrU Z h a t cs) : ∃ kb, Arv Z h t kb .byte (Int32.ofNat (2 * cs.length)) (ubv cs) (.int 0) := F.2.2.2.1
theorem StrU.lt (F : StrU Z h a t cs) : a < h.size := F.1.lt
theorem StrU.ltB (F : StrU Z h a t cs) : t < h.size := by obtain ⟨kb, K⟩ := F.arv; exact K.lt
theorem StrU.ext (E : Ext h h') (F : StrU Z h a t cs) : StrU Z h' a t cs := by
  obtain ⟨f1, f2, f3, ⟨kb, f4⟩, f5⟩ := F
  exact ⟨f1.ext E, f2.ext E, f3.ext E, ⟨kb, f4.ext E⟩, f5.ext E⟩
theorem StrU.keep (F : StrU Z h a t cs) (K : Keep h h' ws) (q1 : a ∉ ws) (q2 : t ∉ ws) : StrU Z h' a t cs := by
  obtain ⟨f1, f2, f3, ⟨kb, f4⟩, f5⟩ := F
  exact ⟨f1.keep K, f2.keep K q1, f3.keep K q1, ⟨kb, f4.keep K q2⟩, f5.keep K⟩
theorem StrU.other (W : Wr h h' x sl v) (F : StrU Z h a t cs) (q1 : a ≠ x) (q2 : t ≠ x) : StrU Z h' a t cs := F.keep (Keep.of_wr W) (ninS q1 nin0) (ninS q2 nin0)
theorem StrU.neB {C : String} {n : Nat} (F : StrU Z h a t cs) (E : Exa Z h x C) (w : (Jvm.Cond.instantiable C n).before a0 Z = true) : t ≠ x := by
  obtain ⟨kb, K⟩ := F.arv
  exact (E.neArv K w).symm
end StrU
/-- a String with these chars, as either coder has it -/
def StrG (Z : State) (h : Heap) (a t : Addr) (cs : List Int32) : Prop := (Lat cs ∧ StrL Z h a t cs) ∨ (Uni cs ∧ StrU Z h a t cs)
section StrG
variable {Z : State} {h h' : Heap} {a t x : Addr} {cs : List Int32} {ws : List Addr} {sl : Nat} {v : Value} {a0 : Array Value}
theorem StrG.uni (F : StrG Z h a t cs) : Uni cs := by rcases F with ⟨p, -⟩ | ⟨p, -⟩; exact p.uni; exact p
theorem StrG.exa (F : StrG Z h a t cs) : Exa Z h a "java/lang/String" := by rcases F with ⟨-, p⟩ | ⟨-, p⟩; exact p.exa; exact p.exa
theorem StrG.value (F : StrG Z h a t cs) : Fld Z h a "java/lang/String" "value" "[B" (.ref t) := by rcases F with ⟨-, p⟩ | ⟨-, p⟩; exact p.value; exact p.value
theorem StrG.lt (F : StrG Z h a t cs) : a < h.size := F.exa.lt
theorem StrG.ltB (F : StrG Z h a t cs) : t < h.size := by rcases F with ⟨-, p⟩ | ⟨-, p⟩; exact p.ltB; exact p.ltB
theorem StrG.ext (E : Ext h h') (F : StrG Z h a t cs) : StrG Z h' a t cs := by rcases F with ⟨q, p⟩ | ⟨q, p⟩; exact .inl ⟨q, p.ext E⟩; exact .inr ⟨q, p.ext E⟩
theorem StrG.keep (F : StrG Z h a t cs) (K : Keep h h' ws) (q1 : a ∉ ws) (q2 : t ∉ ws) : StrG Z h' a t cs := by rcases F with ⟨q, p⟩ | ⟨q, p⟩; exact .inl ⟨q, p.keep K q1 q2⟩; exact .inr ⟨q, p.keep K q1 q2⟩
theorem StrG.other (W : Wr h h' x sl v) (F : StrG Z h a t cs) (q1 : a ≠ x) (q2 : t ≠ x) : StrG Z h' a t cs := F.keep (Keep.of_wr W) (ninS q1 nin0) (ninS q2 nin0)
theorem StrG.neB {C : String} {n : Nat} (F : StrG Z h a t cs) (E : Exa Z h x C) (w : (Jvm.Cond.instantiable C n).before a0 Z = true) : t ≠ x := by rcases F with ⟨-, p⟩ | ⟨-, p⟩; exact p.neB E w; exact p.neB E w
end StrG
end Jvm.OwnKit
namespace Jvm.Pilot.@@N@@
open Jvm Jvm.ClassFile Sem Op Lib Jvm.Free Jvm.Stand Jvm.LawKit Jvm.RoadKit Jvm.OwnKit Bundle Jvm.Pilot.@@N@@.Jvm.D
theorem wd0 {Z : State} {a0 : Array Value} (hw : ∀ d ∈ tables_1, d.before a0 Z = true) : (Jvm.Cond.methodLink "com/example/fate_of_jobs/fateofjobs/conformance/CaseFormatExceptionWithinPinLaw" (19 : Nat) ({ cls := "com/example/fate_of_jobs/fateofjobs/conformance/CaseFormatExceptionWithinPinLaw", name := "mk", desc := "(II)Ljava/lang/String;" } : Jvm.MethodName)).before a0 Z = true := hw _ (List.mem_of_getElem? (i := 0) rfl)
theorem wd1 {Z : State} {a0 : Array Value} (hw : ∀ d ∈ tables_1, d.before a0 Z = true) : (Jvm.Cond.static ({ cls := "com/example/fate_of_jobs/fateofjobs/conformance/CaseFormatExceptionWithinPinLaw", name := "mk", desc := "(II)Ljava/lang/String;" } : Jvm.MethodName)).before a0 Z = true := hw _ (List.mem_of_getElem? (i := 1) rfl)
theorem wd2 {Z : State} {a0 : Array Value} (hw : ∀ d ∈ tables_1, d.before a0 Z = true) : (Jvm.Cond.initialized "com/example/fate_of_jobs/fateofjobs/conformance/CaseFormatExceptionWithinPinLaw").before a0 Z = true := hw _ (List.mem_of_getElem? (i := 2) rfl)
theorem wd3 {Z : State} {a0 : Array Value} (hw : ∀ d ∈ tables_1, d.before a0 Z = true) : (Jvm.Cond.code ({ cls := "com/example/fate_of_jobs/fateofjobs/conformance/CaseFormatExceptionWithinPinLaw", name := "mk", desc := "(II)Ljava/lang/String;" } : Jvm.MethodName) method_2_code (2 : Nat) (Option.some (Jvm.ClassFile.FieldType.object "java/lang/String"))).before a0 Z = true := hw _ (List.mem_of_getElem? (i := 3) rfl)
theorem wd4 {Z : State} {a0 : Array Value} (hw : ∀ d ∈ tables_1, d.before a0 Z = true) : (Jvm.Cond.classLink "com/example/fate_of_jobs/fateofjobs/conformance/CaseFormatExceptionWithinPinLaw" (11 : Nat) "java/lang/String").before a0 Z = true := hw _ (List.mem_of_getElem? (i := 4) rfl)
theorem wd5 {Z : State} {a0 : Array Value} (hw : ∀ d ∈ tables_1, d.before a0 Z = true) : (Jvm.Cond.instantiable "java/lang/String" (4 : Nat)).before a0 Z = true := hw _ (List.mem_of_getElem? (i := 5) rfl)
theorem wd6 {Z : State} {a0 : Array Value} (hw : ∀ d ∈ tables_1, d.before a0 Z = true) : (Jvm.Cond.initialized "java/lang/String").before a0 Z = true := hw _ (List.mem_of_getElem? (i := 6) rfl)
theorem wd7 {Z : State} {a0 : Array Value} (hw : ∀ d ∈ tables_1, d.before a0 Z = true) : (Jvm.Cond.arrayClass Jvm.ClassFile.FieldType.char).before a0 Z = true := hw _ (List.mem_of_getElem? (i := 7) rfl)
theorem wd8 {Z : State} {a0 : Array Value} (hw : ∀ d ∈ tables_1, d.before a0 Z = true) : (Jvm.Cond.constant "com/example/fate_of_jobs/fateofjobs/conformance/CaseFormatExceptionWithinPinLaw" (9 : Nat) (65535 : Int32)).before a0 Z = true := hw _ (List.mem_of_getElem? (i := 8) rfl)
theorem wd9 {Z : State} {a0 : Array Value} (hw : ∀ d ∈ tables_1, d.before a0 Z = true) : (Jvm.Cond.methodLink "com/example/fate_of_jobs/fateofjobs/conformance/CaseFormatExceptionWithinPinLaw" (16 : Nat) ({ cls := "java/lang/String", name := "<init>", desc := "([C)V" } : Jvm.MethodName)).before a0 Z = true := hw _ (List.mem_of_getElem? (i := 9) rfl)
theorem wd10 {Z : State} {a0 : Array Value} (hw : ∀ d ∈ tables_1, d.before a0 Z = true) : (Jvm.Cond.instanceMethod ({ cls := "java/lang/String", name := "<init>", desc := "([C)V" } : Jvm.MethodName)).before a0 Z = true := hw _ (List.mem_of_getElem? (i := 10) rfl)
theorem wd11 {Z : State} {a0 : Array Value} (hw : ∀ d ∈ tables_1, d.before a0 Z = true) : (Jvm.Cond.code ({ cls := "java/lang/String", name := "<init>", desc := "([C)V" } : Jvm.MethodName) jdk_42_method_3_code (2 : Nat) (Option.none : Option Jvm.ClassFile.FieldType)).before a0 Z = true := hw _ (List.mem_of_getElem? (i := 11) rfl)
theorem wd12 {Z : State} {a0 : Array Value} (hw : ∀ d ∈ tables_1, d.before a0 Z = true) : (Jvm.Cond.methodLink "java/lang/String" (27 : Nat) ({ cls := "java/lang/String", name := "<init>", desc := "([CIILjava/lang/Void;)V" } : Jvm.MethodName)).before a0 Z = true := hw _ (List.mem_of_getElem? (i := 12) rfl)
theorem wd13 {Z : State} {a0 : Array Value} (hw : ∀ d ∈ tables_1, d.before a0 Z = true) : (Jvm.Cond.instanceMethod ({ cls := "java/lang/String", name := "<init>", desc := "([CIILjava/lang/Void;)V" } : Jvm.MethodName)).before a0 Z = true := hw _ (List.mem_of_getElem? (i := 13) rfl)
theorem wd15 {Z : State} {a0 : Array Value} (hw : ∀ d ∈ tables_1, d.before a0 Z = true) : (Jvm.Cond.code ({ cls := "java/lang/String", name := "<init>", desc := "([CIILjava/lang/Void;)V" } : Jvm.MethodName) jdk_42_method_149_code (6 : Nat) (Option.none : Option Jvm.ClassFile.FieldType)).before a0 Z = true := hw _ (List.mem_of_getElem? (i := 15) rfl)
theorem wd16 {Z : State} {a0 : Array Value} (hw : ∀ d ∈ tables_1, d.before a0 Z = true) : (Jvm.Cond.methodLink "java/lang/String" (1 : Nat) ({ cls := "java/lang/Object", name := "<init>", desc := "()V" } : Jvm.MethodName)).before a0 Z = true := hw _ (List.mem_of_getElem? (i := 16) rfl)
theorem wd17 {Z : State} {a0 : Array Value} (hw : ∀ d ∈ tables_1, d.before a0 Z = true) : (Jvm.Cond.instanceMethod ({ cls := "java/lang/Object", name := "<init>", desc := "()V" } : Jvm.MethodName)).before a0 Z = true := hw _ (List.mem_of_getElem? (i := 17) rfl)
theorem wd18 {Z : State} {a0 : Array Value} (hw : ∀ d ∈ tables_1, d.before a0 Z = true) : (Jvm.Cond.code ({ cls := "java/lang/Object", name := "<init>", desc := "()V" } : Jvm.MethodName) object_method_1_code (1 : Nat) (Option.none : Option Jvm.ClassFile.FieldType)).before a0 Z = true := hw _ (List.mem_of_getElem? (i := 18) rfl)
theorem wd19 {Z : State} {a0 : Array Value} (hw : ∀ d ∈ tables_1, d.before a0 Z = true) : (Jvm.Cond.fieldLink "java/lang/String" (38 : Nat) "java/lang/String" "COMPACT_STRINGS" "Z").before a0 Z = true := hw _ (List.mem_of_getElem? (i := 19) rfl)
theorem wd20 {Z : State} {a0 : Array Value} (hw : ∀ d ∈ tables_1, d.before a0 Z = true) : (Jvm.Cond.methodLink "java/lang/String" (177 : Nat) ({ cls := "java/lang/StringUTF16", name := "compress", desc := "([CII)[B" } : Jvm.MethodName)).before a0 Z = true := hw _ (List.mem_of_getElem? (i := 20) rfl)
theorem wd21 {Z : State} {a0 : Array Value} (hw : ∀ d ∈ tables_1, d.before a0 Z = true) : (Jvm.Cond.static ({ cls := "java/lang/StringUTF16", name := "compress", desc := "([CII)[B" } : Jvm.MethodName)).before a0 Z = true := hw _ (List.mem_of_getElem? (i := 21) rfl)
theorem wd22 {Z : State} {a0 : Array Value} (hw : ∀ d ∈ tables_1, d.before a0 Z = true) : (Jvm.Cond.initialized "java/lang/StringUTF16").before a0 Z = true := hw _ (List.mem_of_getElem? (i := 22) rfl)
theorem wd23 {Z : State} {a0 : Array Value} (hw : ∀ d ∈ tables_1, d.before a0 Z = true) : (Jvm.Cond.code ({ cls := "java/lang/StringUTF16", name := "compress", desc := "([CII)[B" } : Jvm.MethodName) jdk_52_method_16_code (6 : Nat) (Option.some (Jvm.ClassFile.FieldType.array Jvm.ClassFile.FieldType.byte))).before a0 Z = true := hw _ (List.mem_of_getElem? (i := 23) rfl)
theorem wd24 {Z : State} {a0 : Array Value} (hw : ∀ d ∈ tables_1, d.before a0 Z = true) : (Jvm.Cond.arrayClass Jvm.ClassFile.FieldType.byte).before a0 Z = true := hw _ (List.mem_of_getElem? (i := 24) rfl)
theorem wd25 {Z : State} {a0 : Array Value} (hw : ∀ d ∈ tables_1, d.before a0 Z = true) : (Jvm.Cond.methodLink "java/lang/StringUTF16" (115 : Nat) ({ cls := "java/lang/StringUTF16", name := "compress", desc := "([CI[BII)I" } : Jvm.MethodName)).before a0 Z = true := hw _ (List.mem_of_getElem? (i := 25) rfl)
theorem wd26 {Z : State} {a0 : Array Value} (hw : ∀ d ∈ tables_1, d.before a0 Z = true) : (Jvm.Cond.static ({ cls := "java/lang/StringUTF16", name := "compress", desc := "([CI[BII)I" } : Jvm.MethodName)).before a0 Z = true := hw _ (List.mem_of_getElem? (i := 26) rfl)
theorem wd27 {Z : State} {a0 : Array Value} (hw : ∀ d ∈ tables_1, d.before a0 Z = true) : (Jvm.Cond.code ({ cls := "java/lang/StringUTF16", name := "compress", desc := "([CI[BII)I" } : Jvm.MethodName) jdk_52_method_21_code (7 : Nat) (Option.some Jvm.ClassFile.FieldType.int)).before a0 Z = true := hw _ (List.mem_of_getElem? (i := 27) rfl)
theorem wd28 {Z : State} {a0 : Array Value} (hw : ∀ d ∈ tables_1, d.before a0 Z = true) : (Jvm.Cond.methodLink "java/lang/String" (47 : Nat) ({ cls := "java/lang/StringUTF16", name := "coderFromArrayLen", desc := "([BI)B" } : Jvm.MethodName)).before a0 Z = true := hw _ (List.mem_of_getElem? (i := 28) rfl)
theorem wd29 {Z : State} {a0 : Array Value} (hw : ∀ d ∈ tables_1, d.before a0 Z = true) : (Jvm.Cond.static ({ cls := "java/lang/StringUTF16", name := "coderFromArrayLen", desc := "([BI)B" } : Jvm.MethodName)).before a0 Z = true := hw _ (List.mem_of_getElem? (i := 29) rfl)
theorem wd30 {Z : State} {a0 : Array Value} (hw : ∀ d ∈ tables_1, d.before a0 Z = true) : (Jvm.Cond.code ({ cls := "java/lang/StringUTF16", name := "coderFromArrayLen", desc := "([BI)B" } : Jvm.MethodName) jdk_52_method_15_code (2 : Nat) (Option.some Jvm.ClassFile.FieldType.byte)).before a0 Z = true := hw _ (List.mem_of_getElem? (i := 30) rfl)
theorem wd31 {Z : State} {a0 : Array Value} (hw : ∀ d ∈ tables_1, d.before a0 Z = true) : (Jvm.Cond.fieldLink "java/lang/String" (15 : Nat) "java/lang/String" "coder" "B").before a0 Z = true := hw _ (List.mem_of_getElem? (i := 31) rfl)
theorem wd32 {Z : State} {a0 : Array Value} (hw : ∀ d ∈ tables_1, d.before a0 Z = true) : (Jvm.Cond.laysFinal "java/lang/String" "java/lang/String" "coder" "B").before a0 Z = true := hw _ (List.mem_of_getElem? (i := 32) rfl)
theorem wd33 {Z : State} {a0 : Array Value} (hw : ∀ d ∈ tables_1, d.before a0 Z = true) : (Jvm.Cond.fieldLink "java/lang/String" (9 : Nat) "java/lang/String" "value" "[B").before a0 Z = true := hw _ (List.mem_of_getElem? (i := 33) rfl)
theorem wd34 {Z : State} {a0 : Array Value} (hw : ∀ d ∈ tables_1, d.before a0 Z = true) : (Jvm.Cond.laysFinal "java/lang/String" "java/lang/String" "value" "[B").before a0 Z = true := hw _ (List.mem_of_getElem? (i := 34) rfl)
theorem wd35 {Z : State} {a0 : Array Value} (hw : ∀ d ∈ tables_1, d.before a0 Z = true) : (Jvm.Cond.stringLink "com/example/fate_of_jobs/fateofjobs/conformance/CaseFormatExceptionWithinPinLaw" (7 : Nat) "").before a0 Z = true := hw _ (List.mem_of_getElem? (i := 35) rfl)
theorem wd38 {Z : State} {a0 : Array Value} (hw : ∀ d ∈ tables_1, d.before a0 Z = true) : (Jvm.Cond.classLink "com/example/fate_of_jobs/fateofjobs/conformance/CaseFormatExceptionWithinPinLaw" (25 : Nat) "com/example/fate_of_jobs/fateofjobs/conformance/CaseFormatException").before a0 Z = true := hw _ (List.mem_of_getElem? (i := 38) rfl)
theorem wd39 {Z : State} {a0 : Array Value} (hw : ∀ d ∈ tables_1, d.before a0 Z = true) : (Jvm.Cond.instantiable "com/example/fate_of_jobs/fateofjobs/conformance/CaseFormatException" (6 : Nat)).before a0 Z = true := hw _ (List.mem_of_getElem? (i := 39) rfl)
theorem wd40 {Z : State} {a0 : Array Value} (hw : ∀ d ∈ tables_1, d.before a0 Z = true) : (Jvm.Cond.initialized "com/example/fate_of_jobs/fateofjobs/conformance/CaseFormatException").before a0 Z = true := hw _ (List.mem_of_getElem? (i := 40) rfl)
theorem wd41 {Z : State} {a0 : Array Value} (hw : ∀ d ∈ tables_1, d.before a0 Z = true) : (Jvm.Cond.methodLink "com/example/fate_of_jobs/fateofjobs/conformance/CaseFormatExceptionWithinPinLaw" (27 : Nat) ({ cls := "com/example/fate_of_jobs/fateofjobs/conformance/CaseFormatException", name := "<init>", desc := "(Ljava/lang/String;)V" } : Jvm.MethodName)).before a0 Z = true := hw _ (List.mem_of_getElem? (i := 41) rfl)
theorem wd42 {Z : State} {a0 : Array Value} (hw : ∀ d ∈ tables_1, d.before a0 Z = true) : (Jvm.Cond.instanceMethod ({ cls := "com/example/fate_of_jobs/fateofjobs/conformance/CaseFormatException", name := "<init>", desc := "(Ljava/lang/String;)V" } : Jvm.MethodName)).before a0 Z = true := hw _ (List.mem_of_getElem? (i := 42) rfl)
theorem wd43 {Z : State} {a0 : Array Value} (hw : ∀ d ∈ tables_1, d.before a0 Z = true) : (Jvm.Cond.code ({ cls := "com/example/fate_of_jobs/fateofjobs/conformance/CaseFormatException", name := "<init>", desc := "(Ljava/lang/String;)V" } : Jvm.MethodName) prog_4_method_1_code (2 : Nat) (Option.none : Option Jvm.ClassFile.FieldType)).before a0 Z = true := hw _ (List.mem_of_getElem? (i := 43) rfl)
theorem wd44 {Z : State} {a0 : Array Value} (hw : ∀ d ∈ tables_1, d.before a0 Z = true) : (Jvm.Cond.methodLink "com/example/fate_of_jobs/fateofjobs/conformance/CaseFormatException" (1 : Nat) ({ cls := "java/lang/Exception", name := "<init>", desc := "(Ljava/lang/String;)V" } : Jvm.MethodName)).before a0 Z = true := hw _ (List.mem_of_getElem? (i := 44) rfl)
theorem wd45 {Z : State} {a0 : Array Value} (hw : ∀ d ∈ tables_1, d.before a0 Z = true) : (Jvm.Cond.instanceMethod ({ cls := "java/lang/Exception", name := "<init>", desc := "(Ljava/lang/String;)V" } : Jvm.MethodName)).before a0 Z = true := hw _ (List.mem_of_getElem? (i := 45) rfl)
theorem wd47 {Z : State} {a0 : Array Value} (hw : ∀ d ∈ tables_1, d.before a0 Z = true) : (Jvm.Cond.initialized "java/lang/Exception").before a0 Z = true := hw _ (List.mem_of_getElem? (i := 47) rfl)
theorem wd48 {Z : State} {a0 : Array Value} (hw : ∀ d ∈ tables_1, d.before a0 Z = true) : (Jvm.Cond.code ({ cls := "java/lang/Exception", name := "<init>", desc := "(Ljava/lang/String;)V" } : Jvm.MethodName) jdk_59_method_2_code (2 : Nat) (Option.none : Option Jvm.ClassFile.FieldType)).before a0 Z = true := hw _ (List.mem_of_getElem? (i := 48) rfl)
theorem wd49 {Z : State} {a0 : Array Value} (hw : ∀ d ∈ tables_1, d.before a0 Z = true) : (Jvm.Cond.methodLink "java/lang/Exception" (7 : Nat) ({ cls := "java/lang/Throwable", name := "<init>", desc := "(Ljava/lang/String;)V" } : Jvm.MethodName)).before a0 Z = true := hw _ (List.mem_of_getElem? (i := 49) rfl)
theorem wd50 {Z : State} {a0 : Array Value} (hw : ∀ d ∈ tables_1, d.before a0 Z = true) : (Jvm.Cond.instanceMethod ({ cls := "java/lang/Throwable", name := "<init>", desc := "(Ljava/lang/String;)V" } : Jvm.MethodName)).before a0 Z = true := hw _ (List.mem_of_getElem? (i := 50) rfl)
theorem wd53 {Z : State} {a0 : Array Value} (hw : ∀ d ∈ tables_1, d.before a0 Z = true) : (Jvm.Cond.initialized "java/lang/Throwable").before a0 Z = true := hw _ (List.mem_of_getElem? (i := 53) rfl)
theorem wd54 {Z : State} {a0 : Array Value} (hw : ∀ d ∈ tables_1, d.before a0 Z = true) : (Jvm.Cond.code ({ cls := "java/lang/Throwable", name := "<init>", desc := "(Ljava/lang/String;)V" } : Jvm.MethodName) jdk_78_method_2_code (2 : Nat) (Option.none : Option Jvm.ClassFile.FieldType)).before a0 Z = true := hw _ (List.mem_of_getElem? (i := 54) rfl)
theorem wd55 {Z : State} {a0 : Array Value} (hw : ∀ d ∈ tables_1, d.before a0 Z = true) : (Jvm.Cond.methodLink "java/lang/Throwable" (1 : Nat) ({ cls := "java/lang/Object", name := "<init>", desc := "()V" } : Jvm.MethodName)).before a0 Z = true := hw _ (List.mem_of_getElem? (i := 55) rfl)
theorem wd56 {Z : State} {a0 : Array Value} (hw : ∀ d ∈ tables_1, d.before a0 Z = true) : (Jvm.Cond.fieldLink "java/lang/Throwable" (7 : Nat) "java/lang/Throwable" "cause" "Ljava/lang/Throwable;").before a0 Z = true := hw _ (List.mem_of_getElem? (i := 56) rfl)
theorem wd57 {Z : State} {a0 : Array Value} (hw : ∀ d ∈ tables_1, d.before a0 Z = true) : (Jvm.Cond.lays "com/example/fate_of_jobs/fateofjobs/conformance/CaseFormatException" "java/lang/Throwable" "cause" "Ljava/lang/Throwable;").before a0 Z = true := hw _ (List.mem_of_getElem? (i := 57) rfl)
theorem wd58 {Z : State} {a0 : Array Value} (hw : ∀ d ∈ tables_1, d.before a0 Z = true) : (Jvm.Cond.fieldLink "java/lang/Throwable" (13 : Nat) "java/lang/Throwable" "UNASSIGNED_STACK" "[Ljava/lang/StackTraceElement;").before a0 Z = true := hw _ (List.mem_of_getElem? (i := 58) rfl)
theorem wd59 {Z : State} {a0 : Array Value} (hw : ∀ d ∈ tables_1, d.before a0 Z = true) : (Jvm.Cond.fieldLink "java/lang/Throwable" (17 : Nat) "java/lang/Throwable" "stackTrace" "[Ljava/lang/StackTraceElement;").before a0 Z = true := hw _ (List.mem_of_getElem? (i := 59) rfl)
theorem wd60 {Z : State} {a0 : Array Value} (hw : ∀ d ∈ tables_1, d.before a0 Z = true) : (Jvm.Cond.lays "com/example/fate_of_jobs/fateofjobs/conformance/CaseFormatException" "java/lang/Throwable" "stackTrace" "[Ljava/lang/StackTraceElement;").before a0 Z = true := hw _ (List.mem_of_getElem? (i := 60) rfl)
theorem wd61 {Z : State} {a0 : Array Value} (hw : ∀ d ∈ tables_1, d.before a0 Z = true) : (Jvm.Cond.fieldLink "java/lang/Throwable" (20 : Nat) "java/lang/Throwable" "SUPPRESSED_SENTINEL" "Ljava/util/List;").before a0 Z = true := hw _ (List.mem_of_getElem? (i := 61) rfl)
theorem wd62 {Z : State} {a0 : Array Value} (hw : ∀ d ∈ tables_1, d.before a0 Z = true) : (Jvm.Cond.fieldLink "java/lang/Throwable" (24 : Nat) "java/lang/Throwable" "suppressedExceptions" "Ljava/util/List;").before a0 Z = true := hw _ (List.mem_of_getElem? (i := 62) rfl)
theorem wd63 {Z : State} {a0 : Array Value} (hw : ∀ d ∈ tables_1, d.before a0 Z = true) : (Jvm.Cond.lays "com/example/fate_of_jobs/fateofjobs/conformance/CaseFormatException" "java/lang/Throwable" "suppressedExceptions" "Ljava/util/List;").before a0 Z = true := hw _ (List.mem_of_getElem? (i := 63) rfl)
theorem wd64 {Z : State} {a0 : Array Value} (hw : ∀ d ∈ tables_1, d.before a0 Z = true) : (Jvm.Cond.methodLink "java/lang/Throwable" (27 : Nat) ({ cls := "java/lang/Throwable", name := "fillInStackTrace", desc := "()Ljava/lang/Throwable;" } : Jvm.MethodName)).before a0 Z = true := hw _ (List.mem_of_getElem? (i := 64) rfl)
theorem wd87 {Z : State} {a0 : Array Value} (hw : ∀ d ∈ tables_1, d.before a0 Z = true) : (Jvm.Cond.lays "com/example/fate_of_jobs/fateofjobs/conformance/CaseFormatException" "java/lang/Throwable" "detailMessage" "Ljava/lang/String;").before a0 Z = true := hw _ (List.mem_of_getElem? (i := 87) rfl)
theorem wd88 {Z : State} {a0 : Array Value} (hw : ∀ d ∈ tables_1, d.before a0 Z = true) : (Jvm.Cond.lays "com/example/fate_of_jobs/fateofjobs/conformance/CaseFormatException" "java/lang/Throwable" "backtrace" "Ljava/lang/Object;").before a0 Z = true := hw _ (List.mem_of_getElem? (i := 88) rfl)
theorem wd89 {Z : State} {a0 : Array Value} (hw : ∀ d ∈ tables_1, d.before a0 Z = true) : (Jvm.Cond.lays "com/example/fate_of_jobs/fateofjobs/conformance/CaseFormatException" "java/lang/Throwable" "depth" "I").before a0 Z = true := hw _ (List.mem_of_getElem? (i := 89) rfl)
theorem wd91 {Z : State} {a0 : Array Value} (hw : ∀ d ∈ tables_1, d.before a0 Z = true) : (Jvm.Cond.fieldLink "java/lang/Throwable" (31 : Nat) "java/lang/Throwable" "detailMessage" "Ljava/lang/String;").before a0 Z = true := hw _ (List.mem_of_getElem? (i := 91) rfl)
theorem wd92 {Z : State} {a0 : Array Value} (hw : ∀ d ∈ tables_1, d.before a0 Z = true) : (Jvm.Cond.methodLink "com/example/fate_of_jobs/fateofjobs/conformance/CaseFormatExceptionWithinPinLaw" (30 : Nat) ({ cls := "com/example/fate_of_jobs/fateofjobs/conformance/CaseFormatException", name := "within", desc := "(Ljava/lang/String;)Lcom/example/fate_of_jobs/fateofjobs/conformance/CaseFormatException;" } : Jvm.MethodName)).before a0 Z = true := hw _ (List.mem_of_getElem? (i := 92) rfl)
theorem wd93 {Z : State} {a0 : Array Value} (hw : ∀ d ∈ tables_1, d.before a0 Z = true) : (Jvm.Cond.declares ({ cls := "com/example/fate_of_jobs/fateofjobs/conformance/CaseFormatException", name := "within", desc := "(Ljava/lang/String;)Lcom/example/fate_of_jobs/fateofjobs/conformance/CaseFormatException;" } : Jvm.MethodName)).before a0 Z = true := hw _ (List.mem_of_getElem? (i := 93) rfl)
theorem wd94 {Z : State} {a0 : Array Value} (hw : ∀ d ∈ tables_1, d.before a0 Z = true) : (Jvm.Cond.instanceMethod ({ cls := "com/example/fate_of_jobs/fateofjobs/conformance/CaseFormatException", name := "within", desc := "(Ljava/lang/String;)Lcom/example/fate_of_jobs/fateofjobs/conformance/CaseFormatException;" } : Jvm.MethodName)).before a0 Z = true := hw _ (List.mem_of_getElem? (i := 94) rfl)
theorem wd95 {Z : State} {a0 : Array Value} (hw : ∀ d ∈ tables_1, d.before a0 Z = true) : (Jvm.Cond.selects "com/example/fate_of_jobs/fateofjobs/conformance/CaseFormatException" ({ cls := "com/example/fate_of_jobs/fateofjobs/conformance/CaseFormatException", name := "within", desc := "(Ljava/lang/String;)Lcom/example/fate_of_jobs/fateofjobs/conformance/CaseFormatException;" } : Jvm.MethodName) ({ cls := "com/example/fate_of_jobs/fateofjobs/conformance/CaseFormatException", name := "within", desc := "(Ljava/lang/String;)Lcom/example/fate_of_jobs/fateofjobs/conformance/CaseFormatException;" } : Jvm.MethodName)).before a0 Z = true := hw _ (List.mem_of_getElem? (i := 95) rfl)
theorem wd96 {Z : State} {a0 : Array Value} (hw : ∀ d ∈ tables_1, d.before a0 Z = true) : (Jvm.Cond.code ({ cls := "com/example/fate_of_jobs/fateofjobs/conformance/CaseFormatException", name := "within", desc := "(Ljava/lang/String;)Lcom/example/fate_of_jobs/fateofjobs/conformance/CaseFormatException;" } : Jvm.MethodName) prog_4_method_2_code (2 : Nat) (Option.some (Jvm.ClassFile.FieldType.object "com/example/fate_of_jobs/fateofjobs/conformance/CaseFormatException"))).before a0 Z = true := hw _ (List.mem_of_getElem? (i := 96) rfl)
theorem wd97 {Z : State} {a0 : Array Value} (hw : ∀ d ∈ tables_1, d.before a0 Z = true) : (Jvm.Cond.classLink "com/example/fate_of_jobs/fateofjobs/conformance/CaseFormatException" (7 : Nat) "com/example/fate_of_jobs/fateofjobs/conformance/CaseFormatException").before a0 Z = true := hw _ (List.mem_of_getElem? (i := 97) rfl)
theorem wd98 {Z : State} {a0 : Array Value} (hw : ∀ d ∈ tables_1, d.before a0 Z = true) : (Jvm.Cond.classLink "com/example/fate_of_jobs/fateofjobs/conformance/CaseFormatException" (9 : Nat) "java/lang/StringBuilder").before a0 Z = true := hw _ (List.mem_of_getElem? (i := 98) rfl)
theorem wd99 {Z : State} {a0 : Array Value} (hw : ∀ d ∈ tables_1, d.before a0 Z = true) : (Jvm.Cond.instantiable "java/lang/StringBuilder" (4 : Nat)).before a0 Z = true := hw _ (List.mem_of_getElem? (i := 99) rfl)
theorem wd100 {Z : State} {a0 : Array Value} (hw : ∀ d ∈ tables_1, d.before a0 Z = true) : (Jvm.Cond.initialized "java/lang/StringBuilder").before a0 Z = true := hw _ (List.mem_of_getElem? (i := 100) rfl)
theorem wd101 {Z : State} {a0 : Array Value} (hw : ∀ d ∈ tables_1, d.before a0 Z = true) : (Jvm.Cond.methodLink "com/example/fate_of_jobs/fateofjobs/conformance/CaseFormatException" (11 : Nat) ({ cls := "java/lang/StringBuilder", name := "<init>", desc := "()V" } : Jvm.MethodName)).before a0 Z = true := hw _ (List.mem_of_getElem? (i := 101) rfl)
theorem wd102 {Z : State} {a0 : Array Value} (hw : ∀ d ∈ tables_1, d.before a0 Z = true) : (Jvm.Cond.instanceMethod ({ cls := "java/lang/StringBuilder", name := "<init>", desc := "()V" } : Jvm.MethodName)).before a0 Z = true := hw _ (List.mem_of_getElem? (i := 102) rfl)
theorem wd103 {Z : State} {a0 : Array Value} (hw : ∀ d ∈ tables_1, d.before a0 Z = true) : (Jvm.Cond.code ({ cls := "java/lang/StringBuilder", name := "<init>", desc := "()V" } : Jvm.MethodName) jdk_67_method_1_code (1 : Nat) (Option.none : Option Jvm.ClassFile.FieldType)).before a0 Z = true := hw _ (List.mem_of_getElem? (i := 103) rfl)
theorem wd104 {Z : State} {a0 : Array Value} (hw : ∀ d ∈ tables_1, d.before a0 Z = true) : (Jvm.Cond.methodLink "java/lang/StringBuilder" (1 : Nat) ({ cls := "java/lang/AbstractStringBuilder", name := "<init>", desc := "(I)V" } : Jvm.MethodName)).before a0 Z = true := hw _ (List.mem_of_getElem? (i := 104) rfl)
theorem wd105 {Z : State} {a0 : Array Value} (hw : ∀ d ∈ tables_1, d.before a0 Z = true) : (Jvm.Cond.instanceMethod ({ cls := "java/lang/AbstractStringBuilder", name := "<init>", desc := "(I)V" } : Jvm.MethodName)).before a0 Z = true := hw _ (List.mem_of_getElem? (i := 105) rfl)
theorem wd108 {Z : State} {a0 : Array Value} (hw : ∀ d ∈ tables_1, d.before a0 Z = true) : (Jvm.Cond.initialized "java/lang/AbstractStringBuilder").before a0 Z = true := hw _ (List.mem_of_getElem? (i := 108) rfl)
theorem wd109 {Z : State} {a0 : Array Value} (hw : ∀ d ∈ tables_1, d.before a0 Z = true) : (Jvm.Cond.code ({ cls := "java/lang/AbstractStringBuilder", name := "<init>", desc := "(I)V" } : Jvm.MethodName) jdk_68_method_2_code (2 : Nat) (Option.none : Option Jvm.ClassFile.FieldType)).before a0 Z = true := hw _ (List.mem_of_getElem? (i := 109) rfl)
theorem wd110 {Z : State} {a0 : Array Value} (hw : ∀ d ∈ tables_1, d.before a0 Z = true) : (Jvm.Cond.methodLink "java/lang/AbstractStringBuilder" (3 : Nat) ({ cls := "java/lang/Object", name := "<init>", desc := "()V" } : Jvm.MethodName)).before a0 Z = true := hw _ (List.mem_of_getElem? (i := 110) rfl)
theorem wd111 {Z : State} {a0 : Array Value} (hw : ∀ d ∈ tables_1, d.before a0 Z = true) : (Jvm.Cond.fieldLink "java/lang/AbstractStringBuilder" (18 : Nat) "java/lang/String" "COMPACT_STRINGS" "Z").before a0 Z = true := hw _ (List.mem_of_getElem? (i := 111) rfl)
theorem wd112 {Z : State} {a0 : Array Value} (hw : ∀ d ∈ tables_1, d.before a0 Z = true) : (Jvm.Cond.fieldLink "java/lang/AbstractStringBuilder" (15 : Nat) "java/lang/AbstractStringBuilder" "value" "[B").before a0 Z = true := hw _ (List.mem_of_getElem? (i := 112) rfl)
theorem wd113 {Z : State} {a0 : Array Value} (hw : ∀ d ∈ tables_1, d.before a0 Z = true) : (Jvm.Cond.lays "java/lang/StringBuilder" "java/lang/AbstractStringBuilder" "value" "[B").before a0 Z = true := hw _ (List.mem_of_getElem? (i := 113) rfl)
theorem wd114 {Z : State} {a0 : Array Value} (hw : ∀ d ∈ tables_1, d.before a0 Z = true) : (Jvm.Cond.fieldLink "java/lang/AbstractStringBuilder" (22 : Nat) "java/lang/AbstractStringBuilder" "coder" "B").before a0 Z = true := hw _ (List.mem_of_getElem? (i := 114) rfl)
theorem wd115 {Z : State} {a0 : Array Value} (hw : ∀ d ∈ tables_1, d.before a0 Z = true) : (Jvm.Cond.lays "java/lang/StringBuilder" "java/lang/AbstractStringBuilder" "coder" "B").before a0 Z = true := hw _ (List.mem_of_getElem? (i := 115) rfl)
theorem wd116 {Z : State} {a0 : Array Value} (hw : ∀ d ∈ tables_1, d.before a0 Z = true) : (Jvm.Cond.methodLink "com/example/fate_of_jobs/fateofjobs/conformance/CaseFormatException" (14 : Nat) ({ cls := "java/lang/StringBuilder", name := "append", desc := "(Ljava/lang/String;)Ljava/lang/StringBuilder;" } : Jvm.MethodName)).before a0 Z = true := hw _ (List.mem_of_getElem? (i := 116) rfl)
theorem wd117 {Z : State} {a0 : Array Value} (hw : ∀ d ∈ tables_1, d.before a0 Z = true) : (Jvm.Cond.declares ({ cls := "java/lang/StringBuilder", name := "append", desc := "(Ljava/lang/String;)Ljava/lang/StringBuilder;" } : Jvm.MethodName)).before a0 Z = true := hw _ (List.mem_of_getElem? (i := 117) rfl)
theorem wd118 {Z : State} {a0 : Array Value} (hw : ∀ d ∈ tables_1, d.before a0 Z = true) : (Jvm.Cond.instanceMethod ({ cls := "java/lang/StringBuilder", name := "append", desc := "(Ljava/lang/String;)Ljava/lang/StringBuilder;" } : Jvm.MethodName)).before a0 Z = true := hw _ (List.mem_of_getElem? (i := 118) rfl)
theorem wd119 {Z : State} {a0 : Array Value} (hw : ∀ d ∈ tables_1, d.before a0 Z = true) : (Jvm.Cond.selects "java/lang/StringBuilder" ({ cls := "java/lang/StringBuilder", name := "append", desc := "(Ljava/lang/String;)Ljava/lang/StringBuilder;" } : Jvm.MethodName) ({ cls := "java/lang/StringBuilder", name := "append", desc := "(Ljava/lang/String;)Ljava/lang/StringBuilder;" } : Jvm.MethodName)).before a0 Z = true := hw _ (List.mem_of_getElem? (i := 119) rfl)
theorem wd120 {Z : State} {a0 : Array Value} (hw : ∀ d ∈ tables_1, d.before a0 Z = true) : (Jvm.Cond.code ({ cls := "java/lang/StringBuilder", name := "append", desc := "(Ljava/lang/String;)Ljava/lang/StringBuilder;" } : Jvm.MethodName) jdk_67_method_7_code (2 : Nat) (Option.some (Jvm.ClassFile.FieldType.object "java/lang/StringBuilder"))).before a0 Z = true := hw _ (List.mem_of_getElem? (i := 120) rfl)
theorem wd121 {Z : State} {a0 : Array Value} (hw : ∀ d ∈ tables_1, d.before a0 Z = true) : (Jvm.Cond.methodLink "java/lang/StringBuilder" (29 : Nat) ({ cls := "java/lang/AbstractStringBuilder", name := "append", desc := "(Ljava/lang/String;)Ljava/lang/AbstractStringBuilder;" } : Jvm.MethodName)).before a0 Z = true := hw _ (List.mem_of_getElem? (i := 121) rfl)
theorem wd122 {Z : State} {a0 : Array Value} (hw : ∀ d ∈ tables_1, d.before a0 Z = true) : (Jvm.Cond.instanceMethod ({ cls := "java/lang/AbstractStringBuilder", name := "append", desc := "(Ljava/lang/String;)Ljava/lang/AbstractStringBuilder;" } : Jvm.MethodName)).before a0 Z = true := hw _ (List.mem_of_getElem? (i := 122) rfl)
theorem wd123 {Z : State} {a0 : Array Value} (hw : ∀ d ∈ tables_1, d.before a0 Z = true) : (Jvm.Cond.superclass "java/lang/StringBuilder" "java/lang/AbstractStringBuilder").before a0 Z = true := hw _ (List.mem_of_getElem? (i := 123) rfl)
theorem wd125 {Z : State} {a0 : Array Value} (hw : ∀ d ∈ tables_1, d.before a0 Z = true) : (Jvm.Cond.code ({ cls := "java/lang/AbstractStringBuilder", name := "append", desc := "(Ljava/lang/String;)Ljava/lang/AbstractStringBuilder;" } : Jvm.MethodName) jdk_68_method_22_code (3 : Nat) (Option.some (Jvm.ClassFile.FieldType.object "java/lang/AbstractStringBuilder"))).before a0 Z = true := hw _ (List.mem_of_getElem? (i := 125) rfl)
theorem wd126 {Z : State} {a0 : Array Value} (hw : ∀ d ∈ tables_1, d.before a0 Z = true) : (Jvm.Cond.methodLink "java/lang/AbstractStringBuilder" (32 : Nat) ({ cls := "java/lang/String", name := "length", desc := "()I" } : Jvm.MethodName)).before a0 Z = true := hw _ (List.mem_of_getElem? (i := 126) rfl)
theorem wd127 {Z : State} {a0 : Array Value} (hw : ∀ d ∈ tables_1, d.before a0 Z = true) : (Jvm.Cond.declares ({ cls := "java/lang/String", name := "length", desc := "()I" } : Jvm.MethodName)).before a0 Z = true := hw _ (List.mem_of_getElem? (i := 127) rfl)
theorem wd128 {Z : State} {a0 : Array Value} (hw : ∀ d ∈ tables_1, d.before a0 Z = true) : (Jvm.Cond.instanceMethod ({ cls := "java/lang/String", name := "length", desc := "()I" } : Jvm.MethodName)).before a0 Z = true := hw _ (List.mem_of_getElem? (i := 128) rfl)
theorem wd129 {Z : State} {a0 : Array Value} (hw : ∀ d ∈ tables_1, d.before a0 Z = true) : (Jvm.Cond.selects "java/lang/String" ({ cls := "java/lang/String", name := "length", desc := "()I" } : Jvm.MethodName) ({ cls := "java/lang/String", name := "length", desc := "()I" } : Jvm.MethodName)).before a0 Z = true := hw _ (List.mem_of_getElem? (i := 129) rfl)
theorem wd130 {Z : State} {a0 : Array Value} (hw : ∀ d ∈ tables_1, d.before a0 Z = true) : (Jvm.Cond.code ({ cls := "java/lang/String", name := "length", desc := "()I" } : Jvm.MethodName) jdk_42_method_54_code (1 : Nat) (Option.some Jvm.ClassFile.FieldType.int)).before a0 Z = true := hw _ (List.mem_of_getElem? (i := 130) rfl)
theorem wd131 {Z : State} {a0 : Array Value} (hw : ∀ d ∈ tables_1, d.before a0 Z = true) : (Jvm.Cond.methodLink "java/lang/String" (335 : Nat) ({ cls := "java/lang/String", name := "coder", desc := "()B" } : Jvm.MethodName)).before a0 Z = true := hw _ (List.mem_of_getElem? (i := 131) rfl)
theorem wd132 {Z : State} {a0 : Array Value} (hw : ∀ d ∈ tables_1, d.before a0 Z = true) : (Jvm.Cond.declares ({ cls := "java/lang/String", name := "coder", desc := "()B" } : Jvm.MethodName)).before a0 Z = true := hw _ (List.mem_of_getElem? (i := 132) rfl)
theorem wd133 {Z : State} {a0 : Array Value} (hw : ∀ d ∈ tables_1, d.before a0 Z = true) : (Jvm.Cond.instanceMethod ({ cls := "java/lang/String", name := "coder", desc := "()B" } : Jvm.MethodName)).before a0 Z = true := hw _ (List.mem_of_getElem? (i := 133) rfl)
theorem wd134 {Z : State} {a0 : Array Value} (hw : ∀ d ∈ tables_1, d.before a0 Z = true) : (Jvm.Cond.selects "java/lang/String" ({ cls := "java/lang/String", name := "coder", desc := "()B" } : Jvm.MethodName) ({ cls := "java/lang/String", name := "coder", desc := "()B" } : Jvm.MethodName)).before a0 Z = true := hw _ (List.mem_of_getElem? (i := 134) rfl)
theorem wd135 {Z : State} {a0 : Array Value} (hw : ∀ d ∈ tables_1, d.before a0 Z = true) : (Jvm.Cond.code ({ cls := "java/lang/String", name := "coder", desc := "()B" } : Jvm.MethodName) jdk_42_method_152_code (1 : Nat) (Option.some Jvm.ClassFile.FieldType.byte)).before a0 Z = true := hw _ (List.mem_of_getElem? (i := 135) rfl)
theorem wd136 {Z : State} {a0 : Array Value} (hw : ∀ d ∈ tables_1, d.before a0 Z = true) : (Jvm.Cond.fieldLink "java/lang/AbstractStringBuilder" (79 : Nat) "java/lang/AbstractStringBuilder" "count" "I").before a0 Z = true := hw _ (List.mem_of_getElem? (i := 136) rfl)
theorem wd137 {Z : State} {a0 : Array Value} (hw : ∀ d ∈ tables_1, d.before a0 Z = true) : (Jvm.Cond.lays "java/lang/StringBuilder" "java/lang/AbstractStringBuilder" "count" "I").before a0 Z = true := hw _ (List.mem_of_getElem? (i := 137) rfl)
theorem wd138 {Z : State} {a0 : Array Value} (hw : ∀ d ∈ tables_1, d.before a0 Z = true) : (Jvm.Cond.methodLink "java/lang/AbstractStringBuilder" (100 : Nat) ({ cls := "java/lang/AbstractStringBuilder", name := "ensureCapacityInternal", desc := "(I)V" } : Jvm.MethodName)).before a0 Z = true := hw _ (List.mem_of_getElem? (i := 138) rfl)
theorem wd139 {Z : State} {a0 : Array Value} (hw : ∀ d ∈ tables_1, d.before a0 Z = true) : (Jvm.Cond.instanceMethod ({ cls := "java/lang/AbstractStringBuilder", name := "ensureCapacityInternal", desc := "(I)V" } : Jvm.MethodName)).before a0 Z = true := hw _ (List.mem_of_getElem? (i := 139) rfl)
theorem wd140 {Z : State} {a0 : Array Value} (hw : ∀ d ∈ tables_1, d.before a0 Z = true) : (Jvm.Cond.privateMethod ({ cls := "java/lang/AbstractStringBuilder", name := "ensureCapacityInternal", desc := "(I)V" } : Jvm.MethodName)).before a0 Z = true := hw _ (List.mem_of_getElem? (i := 140) rfl)
theorem wd141 {Z : State} {a0 : Array Value} (hw : ∀ d ∈ tables_1, d.before a0 Z = true) : (Jvm.Cond.selects "java/lang/StringBuilder" ({ cls := "java/lang/AbstractStringBuilder", name := "ensureCapacityInternal", desc := "(I)V" } : Jvm.MethodName) ({ cls := "java/lang/AbstractStringBuilder", name := "ensureCapacityInternal", desc := "(I)V" } : Jvm.MethodName)).before a0 Z = true := hw _ (List.mem_of_getElem? (i := 141) rfl)
theorem wd142 {Z : State} {a0 : Array Value} (hw : ∀ d ∈ tables_1, d.before a0 Z = true) : (Jvm.Cond.code ({ cls := "java/lang/AbstractStringBuilder", name := "ensureCapacityInternal", desc := "(I)V" } : Jvm.MethodName) jdk_68_method_9_code (3 : Nat) (Option.none : Option Jvm.ClassFile.FieldType)).before a0 Z = true := hw _ (List.mem_of_getElem? (i := 142) rfl)
theorem wd143 {Z : State} {a0 : Array Value} (hw : ∀ d ∈ tables_1, d.before a0 Z = true) : (Jvm.Cond.methodLink "java/lang/AbstractStringBuilder" (208 : Nat) ({ cls := "java/lang/AbstractStringBuilder", name := "putStringAt", desc := "(ILjava/lang/String;)V" } : Jvm.MethodName)).before a0 Z = true := hw _ (List.mem_of_getElem? (i := 143) rfl)
theorem wd144 {Z : State} {a0 : Array Value} (hw : ∀ d ∈ tables_1, d.before a0 Z = true) : (Jvm.Cond.instanceMethod ({ cls := "java/lang/AbstractStringBuilder", name := "putStringAt", desc := "(ILjava/lang/String;)V" } : Jvm.MethodName)).before a0 Z = true := hw _ (List.mem_of_getElem? (i := 144) rfl)
theorem wd145 {Z : State} {a0 : Array Value} (hw : ∀ d ∈ tables_1, d.before a0 Z = true) : (Jvm.Cond.privateMethod ({ cls := "java/lang/AbstractStringBuilder", name := "putStringAt", desc := "(ILjava/lang/String;)V" } : Jvm.MethodName)).before a0 Z = true := hw _ (List.mem_of_getElem? (i := 145) rfl)
theorem wd146 {Z : State} {a0 : Array Value} (hw : ∀ d ∈ tables_1, d.before a0 Z = true) : (Jvm.Cond.selects "java/lang/StringBuilder" ({ cls := "java/lang/AbstractStringBuilder", name := "putStringAt", desc := "(ILjava/lang/String;)V" } : Jvm.MethodName) ({ cls := "java/lang/AbstractStringBuilder", name := "putStringAt", desc := "(ILjava/lang/String;)V" } : Jvm.MethodName)).before a0 Z = true := hw _ (List.mem_of_getElem? (i := 146) rfl)
theorem wd147 {Z : State} {a0 : Array Value} (hw : ∀ d ∈ tables_1, d.before a0 Z = true) : (Jvm.Cond.code ({ cls := "java/lang/AbstractStringBuilder", name := "putStringAt", desc := "(ILjava/lang/String;)V" } : Jvm.MethodName) jdk_68_method_73_code (3 : Nat) (Option.none : Option Jvm.ClassFile.FieldType)).before a0 Z = true := hw _ (List.mem_of_getElem? (i := 147) rfl)
theorem wd148 {Z : State} {a0 : Array Value} (hw : ∀ d ∈ tables_1, d.before a0 Z = true) : (Jvm.Cond.methodLink "java/lang/AbstractStringBuilder" (397 : Nat) ({ cls := "java/lang/AbstractStringBuilder", name := "inflateIfNeededFor", desc := "(Ljava/lang/String;)V" } : Jvm.MethodName)).before a0 Z = true := hw _ (List.mem_of_getElem? (i := 148) rfl)
theorem wd149 {Z : State} {a0 : Array Value} (hw : ∀ d ∈ tables_1, d.before a0 Z = true) : (Jvm.Cond.instanceMethod ({ cls := "java/lang/AbstractStringBuilder", name := "inflateIfNeededFor", desc := "(Ljava/lang/String;)V" } : Jvm.MethodName)).before a0 Z = true := hw _ (List.mem_of_getElem? (i := 149) rfl)
theorem wd150 {Z : State} {a0 : Array Value} (hw : ∀ d ∈ tables_1, d.before a0 Z = true) : (Jvm.Cond.privateMethod ({ cls := "java/lang/AbstractStringBuilder", name := "inflateIfNeededFor", desc := "(Ljava/lang/String;)V" } : Jvm.MethodName)).before a0 Z = true := hw _ (List.mem_of_getElem? (i := 150) rfl)
theorem wd151 {Z : State} {a0 : Array Value} (hw : ∀ d ∈ tables_1, d.before a0 Z = true) : (Jvm.Cond.selects "java/lang/StringBuilder" ({ cls := "java/lang/AbstractStringBuilder", name := "inflateIfNeededFor", desc := "(Ljava/lang/String;)V" } : Jvm.MethodName) ({ cls := "java/lang/AbstractStringBuilder", name := "inflateIfNeededFor", desc := "(Ljava/lang/String;)V" } : Jvm.MethodName)).before a0 Z = true := hw _ (List.mem_of_getElem? (i := 151) rfl)
theorem wd152 {Z : State} {a0 : Array Value} (hw : ∀ d ∈ tables_1, d.before a0 Z = true) : (Jvm.Cond.code ({ cls := "java/lang/AbstractStringBuilder", name := "inflateIfNeededFor", desc := "(Ljava/lang/String;)V" } : Jvm.MethodName) jdk_68_method_71_code (2 : Nat) (Option.none : Option Jvm.ClassFile.FieldType)).before a0 Z = true := hw _ (List.mem_of_getElem? (i := 152) rfl)
theorem wd153 {Z : State} {a0 : Array Value} (hw : ∀ d ∈ tables_1, d.before a0 Z = true) : (Jvm.Cond.methodLink "java/lang/AbstractStringBuilder" (40 : Nat) ({ cls := "java/lang/String", name := "coder", desc := "()B" } : Jvm.MethodName)).before a0 Z = true := hw _ (List.mem_of_getElem? (i := 153) rfl)
theorem wd154 {Z : State} {a0 : Array Value} (hw : ∀ d ∈ tables_1, d.before a0 Z = true) : (Jvm.Cond.methodLink "java/lang/AbstractStringBuilder" (399 : Nat) ({ cls := "java/lang/String", name := "getBytes", desc := "([BIB)V" } : Jvm.MethodName)).before a0 Z = true := hw _ (List.mem_of_getElem? (i := 154) rfl)
theorem wd155 {Z : State} {a0 : Array Value} (hw : ∀ d ∈ tables_1, d.before a0 Z = true) : (Jvm.Cond.declares ({ cls := "java/lang/String", name := "getBytes", desc := "([BIB)V" } : Jvm.MethodName)).before a0 Z = true := hw _ (List.mem_of_getElem? (i := 155) rfl)
theorem wd156 {Z : State} {a0 : Array Value} (hw : ∀ d ∈ tables_1, d.before a0 Z = true) : (Jvm.Cond.instanceMethod ({ cls := "java/lang/String", name := "getBytes", desc := "([BIB)V" } : Jvm.MethodName)).before a0 Z = true := hw _ (List.mem_of_getElem? (i := 156) rfl)
theorem wd157 {Z : State} {a0 : Array Value} (hw : ∀ d ∈ tables_1, d.before a0 Z = true) : (Jvm.Cond.selects "java/lang/String" ({ cls := "java/lang/String", name := "getBytes", desc := "([BIB)V" } : Jvm.MethodName) ({ cls := "java/lang/String", name := "getBytes", desc := "([BIB)V" } : Jvm.MethodName)).before a0 Z = true := hw _ (List.mem_of_getElem? (i := 157) rfl)
theorem wd158 {Z : State} {a0 : Array Value} (hw : ∀ d ∈ tables_1, d.before a0 Z = true) : (Jvm.Cond.code ({ cls := "java/lang/String", name := "getBytes", desc := "([BIB)V" } : Jvm.MethodName) jdk_42_method_147_code (4 : Nat) (Option.none : Option Jvm.ClassFile.FieldType)).before a0 Z = true := hw _ (List.mem_of_getElem? (i := 158) rfl)
theorem wd159 {Z : State} {a0 : Array Value} (hw : ∀ d ∈ tables_1, d.before a0 Z = true) : (Jvm.Cond.methodLink "java/lang/String" (212 : Nat) ({ cls := "java/lang/System", name := "arraycopy", desc := "(Ljava/lang/Object;ILjava/lang/Object;II)V" } : Jvm.MethodName)).before a0 Z = true := hw _ (List.mem_of_getElem? (i := 159) rfl)
theorem wd160 {Z : State} {a0 : Array Value} (hw : ∀ d ∈ tables_1, d.before a0 Z = true) : (Jvm.Cond.static ({ cls := "java/lang/System", name := "arraycopy", desc := "(Ljava/lang/Object;ILjava/lang/Object;II)V" } : Jvm.MethodName)).before a0 Z = true := hw _ (List.mem_of_getElem? (i := 160) rfl)
theorem wd161 {Z : State} {a0 : Array Value} (hw : ∀ d ∈ tables_1, d.before a0 Z = true) : (Jvm.Cond.initialized "java/lang/System").before a0 Z = true := hw _ (List.mem_of_getElem? (i := 161) rfl)
theorem wd162 {Z : State} {a0 : Array Value} (hw : ∀ d ∈ tables_1, d.before a0 Z = true) : (Jvm.Cond.native ({ cls := "java/lang/System", name := "arraycopy", desc := "(Ljava/lang/Object;ILjava/lang/Object;II)V" } : Jvm.MethodName)).before a0 Z = true := hw _ (List.mem_of_getElem? (i := 162) rfl)
theorem wd163 {Z : State} {a0 : Array Value} (hw : ∀ d ∈ tables_1, d.before a0 Z = true) : (Jvm.Cond.stringLink "com/example/fate_of_jobs/fateofjobs/conformance/CaseFormatException" (18 : Nat) ": ").before a0 Z = true := hw _ (List.mem_of_getElem? (i := 163) rfl)
theorem wd164 {Z : State} {a0 : Array Value} (hw : ∀ d ∈ tables_1, d.before a0 Z = true) : (Jvm.Cond.methodLink "com/example/fate_of_jobs/fateofjobs/conformance/CaseFormatException" (20 : Nat) ({ cls := "com/example/fate_of_jobs/fateofjobs/conformance/CaseFormatException", name := "getMessage", desc := "()Ljava/lang/String;" } : Jvm.MethodName)).before a0 Z = true := hw _ (List.mem_of_getElem? (i := 164) rfl)
theorem wd165 {Z : State} {a0 : Array Value} (hw : ∀ d ∈ tables_1, d.before a0 Z = true) : (Jvm.Cond.sameMethod "com/example/fate_of_jobs/fateofjobs/conformance/CaseFormatException" "java/lang/Throwable" "getMessage" "()Ljava/lang/String;").before a0 Z = true := hw _ (List.mem_of_getElem? (i := 165) rfl)
theorem wd166 {Z : State} {a0 : Array Value} (hw : ∀ d ∈ tables_1, d.before a0 Z = true) : (Jvm.Cond.declares ({ cls := "java/lang/Throwable", name := "getMessage", desc := "()Ljava/lang/String;" } : Jvm.MethodName)).before a0 Z = true := hw _ (List.mem_of_getElem? (i := 166) rfl)
theorem wd167 {Z : State} {a0 : Array Value} (hw : ∀ d ∈ tables_1, d.before a0 Z = true) : (Jvm.Cond.instanceMethod ({ cls := "java/lang/Throwable", name := "getMessage", desc := "()Ljava/lang/String;" } : Jvm.MethodName)).before a0 Z = true := hw _ (List.mem_of_getElem? (i := 167) rfl)
theorem wd168 {Z : State} {a0 : Array Value} (hw : ∀ d ∈ tables_1, d.before a0 Z = true) : (Jvm.Cond.selects "com/example/fate_of_jobs/fateofjobs/conformance/CaseFormatException" ({ cls := "com/example/fate_of_jobs/fateofjobs/conformance/CaseFormatException", name := "getMessage", desc := "()Ljava/lang/String;" } : Jvm.MethodName) ({ cls := "java/lang/Throwable", name := "getMessage", desc := "()Ljava/lang/String;" } : Jvm.MethodName)).before a0 Z = true := hw _ (List.mem_of_getElem? (i := 168) rfl)
theorem wd169 {Z : State} {a0 : Array Value} (hw : ∀ d ∈ tables_1, d.before a0 Z = true) : (Jvm.Cond.code ({ cls := "java/lang/Throwable", name := "getMessage", desc := "()Ljava/lang/String;" } : Jvm.MethodName) jdk_78_method_6_code (1 : Nat) (Option.some (Jvm.ClassFile.FieldType.object "java/lang/String"))).before a0 Z = true := hw _ (List.mem_of_getElem? (i := 169) rfl)
theorem wd170 {Z : State} {a0 : Array Value} (hw : ∀ d ∈ tables_1, d.before a0 Z = true) : (Jvm.Cond.methodLink "com/example/fate_of_jobs/fateofjobs/conformance/CaseFormatException" (24 : Nat) ({ cls := "java/lang/StringBuilder", name := "toString", desc := "()Ljava/lang/String;" } : Jvm.MethodName)).before a0 Z = true := hw _ (List.mem_of_getElem? (i := 170) rfl)
theorem wd171 {Z : State} {a0 : Array Value} (hw : ∀ d ∈ tables_1, d.before a0 Z = true) : (Jvm.Cond.declares ({ cls := "java/lang/StringBuilder", name := "toString", desc := "()Ljava/lang/String;" } : Jvm.MethodName)).before a0 Z = true := hw _ (List.mem_of_getElem? (i := 171) rfl)
theorem wd172 {Z : State} {a0 : Array Value} (hw : ∀ d ∈ tables_1, d.before a0 Z = true) : (Jvm.Cond.instanceMethod ({ cls := "java/lang/StringBuilder", name := "toString", desc := "()Ljava/lang/String;" } : Jvm.MethodName)).before a0 Z = true := hw _ (List.mem_of_getElem? (i := 172) rfl)
theorem wd173 {Z : State} {a0 : Array Value} (hw : ∀ d ∈ tables_1, d.before a0 Z = true) : (Jvm.Cond.selects "java/lang/StringBuilder" ({ cls := "java/lang/StringBuilder", name := "toString", desc := "()Ljava/lang/String;" } : Jvm.MethodName) ({ cls := "java/lang/StringBuilder", name := "toString", desc := "()Ljava/lang/String;" } : Jvm.MethodName)).before a0 Z = true := hw _ (List.mem_of_getElem? (i := 173) rfl)
theorem wd174 {Z : State} {a0 : Array Value} (hw : ∀ d ∈ tables_1, d.before a0 Z = true) : (Jvm.Cond.code ({ cls := "java/lang/StringBuilder", name := "toString", desc := "()Ljava/lang/String;" } : Jvm.MethodName) jdk_67_method_42_code (1 : Nat) (Option.some (Jvm.ClassFile.FieldType.object "java/lang/String"))).before a0 Z = true := hw _ (List.mem_of_getElem? (i := 174) rfl)
theorem wd175 {Z : State} {a0 : Array Value} (hw : ∀ d ∈ tables_1, d.before a0 Z = true) : (Jvm.Cond.classLink "java/lang/StringBuilder" (18 : Nat) "java/lang/String").before a0 Z = true := hw _ (List.mem_of_getElem? (i := 175) rfl)
theorem wd176 {Z : State} {a0 : Array Value} (hw : ∀ d ∈ tables_1, d.before a0 Z = true) : (Jvm.Cond.methodLink "java/lang/StringBuilder" (137 : Nat) ({ cls := "java/lang/String", name := "<init>", desc := "(Ljava/lang/StringBuilder;)V" } : Jvm.MethodName)).before a0 Z = true := hw _ (List.mem_of_getElem? (i := 176) rfl)
theorem wd177 {Z : State} {a0 : Array Value} (hw : ∀ d ∈ tables_1, d.before a0 Z = true) : (Jvm.Cond.instanceMethod ({ cls := "java/lang/String", name := "<init>", desc := "(Ljava/lang/StringBuilder;)V" } : Jvm.MethodName)).before a0 Z = true := hw _ (List.mem_of_getElem? (i := 177) rfl)
theorem wd178 {Z : State} {a0 : Array Value} (hw : ∀ d ∈ tables_1, d.before a0 Z = true) : (Jvm.Cond.code ({ cls := "java/lang/String", name := "<init>", desc := "(Ljava/lang/StringBuilder;)V" } : Jvm.MethodName) jdk_42_method_53_code (2 : Nat) (Option.none : Option Jvm.ClassFile.FieldType)).before a0 Z = true := hw _ (List.mem_of_getElem? (i := 178) rfl)
theorem wd179 {Z : State} {a0 : Array Value} (hw : ∀ d ∈ tables_1, d.before a0 Z = true) : (Jvm.Cond.methodLink "java/lang/String" (489 : Nat) ({ cls := "java/lang/String", name := "<init>", desc := "(Ljava/lang/AbstractStringBuilder;Ljava/lang/Void;)V" } : Jvm.MethodName)).before a0 Z = true := hw _ (List.mem_of_getElem? (i := 179) rfl)
theorem wd180 {Z : State} {a0 : Array Value} (hw : ∀ d ∈ tables_1, d.before a0 Z = true) : (Jvm.Cond.instanceMethod ({ cls := "java/lang/String", name := "<init>", desc := "(Ljava/lang/AbstractStringBuilder;Ljava/lang/Void;)V" } : Jvm.MethodName)).before a0 Z = true := hw _ (List.mem_of_getElem? (i := 180) rfl)
theorem wd181 {Z : State} {a0 : Array Value} (hw : ∀ d ∈ tables_1, d.before a0 Z = true) : (Jvm.Cond.code ({ cls := "java/lang/String", name := "<init>", desc := "(Ljava/lang/AbstractStringBuilder;Ljava/lang/Void;)V" } : Jvm.MethodName) jdk_42_method_150_code (5 : Nat) (Option.none : Option Jvm.ClassFile.FieldType)).before a0 Z = true := hw _ (List.mem_of_getElem? (i := 181) rfl)
theorem wd182 {Z : State} {a0 : Array Value} (hw : ∀ d ∈ tables_1, d.before a0 Z = true) : (Jvm.Cond.methodLink "java/lang/String" (552 : Nat) ({ cls := "java/lang/AbstractStringBuilder", name := "getValue", desc := "()[B" } : Jvm.MethodName)).before a0 Z = true := hw _ (List.mem_of_getElem? (i := 182) rfl)
theorem wd183 {Z : State} {a0 : Array Value} (hw : ∀ d ∈ tables_1, d.before a0 Z = true) : (Jvm.Cond.declares ({ cls := "java/lang/AbstractStringBuilder", name := "getValue", desc := "()[B" } : Jvm.MethodName)).before a0 Z = true := hw _ (List.mem_of_getElem? (i := 183) rfl)
theorem wd184 {Z : State} {a0 : Array Value} (hw : ∀ d ∈ tables_1, d.before a0 Z = true) : (Jvm.Cond.instanceMethod ({ cls := "java/lang/AbstractStringBuilder", name := "getValue", desc := "()[B" } : Jvm.MethodName)).before a0 Z = true := hw _ (List.mem_of_getElem? (i := 184) rfl)
theorem wd185 {Z : State} {a0 : Array Value} (hw : ∀ d ∈ tables_1, d.before a0 Z = true) : (Jvm.Cond.selects "java/lang/StringBuilder" ({ cls := "java/lang/AbstractStringBuilder", name := "getValue", desc := "()[B" } : Jvm.MethodName) ({ cls := "java/lang/AbstractStringBuilder", name := "getValue", desc := "()[B" } : Jvm.MethodName)).before a0 Z = true := hw _ (List.mem_of_getElem? (i := 185) rfl)
theorem wd186 {Z : State} {a0 : Array Value} (hw : ∀ d ∈ tables_1, d.before a0 Z = true) : (Jvm.Cond.code ({ cls := "java/lang/AbstractStringBuilder", name := "getValue", desc := "()[B" } : Jvm.MethodName) jdk_68_method_64_code (1 : Nat) (Option.some (Jvm.ClassFile.FieldType.array Jvm.ClassFile.FieldType.byte))).before a0 Z = true := hw _ (List.mem_of_getElem? (i := 186) rfl)
theorem wd187 {Z : State} {a0 : Array Value} (hw : ∀ d ∈ tables_1, d.before a0 Z = true) : (Jvm.Cond.methodLink "java/lang/String" (549 : Nat) ({ cls := "java/lang/AbstractStringBuilder", name := "length", desc := "()I" } : Jvm.MethodName)).before a0 Z = true := hw _ (List.mem_of_getElem? (i := 187) rfl)
theorem wd188 {Z : State} {a0 : Array Value} (hw : ∀ d ∈ tables_1, d.before a0 Z = true) : (Jvm.Cond.declares ({ cls := "java/lang/AbstractStringBuilder", name := "length", desc := "()I" } : Jvm.MethodName)).before a0 Z = true := hw _ (List.mem_of_getElem? (i := 188) rfl)
theorem wd189 {Z : State} {a0 : Array Value} (hw : ∀ d ∈ tables_1, d.before a0 Z = true) : (Jvm.Cond.instanceMethod ({ cls := "java/lang/AbstractStringBuilder", name := "length", desc := "()I" } : Jvm.MethodName)).before a0 Z = true := hw _ (List.mem_of_getElem? (i := 189) rfl)
theorem wd190 {Z : State} {a0 : Array Value} (hw : ∀ d ∈ tables_1, d.before a0 Z = true) : (Jvm.Cond.selects "java/lang/StringBuilder" ({ cls := "java/lang/AbstractStringBuilder", name := "length", desc := "()I" } : Jvm.MethodName) ({ cls := "java/lang/StringBuilder", name := "length", desc := "()I" } : Jvm.MethodName)).before a0 Z = true := hw _ (List.mem_of_getElem? (i := 190) rfl)
theorem wd191 {Z : State} {a0 : Array Value} (hw : ∀ d ∈ tables_1, d.before a0 Z = true) : (Jvm.Cond.instanceMethod ({ cls := "java/lang/StringBuilder", name := "length", desc := "()I" } : Jvm.MethodName)).before a0 Z = true := hw _ (List.mem_of_getElem? (i := 191) rfl)
theorem wd192 {Z : State} {a0 : Array Value} (hw : ∀ d ∈ tables_1, d.before a0 Z = true) : (Jvm.Cond.code ({ cls := "java/lang/StringBuilder", name := "length", desc := "()I" } : Jvm.MethodName) jdk_67_method_93_code (1 : Nat) (Option.some Jvm.ClassFile.FieldType.int)).before a0 Z = true := hw _ (List.mem_of_getElem? (i := 192) rfl)
theorem wd193 {Z : State} {a0 : Array Value} (hw : ∀ d ∈ tables_1, d.before a0 Z = true) : (Jvm.Cond.methodLink "java/lang/StringBuilder" (343 : Nat) ({ cls := "java/lang/AbstractStringBuilder", name := "length", desc := "()I" } : Jvm.MethodName)).before a0 Z = true := hw _ (List.mem_of_getElem? (i := 193) rfl)
theorem wd194 {Z : State} {a0 : Array Value} (hw : ∀ d ∈ tables_1, d.before a0 Z = true) : (Jvm.Cond.code ({ cls := "java/lang/AbstractStringBuilder", name := "length", desc := "()I" } : Jvm.MethodName) jdk_68_method_6_code (1 : Nat) (Option.some Jvm.ClassFile.FieldType.int)).before a0 Z = true := hw _ (List.mem_of_getElem? (i := 194) rfl)
theorem wd195 {Z : State} {a0 : Array Value} (hw : ∀ d ∈ tables_1, d.before a0 Z = true) : (Jvm.Cond.methodLink "java/lang/String" (1047 : Nat) ({ cls := "java/lang/AbstractStringBuilder", name := "isLatin1", desc := "()Z" } : Jvm.MethodName)).before a0 Z = true := hw _ (List.mem_of_getElem? (i := 195) rfl)
theorem wd196 {Z : State} {a0 : Array Value} (hw : ∀ d ∈ tables_1, d.before a0 Z = true) : (Jvm.Cond.declares ({ cls := "java/lang/AbstractStringBuilder", name := "isLatin1", desc := "()Z" } : Jvm.MethodName)).before a0 Z = true := hw _ (List.mem_of_getElem? (i := 196) rfl)
theorem wd197 {Z : State} {a0 : Array Value} (hw : ∀ d ∈ tables_1, d.before a0 Z = true) : (Jvm.Cond.instanceMethod ({ cls := "java/lang/AbstractStringBuilder", name := "isLatin1", desc := "()Z" } : Jvm.MethodName)).before a0 Z = true := hw _ (List.mem_of_getElem? (i := 197) rfl)
theorem wd198 {Z : State} {a0 : Array Value} (hw : ∀ d ∈ tables_1, d.before a0 Z = true) : (Jvm.Cond.selects "java/lang/StringBuilder" ({ cls := "java/lang/AbstractStringBuilder", name := "isLatin1", desc := "()Z" } : Jvm.MethodName) ({ cls := "java/lang/AbstractStringBuilder", name := "isLatin1", desc := "()Z" } : Jvm.MethodName)).before a0 Z = true := hw _ (List.mem_of_getElem? (i := 198) rfl)
theorem wd199 {Z : State} {a0 : Array Value} (hw : ∀ d ∈ tables_1, d.before a0 Z = true) : (Jvm.Cond.code ({ cls := "java/lang/AbstractStringBuilder", name := "isLatin1", desc := "()Z" } : Jvm.MethodName) jdk_68_method_68_code (1 : Nat) (Option.some Jvm.ClassFile.FieldType.boolean)).before a0 Z = true := hw _ (List.mem_of_getElem? (i := 199) rfl)
theorem wd200 {Z : State} {a0 : Array Value} (hw : ∀ d ∈ tables_1, d.before a0 Z = true) : (Jvm.Cond.methodLink "java/lang/String" (54 : Nat) ({ cls := "java/util/Arrays", name := "copyOfRange", desc := "([BII)[B" } : Jvm.MethodName)).before a0 Z = true := hw _ (List.mem_of_getElem? (i := 200) rfl)
theorem wd201 {Z : State} {a0 : Array Value} (hw : ∀ d ∈ tables_1, d.before a0 Z = true) : (Jvm.Cond.static ({ cls := "java/util/Arrays", name := "copyOfRange", desc := "([BII)[B" } : Jvm.MethodName)).before a0 Z = true := hw _ (List.mem_of_getElem? (i := 201) rfl)
theorem wd202 {Z : State} {a0 : Array Value} (hw : ∀ d ∈ tables_1, d.before a0 Z = true) : (Jvm.Cond.initialized "java/util/Arrays").before a0 Z = true := hw _ (List.mem_of_getElem? (i := 202) rfl)
theorem wd203 {Z : State} {a0 : Array Value} (hw : ∀ d ∈ tables_1, d.before a0 Z = true) : (Jvm.Cond.code ({ cls := "java/util/Arrays", name := "copyOfRange", desc := "([BII)[B" } : Jvm.MethodName) jdk_65_method_132_code (3 : Nat) (Option.some (Jvm.ClassFile.FieldType.array Jvm.ClassFile.FieldType.byte))).before a0 Z = true := hw _ (List.mem_of_getElem? (i := 203) rfl)
theorem wd204 {Z : State} {a0 : Array Value} (hw : ∀ d ∈ tables_1, d.before a0 Z = true) : (Jvm.Cond.methodLink "java/util/Arrays" (339 : Nat) ({ cls := "java/util/Arrays", name := "copyOfRangeByte", desc := "([BII)[B" } : Jvm.MethodName)).before a0 Z = true := hw _ (List.mem_of_getElem? (i := 204) rfl)
theorem wd205 {Z : State} {a0 : Array Value} (hw : ∀ d ∈ tables_1, d.before a0 Z = true) : (Jvm.Cond.static ({ cls := "java/util/Arrays", name := "copyOfRangeByte", desc := "([BII)[B" } : Jvm.MethodName)).before a0 Z = true := hw _ (List.mem_of_getElem? (i := 205) rfl)
theorem wd206 {Z : State} {a0 : Array Value} (hw : ∀ d ∈ tables_1, d.before a0 Z = true) : (Jvm.Cond.code ({ cls := "java/util/Arrays", name := "copyOfRangeByte", desc := "([BII)[B" } : Jvm.MethodName) jdk_65_method_133_code (5 : Nat) (Option.some (Jvm.ClassFile.FieldType.array Jvm.ClassFile.FieldType.byte))).before a0 Z = true := hw _ (List.mem_of_getElem? (i := 206) rfl)
theorem wd207 {Z : State} {a0 : Array Value} (hw : ∀ d ∈ tables_1, d.before a0 Z = true) : (Jvm.Cond.methodLink "java/util/Arrays" (343 : Nat) ({ cls := "java/util/Arrays", name := "checkLength", desc := "(II)V" } : Jvm.MethodName)).before a0 Z = true := hw _ (List.mem_of_getElem? (i := 207) rfl)
theorem wd208 {Z : State} {a0 : Array Value} (hw : ∀ d ∈ tables_1, d.before a0 Z = true) : (Jvm.Cond.static ({ cls := "java/util/Arrays", name := "checkLength", desc := "(II)V" } : Jvm.MethodName)).before a0 Z = true := hw _ (List.mem_of_getElem? (i := 208) rfl)
theorem wd209 {Z : State} {a0 : Array Value} (hw : ∀ d ∈ tables_1, d.before a0 Z = true) : (Jvm.Cond.code ({ cls := "java/util/Arrays", name := "checkLength", desc := "(II)V" } : Jvm.MethodName) jdk_65_method_131_code (2 : Nat) (Option.none : Option Jvm.ClassFile.FieldType)).before a0 Z = true := hw _ (List.mem_of_getElem? (i := 209) rfl)
theorem wd210 {Z : State} {a0 : Array Value} (hw : ∀ d ∈ tables_1, d.before a0 Z = true) : (Jvm.Cond.methodLink "java/util/Arrays" (304 : Nat) ({ cls := "java/lang/Math", name := "min", desc := "(II)I" } : Jvm.MethodName)).before a0 Z = true := hw _ (List.mem_of_getElem? (i := 210) rfl)
theorem wd211 {Z : State} {a0 : Array Value} (hw : ∀ d ∈ tables_1, d.before a0 Z = true) : (Jvm.Cond.static ({ cls := "java/lang/Math", name := "min", desc := "(II)I" } : Jvm.MethodName)).before a0 Z = true := hw _ (List.mem_of_getElem? (i := 211) rfl)
theorem wd212 {Z : State} {a0 : Array Value} (hw : ∀ d ∈ tables_1, d.before a0 Z = true) : (Jvm.Cond.initialized "java/lang/Math").before a0 Z = true := hw _ (List.mem_of_getElem? (i := 212) rfl)
theorem wd213 {Z : State} {a0 : Array Value} (hw : ∀ d ∈ tables_1, d.before a0 Z = true) : (Jvm.Cond.code ({ cls := "java/lang/Math", name := "min", desc := "(II)I" } : Jvm.MethodName) jdk_29_method_69_code (2 : Nat) (Option.some Jvm.ClassFile.FieldType.int)).before a0 Z = true := hw _ (List.mem_of_getElem? (i := 213) rfl)
theorem wd214 {Z : State} {a0 : Array Value} (hw : ∀ d ∈ tables_1, d.before a0 Z = true) : (Jvm.Cond.methodLink "java/util/Arrays" (150 : Nat) ({ cls := "java/lang/System", name := "arraycopy", desc := "(Ljava/lang/Object;ILjava/lang/Object;II)V" } : Jvm.MethodName)).before a0 Z = true := hw _ (List.mem_of_getElem? (i := 214) rfl)
theorem wd215 {Z : State} {a0 : Array Value} (hw : ∀ d ∈ tables_1, d.before a0 Z = true) : (Jvm.Cond.methodLink "com/example/fate_of_jobs/fateofjobs/conformance/CaseFormatException" (27 : Nat) ({ cls := "com/example/fate_of_jobs/fateofjobs/conformance/CaseFormatException", name := "<init>", desc := "(Ljava/lang/String;)V" } : Jvm.MethodName)).before a0 Z = true := hw _ (List.mem_of_getElem? (i := 215) rfl)
theorem wd216 {Z : State} {a0 : Array Value} (hw : ∀ d ∈ tables_1, d.before a0 Z = true) : (Jvm.Cond.methodLink "com/example/fate_of_jobs/fateofjobs/conformance/CaseFormatExceptionWithinPinLaw" (34 : Nat) ({ cls := "com/example/fate_of_jobs/fateofjobs/conformance/CaseFormatException", name := "getMessage", desc := "()Ljava/lang/String;" } : Jvm.MethodName)).before a0 Z = true := hw _ (List.mem_of_getElem? (i := 216) rfl)
theorem wd217 {Z : State} {a0 : Array Value} (hw : ∀ d ∈ tables_1, d.before a0 Z = true) : (Jvm.Cond.methodLink "com/example/fate_of_jobs/fateofjobs/conformance/CaseFormatExceptionWithinPinLaw" (38 : Nat) ({ cls := "java/lang/String", name := "length", desc := "()I" } : Jvm.MethodName)).before a0 Z = true := hw _ (List.mem_of_getElem? (i := 217) rfl)
theorem wd218 {Z : State} {a0 : Array Value} (hw : ∀ d ∈ tables_1, d.before a0 Z = true) : (Jvm.Cond.methodLink "com/example/fate_of_jobs/fateofjobs/conformance/CaseFormatExceptionWithinPinLaw" (42 : Nat) ({ cls := "java/lang/String", name := "charAt", desc := "(I)C" } : Jvm.MethodName)).before a0 Z = true := hw _ (List.mem_of_getElem? (i := 218) rfl)
theorem wd219 {Z : State} {a0 : Array Value} (hw : ∀ d ∈ tables_1, d.before a0 Z = true) : (Jvm.Cond.declares ({ cls := "java/lang/String", name := "charAt", desc := "(I)C" } : Jvm.MethodName)).before a0 Z = true := hw _ (List.mem_of_getElem? (i := 219) rfl)
theorem wd220 {Z : State} {a0 : Array Value} (hw : ∀ d ∈ tables_1, d.before a0 Z = true) : (Jvm.Cond.instanceMethod ({ cls := "java/lang/String", name := "charAt", desc := "(I)C" } : Jvm.MethodName)).before a0 Z = true := hw _ (List.mem_of_getElem? (i := 220) rfl)
theorem wd221 {Z : State} {a0 : Array Value} (hw : ∀ d ∈ tables_1, d.before a0 Z = true) : (Jvm.Cond.selects "java/lang/String" ({ cls := "java/lang/String", name := "charAt", desc := "(I)C" } : Jvm.MethodName) ({ cls := "java/lang/String", name := "charAt", desc := "(I)C" } : Jvm.MethodName)).before a0 Z = true := hw _ (List.mem_of_getElem? (i := 221) rfl)
theorem wd222 {Z : State} {a0 : Array Value} (hw : ∀ d ∈ tables_1, d.before a0 Z = true) : (Jvm.Cond.code ({ cls := "java/lang/String", name := "charAt", desc := "(I)C" } : Jvm.MethodName) jdk_42_method_56_code (2 : Nat) (Option.some Jvm.ClassFile.FieldType.char)).before a0 Z = true := hw _ (List.mem_of_getElem? (i := 222) rfl)
theorem wd223 {Z : State} {a0 : Array Value} (hw : ∀ d ∈ tables_1, d.before a0 Z = true) : (Jvm.Cond.methodLink "java/lang/String" (492 : Nat) ({ cls := "java/lang/String", name := "isLatin1", desc := "()Z" } : Jvm.MethodName)).before a0 Z = true := hw _ (List.mem_of_getElem? (i := 223) rfl)
theorem wd224 {Z : State} {a0 : Array Value} (hw : ∀ d ∈ tables_1, d.before a0 Z = true) : (Jvm.Cond.declares ({ cls := "java/lang/String", name := "isLatin1", desc := "()Z" } : Jvm.MethodName)).before a0 Z = true := hw _ (List.mem_of_getElem? (i := 224) rfl)
theorem wd225 {Z : State} {a0 : Array Value} (hw : ∀ d ∈ tables_1, d.before a0 Z = true) : (Jvm.Cond.instanceMethod ({ cls := "java/lang/String", name := "isLatin1", desc := "()Z" } : Jvm.MethodName)).before a0 Z = true := hw _ (List.mem_of_getElem? (i := 225) rfl)
theorem wd226 {Z : State} {a0 : Array Value} (hw : ∀ d ∈ tables_1, d.before a0 Z = true) : (Jvm.Cond.selects "java/lang/String" ({ cls := "java/lang/String", name := "isLatin1", desc := "()Z" } : Jvm.MethodName) ({ cls := "java/lang/String", name := "isLatin1", desc := "()Z" } : Jvm.MethodName)).before a0 Z = true := hw _ (List.mem_of_getElem? (i := 226) rfl)
theorem wd227 {Z : State} {a0 : Array Value} (hw : ∀ d ∈ tables_1, d.before a0 Z = true) : (Jvm.Cond.code ({ cls := "java/lang/String", name := "isLatin1", desc := "()Z" } : Jvm.MethodName) jdk_42_method_154_code (1 : Nat) (Option.some Jvm.ClassFile.FieldType.boolean)).before a0 Z = true := hw _ (List.mem_of_getElem? (i := 227) rfl)
theorem wd228 {Z : State} {a0 : Array Value} (hw : ∀ d ∈ tables_1, d.before a0 Z = true) : (Jvm.Cond.methodLink "java/lang/String" (495 : Nat) ({ cls := "java/lang/StringLatin1", name := "charAt", desc := "([BI)C" } : Jvm.MethodName)).before a0 Z = true := hw _ (List.mem_of_getElem? (i := 228) rfl)
theorem wd229 {Z : State} {a0 : Array Value} (hw : ∀ d ∈ tables_1, d.before a0 Z = true) : (Jvm.Cond.static ({ cls := "java/lang/StringLatin1", name := "charAt", desc := "([BI)C" } : Jvm.MethodName)).before a0 Z = true := hw _ (List.mem_of_getElem? (i := 229) rfl)
theorem wd230 {Z : State} {a0 : Array Value} (hw : ∀ d ∈ tables_1, d.before a0 Z = true) : (Jvm.Cond.initialized "java/lang/StringLatin1").before a0 Z = true := hw _ (List.mem_of_getElem? (i := 230) rfl)
theorem wd231 {Z : State} {a0 : Array Value} (hw : ∀ d ∈ tables_1, d.before a0 Z = true) : (Jvm.Cond.code ({ cls := "java/lang/StringLatin1", name := "charAt", desc := "([BI)C" } : Jvm.MethodName) jdk_43_method_2_code (2 : Nat) (Option.some Jvm.ClassFile.FieldType.char)).before a0 Z = true := hw _ (List.mem_of_getElem? (i := 231) rfl)
theorem wd232 {Z : State} {a0 : Array Value} (hw : ∀ d ∈ tables_1, d.before a0 Z = true) : (Jvm.Cond.methodLink "java/lang/StringLatin1" (9 : Nat) ({ cls := "java/lang/String", name := "checkIndex", desc := "(II)V" } : Jvm.MethodName)).before a0 Z = true := hw _ (List.mem_of_getElem? (i := 232) rfl)
theorem wd233 {Z : State} {a0 : Array Value} (hw : ∀ d ∈ tables_1, d.before a0 Z = true) : (Jvm.Cond.static ({ cls := "java/lang/String", name := "checkIndex", desc := "(II)V" } : Jvm.MethodName)).before a0 Z = true := hw _ (List.mem_of_getElem? (i := 233) rfl)
theorem wd234 {Z : State} {a0 : Array Value} (hw : ∀ d ∈ tables_1, d.before a0 Z = true) : (Jvm.Cond.code ({ cls := "java/lang/String", name := "checkIndex", desc := "(II)V" } : Jvm.MethodName) jdk_42_method_155_code (2 : Nat) (Option.none : Option Jvm.ClassFile.FieldType)).before a0 Z = true := hw _ (List.mem_of_getElem? (i := 234) rfl)
theorem wd235 {Z : State} {a0 : Array Value} (hw : ∀ d ∈ tables_1, d.before a0 Z = true) : (Jvm.Cond.fieldLink "java/lang/String" (1053 : Nat) "jdk/internal/util/Preconditions" "SIOOBE_FORMATTER" "Ljava/util/function/BiFunction;").before a0 Z = true := hw _ (List.mem_of_getElem? (i := 235) rfl)
theorem wd236 {Z : State} {a0 : Array Value} (hw : ∀ d ∈ tables_1, d.before a0 Z = true) : (Jvm.Cond.initialized "jdk/internal/util/Preconditions").before a0 Z = true := hw _ (List.mem_of_getElem? (i := 236) rfl)
theorem wd237 {Z : State} {a0 : Array Value} (hw : ∀ d ∈ tables_1, d.before a0 Z = true) : (Jvm.Cond.methodLink "java/lang/String" (1059 : Nat) ({ cls := "jdk/internal/util/Preconditions", name := "checkIndex", desc := "(IILjava/util/function/BiFunction;)I" } : Jvm.MethodName)).before a0 Z = true := hw _ (List.mem_of_getElem? (i := 237) rfl)
theorem wd238 {Z : State} {a0 : Array Value} (hw : ∀ d ∈ tables_1, d.before a0 Z = true) : (Jvm.Cond.static ({ cls := "jdk/internal/util/Preconditions", name := "checkIndex", desc := "(IILjava/util/function/BiFunction;)I" } : Jvm.MethodName)).before a0 Z = true := hw _ (List.mem_of_getElem? (i := 238) rfl)
theorem wd239 {Z : State} {a0 : Array Value} (hw : ∀ d ∈ tables_1, d.before a0 Z = true) : (Jvm.Cond.code ({ cls := "jdk/internal/util/Preconditions", name := "checkIndex", desc := "(IILjava/util/function/BiFunction;)I" } : Jvm.MethodName) jdk_41_method_11_code (3 : Nat) (Option.some Jvm.ClassFile.FieldType.int)).before a0 Z = true := hw _ (List.mem_of_getElem? (i := 239) rfl)
theorem wd240 {Z : State} {a0 : Array Value} (hw : ∀ d ∈ tables_1, d.before a0 Z = true) : (Jvm.Cond.methodLink "com/example/fate_of_jobs/fateofjobs/conformance/CaseFormatExceptionWithinPinLaw" (46 : Nat) ({ cls := "java/lang/String", name := "equals", desc := "(Ljava/lang/Object;)Z" } : Jvm.MethodName)).before a0 Z = true := hw _ (List.mem_of_getElem? (i := 240) rfl)
theorem wd241 {Z : State} {a0 : Array Value} (hw : ∀ d ∈ tables_1, d.before a0 Z = true) : (Jvm.Cond.declares ({ cls := "java/lang/String", name := "equals", desc := "(Ljava/lang/Object;)Z" } : Jvm.MethodName)).before a0 Z = true := hw _ (List.mem_of_getElem? (i := 241) rfl)
theorem wd242 {Z : State} {a0 : Array Value} (hw : ∀ d ∈ tables_1, d.before a0 Z = true) : (Jvm.Cond.instanceMethod ({ cls := "java/lang/String", name := "equals", desc := "(Ljava/lang/Object;)Z" } : Jvm.MethodName)).before a0 Z = true := hw _ (List.mem_of_getElem? (i := 242) rfl)
theorem wd243 {Z : State} {a0 : Array Value} (hw : ∀ d ∈ tables_1, d.before a0 Z = true) : (Jvm.Cond.selects "java/lang/String" ({ cls := "java/lang/String", name := "equals", desc := "(Ljava/lang/Object;)Z" } : Jvm.MethodName) ({ cls := "java/lang/String", name := "equals", desc := "(Ljava/lang/Object;)Z" } : Jvm.MethodName)).before a0 Z = true := hw _ (List.mem_of_getElem? (i := 243) rfl)
theorem wd244 {Z : State} {a0 : Array Value} (hw : ∀ d ∈ tables_1, d.before a0 Z = true) : (Jvm.Cond.code ({ cls := "java/lang/String", name := "equals", desc := "(Ljava/lang/Object;)Z" } : Jvm.MethodName) jdk_42_method_66_code (3 : Nat) (Option.some Jvm.ClassFile.FieldType.boolean)).before a0 Z = true := hw _ (List.mem_of_getElem? (i := 244) rfl)
theorem wd245 {Z : State} {a0 : Array Value} (hw : ∀ d ∈ tables_1, d.before a0 Z = true) : (Jvm.Cond.methodLink "com/example/fate_of_jobs/fateofjobs/conformance/CaseFormatExceptionWithinPinLaw" (10 : Nat) ({ cls := "java/lang/String", name := "valueOf", desc := "(C)Ljava/lang/String;" } : Jvm.MethodName)).before a0 Z = true := hw _ (List.mem_of_getElem? (i := 245) rfl)
theorem wd246 {Z : State} {a0 : Array Value} (hw : ∀ d ∈ tables_1, d.before a0 Z = true) : (Jvm.Cond.static ({ cls := "java/lang/String", name := "valueOf", desc := "(C)Ljava/lang/String;" } : Jvm.MethodName)).before a0 Z = true := hw _ (List.mem_of_getElem? (i := 246) rfl)
theorem wd247 {Z : State} {a0 : Array Value} (hw : ∀ d ∈ tables_1, d.before a0 Z = true) : (Jvm.Cond.code ({ cls := "java/lang/String", name := "valueOf", desc := "(C)Ljava/lang/String;" } : Jvm.MethodName) jdk_42_method_139_code (1 : Nat) (Option.some (Jvm.ClassFile.FieldType.object "java/lang/String"))).before a0 Z = true := hw _ (List.mem_of_getElem? (i := 247) rfl)
theorem wd248 {Z : State} {a0 : Array Value} (hw : ∀ d ∈ tables_1, d.before a0 Z = true) : (Jvm.Cond.methodLink "java/lang/String" (1015 : Nat) ({ cls := "java/lang/StringLatin1", name := "canEncode", desc := "(C)Z" } : Jvm.MethodName)).before a0 Z = true := hw _ (List.mem_of_getElem? (i := 248) rfl)
theorem wd249 {Z : State} {a0 : Array Value} (hw : ∀ d ∈ tables_1, d.before a0 Z = true) : (Jvm.Cond.static ({ cls := "java/lang/StringLatin1", name := "canEncode", desc := "(C)Z" } : Jvm.MethodName)).before a0 Z = true := hw _ (List.mem_of_getElem? (i := 249) rfl)
theorem wd250 {Z : State} {a0 : Array Value} (hw : ∀ d ∈ tables_1, d.before a0 Z = true) : (Jvm.Cond.code ({ cls := "java/lang/StringLatin1", name := "canEncode", desc := "(C)Z" } : Jvm.MethodName) jdk_43_method_3_code (1 : Nat) (Option.some Jvm.ClassFile.FieldType.boolean)).before a0 Z = true := hw _ (List.mem_of_getElem? (i := 250) rfl)
theorem wd251 {Z : State} {a0 : Array Value} (hw : ∀ d ∈ tables_1, d.before a0 Z = true) : (Jvm.Cond.classLink "java/lang/String" (10 : Nat) "java/lang/String").before a0 Z = true := hw _ (List.mem_of_getElem? (i := 251) rfl)
theorem wd252 {Z : State} {a0 : Array Value} (hw : ∀ d ∈ tables_1, d.before a0 Z = true) : (Jvm.Cond.methodLink "java/lang/String" (1021 : Nat) ({ cls := "java/lang/StringUTF16", name := "toBytes", desc := "(C)[B" } : Jvm.MethodName)).before a0 Z = true := hw _ (List.mem_of_getElem? (i := 252) rfl)
theorem wd253 {Z : State} {a0 : Array Value} (hw : ∀ d ∈ tables_1, d.before a0 Z = true) : (Jvm.Cond.static ({ cls := "java/lang/StringUTF16", name := "toBytes", desc := "(C)[B" } : Jvm.MethodName)).before a0 Z = true := hw _ (List.mem_of_getElem? (i := 253) rfl)
theorem wd254 {Z : State} {a0 : Array Value} (hw : ∀ d ∈ tables_1, d.before a0 Z = true) : (Jvm.Cond.code ({ cls := "java/lang/StringUTF16", name := "toBytes", desc := "(C)[B" } : Jvm.MethodName) jdk_52_method_24_code (2 : Nat) (Option.some (Jvm.ClassFile.FieldType.array Jvm.ClassFile.FieldType.byte))).before a0 Z = true := hw _ (List.mem_of_getElem? (i := 254) rfl)
theorem wd255 {Z : State} {a0 : Array Value} (hw : ∀ d ∈ tables_1, d.before a0 Z = true) : (Jvm.Cond.methodLink "java/lang/StringUTF16" (111 : Nat) ({ cls := "java/lang/StringUTF16", name := "putChar", desc := "([BII)V" } : Jvm.MethodName)).before a0 Z = true := hw _ (List.mem_of_getElem? (i := 255) rfl)
theorem wd256 {Z : State} {a0 : Array Value} (hw : ∀ d ∈ tables_1, d.before a0 Z = true) : (Jvm.Cond.static ({ cls := "java/lang/StringUTF16", name := "putChar", desc := "([BII)V" } : Jvm.MethodName)).before a0 Z = true := hw _ (List.mem_of_getElem? (i := 256) rfl)
theorem wd257 {Z : State} {a0 : Array Value} (hw : ∀ d ∈ tables_1, d.before a0 Z = true) : (Jvm.Cond.code ({ cls := "java/lang/StringUTF16", name := "putChar", desc := "([BII)V" } : Jvm.MethodName) jdk_52_method_4_code (3 : Nat) (Option.none : Option Jvm.ClassFile.FieldType)).before a0 Z = true := hw _ (List.mem_of_getElem? (i := 257) rfl)
theorem wd258 {Z : State} {a0 : Array Value} (hw : ∀ d ∈ tables_1, d.before a0 Z = true) : (Jvm.Cond.fieldLink "java/lang/StringUTF16" (44 : Nat) "java/lang/StringUTF16" "$assertionsDisabled" "Z").before a0 Z = true := hw _ (List.mem_of_getElem? (i := 258) rfl)
theorem wd259 {Z : State} {a0 : Array Value} (hw : ∀ d ∈ tables_1, d.before a0 Z = true) : (Jvm.Cond.fieldLink "java/lang/StringUTF16" (59 : Nat) "java/lang/StringUTF16" "HI_BYTE_SHIFT" "I").before a0 Z = true := hw _ (List.mem_of_getElem? (i := 259) rfl)
theorem wd260 {Z : State} {a0 : Array Value} (hw : ∀ d ∈ tables_1, d.before a0 Z = true) : (Jvm.Cond.fieldLink "java/lang/StringUTF16" (63 : Nat) "java/lang/StringUTF16" "LO_BYTE_SHIFT" "I").before a0 Z = true := hw _ (List.mem_of_getElem? (i := 260) rfl)
theorem wd261 {Z : State} {a0 : Array Value} (hw : ∀ d ∈ tables_1, d.before a0 Z = true) : (Jvm.Cond.methodLink "java/lang/String" (209 : Nat) ({ cls := "java/lang/String", name := "<init>", desc := "([BB)V" } : Jvm.MethodName)).before a0 Z = true := hw _ (List.mem_of_getElem? (i := 261) rfl)
theorem wd262 {Z : State} {a0 : Array Value} (hw : ∀ d ∈ tables_1, d.before a0 Z = true) : (Jvm.Cond.instanceMethod ({ cls := "java/lang/String", name := "<init>", desc := "([BB)V" } : Jvm.MethodName)).before a0 Z = true := hw _ (List.mem_of_getElem? (i := 262) rfl)
theorem wd263 {Z : State} {a0 : Array Value} (hw : ∀ d ∈ tables_1, d.before a0 Z = true) : (Jvm.Cond.code ({ cls := "java/lang/String", name := "<init>", desc := "([BB)V" } : Jvm.MethodName) jdk_42_method_151_code (3 : Nat) (Option.none : Option Jvm.ClassFile.FieldType)).before a0 Z = true := hw _ (List.mem_of_getElem? (i := 263) rfl)
theorem wd264 {Z : State} {a0 : Array Value} (hw : ∀ d ∈ tables_1, d.before a0 Z = true) : (Jvm.Cond.methodLink "java/lang/AbstractStringBuilder" (195 : Nat) ({ cls := "java/lang/AbstractStringBuilder", name := "inflate", desc := "()V" } : Jvm.MethodName)).before a0 Z = true := hw _ (List.mem_of_getElem? (i := 264) rfl)
theorem wd265 {Z : State} {a0 : Array Value} (hw : ∀ d ∈ tables_1, d.before a0 Z = true) : (Jvm.Cond.instanceMethod ({ cls := "java/lang/AbstractStringBuilder", name := "inflate", desc := "()V" } : Jvm.MethodName)).before a0 Z = true := hw _ (List.mem_of_getElem? (i := 265) rfl)
theorem wd266 {Z : State} {a0 : Array Value} (hw : ∀ d ∈ tables_1, d.before a0 Z = true) : (Jvm.Cond.privateMethod ({ cls := "java/lang/AbstractStringBuilder", name := "inflate", desc := "()V" } : Jvm.MethodName)).before a0 Z = true := hw _ (List.mem_of_getElem? (i := 266) rfl)
theorem wd267 {Z : State} {a0 : Array Value} (hw : ∀ d ∈ tables_1, d.before a0 Z = true) : (Jvm.Cond.selects "java/lang/StringBuilder" ({ cls := "java/lang/AbstractStringBuilder", name := "inflate", desc := "()V" } : Jvm.MethodName) ({ cls := "java/lang/AbstractStringBuilder", name := "inflate", desc := "()V" } : Jvm.MethodName)).before a0 Z = true := hw _ (List.mem_of_getElem? (i := 267) rfl)
theorem wd268 {Z : State} {a0 : Array Value} (hw : ∀ d ∈ tables_1, d.before a0 Z = true) : (Jvm.Cond.code ({ cls := "java/lang/AbstractStringBuilder", name := "inflate", desc := "()V" } : Jvm.MethodName) jdk_68_method_11_code (2 : Nat) (Option.none : Option Jvm.ClassFile.FieldType)).before a0 Z = true := hw _ (List.mem_of_getElem? (i := 268) rfl)
theorem wd269 {Z : State} {a0 : Array Value} (hw : ∀ d ∈ tables_1, d.before a0 Z = true) : (Jvm.Cond.methodLink "java/lang/AbstractStringBuilder" (83 : Nat) ({ cls := "java/lang/AbstractStringBuilder", name := "isLatin1", desc := "()Z" } : Jvm.MethodName)).before a0 Z = true := hw _ (List.mem_of_getElem? (i := 269) rfl)
theorem wd270 {Z : State} {a0 : Array Value} (hw : ∀ d ∈ tables_1, d.before a0 Z = true) : (Jvm.Cond.methodLink "java/lang/AbstractStringBuilder" (26 : Nat) ({ cls := "java/lang/StringUTF16", name := "newBytesFor", desc := "(I)[B" } : Jvm.MethodName)).before a0 Z = true := hw _ (List.mem_of_getElem? (i := 270) rfl)
theorem wd271 {Z : State} {a0 : Array Value} (hw : ∀ d ∈ tables_1, d.before a0 Z = true) : (Jvm.Cond.static ({ cls := "java/lang/StringUTF16", name := "newBytesFor", desc := "(I)[B" } : Jvm.MethodName)).before a0 Z = true := hw _ (List.mem_of_getElem? (i := 271) rfl)
theorem wd272 {Z : State} {a0 : Array Value} (hw : ∀ d ∈ tables_1, d.before a0 Z = true) : (Jvm.Cond.code ({ cls := "java/lang/StringUTF16", name := "newBytesFor", desc := "(I)[B" } : Jvm.MethodName) jdk_52_method_2_code (1 : Nat) (Option.some (Jvm.ClassFile.FieldType.array Jvm.ClassFile.FieldType.byte))).before a0 Z = true := hw _ (List.mem_of_getElem? (i := 272) rfl)
theorem wd273 {Z : State} {a0 : Array Value} (hw : ∀ d ∈ tables_1, d.before a0 Z = true) : (Jvm.Cond.methodLink "java/lang/StringUTF16" (11 : Nat) ({ cls := "java/lang/StringUTF16", name := "newBytesLength", desc := "(I)I" } : Jvm.MethodName)).before a0 Z = true := hw _ (List.mem_of_getElem? (i := 273) rfl)
theorem wd274 {Z : State} {a0 : Array Value} (hw : ∀ d ∈ tables_1, d.before a0 Z = true) : (Jvm.Cond.static ({ cls := "java/lang/StringUTF16", name := "newBytesLength", desc := "(I)I" } : Jvm.MethodName)).before a0 Z = true := hw _ (List.mem_of_getElem? (i := 274) rfl)
theorem wd275 {Z : State} {a0 : Array Value} (hw : ∀ d ∈ tables_1, d.before a0 Z = true) : (Jvm.Cond.code ({ cls := "java/lang/StringUTF16", name := "newBytesLength", desc := "(I)I" } : Jvm.MethodName) jdk_52_method_3_code (1 : Nat) (Option.some Jvm.ClassFile.FieldType.int)).before a0 Z = true := hw _ (List.mem_of_getElem? (i := 275) rfl)
theorem wd276 {Z : State} {a0 : Array Value} (hw : ∀ d ∈ tables_1, d.before a0 Z = true) : (Jvm.Cond.constant "java/lang/StringUTF16" (20 : Nat) (1073741823 : Int32)).before a0 Z = true := hw _ (List.mem_of_getElem? (i := 276) rfl)
theorem wd277 {Z : State} {a0 : Array Value} (hw : ∀ d ∈ tables_1, d.before a0 Z = true) : (Jvm.Cond.methodLink "java/lang/AbstractStringBuilder" (125 : Nat) ({ cls := "java/lang/StringLatin1", name := "inflate", desc := "([BI[BII)V" } : Jvm.MethodName)).before a0 Z = true := hw _ (List.mem_of_getElem? (i := 277) rfl)
theorem wd278 {Z : State} {a0 : Array Value} (hw : ∀ d ∈ tables_1, d.before a0 Z = true) : (Jvm.Cond.static ({ cls := "java/lang/StringLatin1", name := "inflate", desc := "([BI[BII)V" } : Jvm.MethodName)).before a0 Z = true := hw _ (List.mem_of_getElem? (i := 278) rfl)
theorem wd279 {Z : State} {a0 : Array Value} (hw : ∀ d ∈ tables_1, d.before a0 Z = true) : (Jvm.Cond.code ({ cls := "java/lang/StringLatin1", name := "inflate", desc := "([BI[BII)V" } : Jvm.MethodName) jdk_43_method_50_code (5 : Nat) (Option.none : Option Jvm.ClassFile.FieldType)).before a0 Z = true := hw _ (List.mem_of_getElem? (i := 279) rfl)
theorem wd280 {Z : State} {a0 : Array Value} (hw : ∀ d ∈ tables_1, d.before a0 Z = true) : (Jvm.Cond.methodLink "java/lang/StringLatin1" (240 : Nat) ({ cls := "java/lang/StringUTF16", name := "inflate", desc := "([BI[BII)V" } : Jvm.MethodName)).before a0 Z = true := hw _ (List.mem_of_getElem? (i := 280) rfl)
theorem wd281 {Z : State} {a0 : Array Value} (hw : ∀ d ∈ tables_1, d.before a0 Z = true) : (Jvm.Cond.static ({ cls := "java/lang/StringUTF16", name := "inflate", desc := "([BI[BII)V" } : Jvm.MethodName)).before a0 Z = true := hw _ (List.mem_of_getElem? (i := 281) rfl)
theorem wd282 {Z : State} {a0 : Array Value} (hw : ∀ d ∈ tables_1, d.before a0 Z = true) : (Jvm.Cond.code ({ cls := "java/lang/StringUTF16", name := "inflate", desc := "([BI[BII)V" } : Jvm.MethodName) jdk_52_method_86_code (6 : Nat) (Option.none : Option Jvm.ClassFile.FieldType)).before a0 Z = true := hw _ (List.mem_of_getElem? (i := 282) rfl)
theorem wd283 {Z : State} {a0 : Array Value} (hw : ∀ d ∈ tables_1, d.before a0 Z = true) : (Jvm.Cond.methodLink "java/lang/StringUTF16" (173 : Nat) ({ cls := "java/lang/StringUTF16", name := "checkBoundsOffCount", desc := "(II[B)V" } : Jvm.MethodName)).before a0 Z = true := hw _ (List.mem_of_getElem? (i := 283) rfl)
theorem wd284 {Z : State} {a0 : Array Value} (hw : ∀ d ∈ tables_1, d.before a0 Z = true) : (Jvm.Cond.static ({ cls := "java/lang/StringUTF16", name := "checkBoundsOffCount", desc := "(II[B)V" } : Jvm.MethodName)).before a0 Z = true := hw _ (List.mem_of_getElem? (i := 284) rfl)
theorem wd285 {Z : State} {a0 : Array Value} (hw : ∀ d ∈ tables_1, d.before a0 Z = true) : (Jvm.Cond.code ({ cls := "java/lang/StringUTF16", name := "checkBoundsOffCount", desc := "(II[B)V" } : Jvm.MethodName) jdk_52_method_94_code (3 : Nat) (Option.none : Option Jvm.ClassFile.FieldType)).before a0 Z = true := hw _ (List.mem_of_getElem? (i := 285) rfl)
theorem wd286 {Z : State} {a0 : Array Value} (hw : ∀ d ∈ tables_1, d.before a0 Z = true) : (Jvm.Cond.methodLink "java/lang/StringUTF16" (48 : Nat) ({ cls := "java/lang/StringUTF16", name := "length", desc := "([B)I" } : Jvm.MethodName)).before a0 Z = true := hw _ (List.mem_of_getElem? (i := 286) rfl)
theorem wd287 {Z : State} {a0 : Array Value} (hw : ∀ d ∈ tables_1, d.before a0 Z = true) : (Jvm.Cond.static ({ cls := "java/lang/StringUTF16", name := "length", desc := "([B)I" } : Jvm.MethodName)).before a0 Z = true := hw _ (List.mem_of_getElem? (i := 287) rfl)
theorem wd288 {Z : State} {a0 : Array Value} (hw : ∀ d ∈ tables_1, d.before a0 Z = true) : (Jvm.Cond.code ({ cls := "java/lang/StringUTF16", name := "length", desc := "([B)I" } : Jvm.MethodName) jdk_52_method_6_code (1 : Nat) (Option.some Jvm.ClassFile.FieldType.int)).before a0 Z = true := hw _ (List.mem_of_getElem? (i := 288) rfl)
theorem wd289 {Z : State} {a0 : Array Value} (hw : ∀ d ∈ tables_1, d.before a0 Z = true) : (Jvm.Cond.methodLink "java/lang/StringUTF16" (419 : Nat) ({ cls := "java/lang/String", name := "checkBoundsOffCount", desc := "(III)I" } : Jvm.MethodName)).before a0 Z = true := hw _ (List.mem_of_getElem? (i := 289) rfl)
theorem wd290 {Z : State} {a0 : Array Value} (hw : ∀ d ∈ tables_1, d.before a0 Z = true) : (Jvm.Cond.static ({ cls := "java/lang/String", name := "checkBoundsOffCount", desc := "(III)I" } : Jvm.MethodName)).before a0 Z = true := hw _ (List.mem_of_getElem? (i := 290) rfl)
theorem wd291 {Z : State} {a0 : Array Value} (hw : ∀ d ∈ tables_1, d.before a0 Z = true) : (Jvm.Cond.code ({ cls := "java/lang/String", name := "checkBoundsOffCount", desc := "(III)I" } : Jvm.MethodName) jdk_42_method_157_code (3 : Nat) (Option.some Jvm.ClassFile.FieldType.int)).before a0 Z = true := hw _ (List.mem_of_getElem? (i := 291) rfl)
theorem wd292 {Z : State} {a0 : Array Value} (hw : ∀ d ∈ tables_1, d.before a0 Z = true) : (Jvm.Cond.methodLink "java/lang/String" (1065 : Nat) ({ cls := "jdk/internal/util/Preconditions", name := "checkFromIndexSize", desc := "(IIILjava/util/function/BiFunction;)I" } : Jvm.MethodName)).before a0 Z = true := hw _ (List.mem_of_getElem? (i := 292) rfl)
theorem wd293 {Z : State} {a0 : Array Value} (hw : ∀ d ∈ tables_1, d.before a0 Z = true) : (Jvm.Cond.static ({ cls := "jdk/internal/util/Preconditions", name := "checkFromIndexSize", desc := "(IIILjava/util/function/BiFunction;)I" } : Jvm.MethodName)).before a0 Z = true := hw _ (List.mem_of_getElem? (i := 293) rfl)
theorem wd294 {Z : State} {a0 : Array Value} (hw : ∀ d ∈ tables_1, d.before a0 Z = true) : (Jvm.Cond.code ({ cls := "jdk/internal/util/Preconditions", name := "checkFromIndexSize", desc := "(IIILjava/util/function/BiFunction;)I" } : Jvm.MethodName) jdk_41_method_13_code (4 : Nat) (Option.some Jvm.ClassFile.FieldType.int)).before a0 Z = true := hw _ (List.mem_of_getElem? (i := 294) rfl)
theorem wd295 {Z : State} {a0 : Array Value} (hw : ∀ d ∈ tables_1, d.before a0 Z = true) : (Jvm.Cond.methodLink "java/lang/String" (106 : Nat) ({ cls := "java/lang/StringLatin1", name := "inflate", desc := "([BI[BII)V" } : Jvm.MethodName)).before a0 Z = true := hw _ (List.mem_of_getElem? (i := 295) rfl)
theorem wd296 {Z : State} {a0 : Array Value} (hw : ∀ d ∈ tables_1, d.before a0 Z = true) : (Jvm.Cond.fieldLink "java/lang/String" (1048 : Nat) "java/lang/AbstractStringBuilder" "maybeLatin1" "Z").before a0 Z = true := hw _ (List.mem_of_getElem? (i := 296) rfl)
theorem wd297 {Z : State} {a0 : Array Value} (hw : ∀ d ∈ tables_1, d.before a0 Z = true) : (Jvm.Cond.lays "java/lang/StringBuilder" "java/lang/AbstractStringBuilder" "maybeLatin1" "Z").before a0 Z = true := hw _ (List.mem_of_getElem? (i := 297) rfl)
theorem wd298 {Z : State} {a0 : Array Value} (hw : ∀ d ∈ tables_1, d.before a0 Z = true) : (Jvm.Cond.methodLink "java/lang/String" (498 : Nat) ({ cls := "java/lang/StringUTF16", name := "charAt", desc := "([BI)C" } : Jvm.MethodName)).before a0 Z = true := hw _ (List.mem_of_getElem? (i := 298) rfl)
theorem wd299 {Z : State} {a0 : Array Value} (hw : ∀ d ∈ tables_1, d.before a0 Z = true) : (Jvm.Cond.static ({ cls := "java/lang/StringUTF16", name := "charAt", desc := "([BI)C" } : Jvm.MethodName)).before a0 Z = true := hw _ (List.mem_of_getElem? (i := 299) rfl)
theorem wd300 {Z : State} {a0 : Array Value} (hw : ∀ d ∈ tables_1, d.before a0 Z = true) : (Jvm.Cond.code ({ cls := "java/lang/StringUTF16", name := "charAt", desc := "([BI)C" } : Jvm.MethodName) jdk_52_method_83_code (2 : Nat) (Option.some Jvm.ClassFile.FieldType.char)).before a0 Z = true := hw _ (List.mem_of_getElem? (i := 300) rfl)
theorem wd301 {Z : State} {a0 : Array Value} (hw : ∀ d ∈ tables_1, d.before a0 Z = true) : (Jvm.Cond.methodLink "java/lang/StringUTF16" (67 : Nat) ({ cls := "java/lang/StringUTF16", name := "checkIndex", desc := "(I[B)V" } : Jvm.MethodName)).before a0 Z = true := hw _ (List.mem_of_getElem? (i := 301) rfl)
theorem wd302 {Z : State} {a0 : Array Value} (hw : ∀ d ∈ tables_1, d.before a0 Z = true) : (Jvm.Cond.static ({ cls := "java/lang/StringUTF16", name := "checkIndex", desc := "(I[B)V" } : Jvm.MethodName)).before a0 Z = true := hw _ (List.mem_of_getElem? (i := 302) rfl)
theorem wd303 {Z : State} {a0 : Array Value} (hw : ∀ d ∈ tables_1, d.before a0 Z = true) : (Jvm.Cond.code ({ cls := "java/lang/StringUTF16", name := "checkIndex", desc := "(I[B)V" } : Jvm.MethodName) jdk_52_method_91_code (2 : Nat) (Option.none : Option Jvm.ClassFile.FieldType)).before a0 Z = true := hw _ (List.mem_of_getElem? (i := 303) rfl)
theorem wd304 {Z : State} {a0 : Array Value} (hw : ∀ d ∈ tables_1, d.before a0 Z = true) : (Jvm.Cond.methodLink "java/lang/StringUTF16" (414 : Nat) ({ cls := "java/lang/String", name := "checkIndex", desc := "(II)V" } : Jvm.MethodName)).before a0 Z = true := hw _ (List.mem_of_getElem? (i := 304) rfl)
theorem wd305 {Z : State} {a0 : Array Value} (hw : ∀ d ∈ tables_1, d.before a0 Z = true) : (Jvm.Cond.methodLink "java/lang/StringUTF16" (71 : Nat) ({ cls := "java/lang/StringUTF16", name := "getChar", desc := "([BI)C" } : Jvm.MethodName)).before a0 Z = true := hw _ (List.mem_of_getElem? (i := 305) rfl)
theorem wd306 {Z : State} {a0 : Array Value} (hw : ∀ d ∈ tables_1, d.before a0 Z = true) : (Jvm.Cond.static ({ cls := "java/lang/StringUTF16", name := "getChar", desc := "([BI)C" } : Jvm.MethodName)).before a0 Z = true := hw _ (List.mem_of_getElem? (i := 306) rfl)
theorem wd307 {Z : State} {a0 : Array Value} (hw : ∀ d ∈ tables_1, d.before a0 Z = true) : (Jvm.Cond.code ({ cls := "java/lang/StringUTF16", name := "getChar", desc := "([BI)C" } : Jvm.MethodName) jdk_52_method_5_code (2 : Nat) (Option.some Jvm.ClassFile.FieldType.char)).before a0 Z = true := hw _ (List.mem_of_getElem? (i := 307) rfl)
theorem wd308 {Z : State} {a0 : Array Value} (hw : ∀ d ∈ tables_1, d.before a0 Z = true) : (Jvm.Cond.methodLink "java/lang/String" (1018 : Nat) ({ cls := "java/lang/StringLatin1", name := "toBytes", desc := "(C)[B" } : Jvm.MethodName)).before a0 Z = true := hw _ (List.mem_of_getElem? (i := 308) rfl)
theorem wd309 {Z : State} {a0 : Array Value} (hw : ∀ d ∈ tables_1, d.before a0 Z = true) : (Jvm.Cond.static ({ cls := "java/lang/StringLatin1", name := "toBytes", desc := "(C)[B" } : Jvm.MethodName)).before a0 Z = true := hw _ (List.mem_of_getElem? (i := 309) rfl)
theorem wd310 {Z : State} {a0 : Array Value} (hw : ∀ d ∈ tables_1, d.before a0 Z = true) : (Jvm.Cond.code ({ cls := "java/lang/StringLatin1", name := "toBytes", desc := "(C)[B" } : Jvm.MethodName) jdk_43_method_46_code (1 : Nat) (Option.some (Jvm.ClassFile.FieldType.array Jvm.ClassFile.FieldType.byte))).before a0 Z = true := hw _ (List.mem_of_getElem? (i := 310) rfl)
theorem wd311 {Z : State} {a0 : Array Value} (hw : ∀ d ∈ tables_1, d.before a0 Z = true) : (Jvm.Cond.methodLink "java/lang/StringUTF16" (119 : Nat) ({ cls := "java/lang/StringUTF16", name := "toBytes", desc := "([CII)[B" } : Jvm.MethodName)).before a0 Z = true := hw _ (List.mem_of_getElem? (i := 311) rfl)
theorem wd312 {Z : State} {a0 : Array Value} (hw : ∀ d ∈ tables_1, d.before a0 Z = true) : (Jvm.Cond.static ({ cls := "java/lang/StringUTF16", name := "toBytes", desc := "([CII)[B" } : Jvm.MethodName)).before a0 Z = true := hw _ (List.mem_of_getElem? (i := 312) rfl)
theorem wd313 {Z : State} {a0 : Array Value} (hw : ∀ d ∈ tables_1, d.before a0 Z = true) : (Jvm.Cond.code ({ cls := "java/lang/StringUTF16", name := "toBytes", desc := "([CII)[B" } : Jvm.MethodName) jdk_52_method_14_code (5 : Nat) (Option.some (Jvm.ClassFile.FieldType.array Jvm.ClassFile.FieldType.byte))).before a0 Z = true := hw _ (List.mem_of_getElem? (i := 313) rfl)
theorem wd314 {Z : State} {a0 : Array Value} (hw : ∀ d ∈ tables_1, d.before a0 Z = true) : (Jvm.Cond.methodLink "java/lang/StringUTF16" (107 : Nat) ({ cls := "java/lang/StringUTF16", name := "newBytesFor", desc := "(I)[B" } : Jvm.MethodName)).before a0 Z = true := hw _ (List.mem_of_getElem? (i := 314) rfl)
theorem pd_0 : parseMethodDescriptor "()B" = some ⟨[], some .byte⟩ := by decide +kernel
theorem pd_1 : parseMethodDescriptor "(IILjava/util/function/BiFunction;)I" = some ⟨[.int, .int, (.object "java/util/function/BiFunction")], some .int⟩ := by decide +kernel
theorem pd_2 : parseMethodDescriptor "(II)V" = some ⟨[.int, .int], none⟩ := by decide +kernel
theorem pd_3 : parseMethodDescriptor "()Z" = some ⟨[], some .boolean⟩ := by decide +kernel
theorem pd_4 : parseMethodDescriptor "([BI)C" = some ⟨[(.array .byte), .int], some .char⟩ := by decide +kernel
theorem pd_5 : parseMethodDescriptor "(I)I" = some ⟨[.int], some .int⟩ := by decide +kernel
theorem pd_6 : parseMethodDescriptor "([B)I" = some ⟨[(.array .byte)], some .int⟩ := by decide +kernel
theorem pd_7 : parseMethodDescriptor "(I[B)V" = some ⟨[.int, (.array .byte)], none⟩ := by decide +kernel
theorem pd_8 : parseMethodDescriptor "([BII)V" = some ⟨[(.array .byte), .int, .int], none⟩ := by decide +kernel
theorem pd_9 : parseMethodDescriptor "(I)[B" = some ⟨[.int], some (.array .byte)⟩ := by decide +kernel
theorem pd_10 : parseMethodDescriptor "([CI[BII)I" = some ⟨[(.array .char), .int, (.array .byte), .int, .int], some .int⟩ := by decide +kernel
theorem pd_11 : parseMethodDescriptor "([CII)[B" = some ⟨[(.array .char), .int, .int], some (.array .byte)⟩ := by decide +kernel
theorem pd_12 : parseMethodDescriptor "([BI)B" = some ⟨[(.array .byte), .int], some .byte⟩ := by decide +kernel
theorem pd_13 : parseMethodDescriptor "([CIILjava/lang/Void;)V" = some ⟨[(.array .char), .int, .int, (.object "java/lang/Void")], none⟩ := by decide +kernel
theorem pd_14 : parseMethodDescriptor "(C)Z" = some ⟨[.char], some .boolean⟩ := by decide +kernel
theorem pd_15 : parseMethodDescriptor "(C)[B" = some ⟨[.char], some (.array .byte)⟩ := by decide +kernel
theorem pd_16 : parseMethodDescriptor "([BB)V" = some ⟨[(.array .byte), .byte], none⟩ := by decide +kernel
theorem pd_17 : parseMethodDescriptor "(IIILjava/util/function/BiFunction;)I" = some ⟨[.int, .int, .int, (.object "java/util/function/BiFunction")], some .int⟩ := by decide +kernel
theorem pd_18 : parseMethodDescriptor "(III)I" = some ⟨[.int, .int, .int], some .int⟩ := by decide +kernel
theorem pd_19 : parseMethodDescriptor "(II[B)V" = some ⟨[.int, .int, (.array .byte)], none⟩ := by decide +kernel
theorem pd_20 : parseMethodDescriptor "([BI[BII)V" = some ⟨[(.array .byte), .int, (.array .byte), .int, .int], none⟩ := by decide +kernel
theorem pd_21 : parseMethodDescriptor "(I)V" = some ⟨[.int], none⟩ := by decide +kernel
theorem pd_22 : parseMethodDescriptor "()V" = some ⟨[], none⟩ := by decide +kernel
theorem pd_23 : parseMethodDescriptor "(Ljava/lang/String;)V" = some ⟨[(.object "java/lang/String")], none⟩ := by decide +kernel
theorem pd_24 : parseMethodDescriptor "([BIB)V" = some ⟨[(.array .byte), .int, .byte], none⟩ := by decide +kernel
theorem pd_25 : parseMethodDescriptor "()I" = some ⟨[], some .int⟩ := by decide +kernel
theorem pd_26 : parseMethodDescriptor "(ILjava/lang/String;)V" = some ⟨[.int, (.object "java/lang/String")], none⟩ := by decide +kernel
theorem pd_27 : parseMethodDescriptor "(Ljava/lang/String;)Ljava/lang/AbstractStringBuilder;" = some ⟨[(.object "java/lang/String")], some (.object "java/lang/AbstractStringBuilder")⟩ := by decide +kernel
theorem pd_28 : parseMethodDescriptor "(II)I" = some ⟨[.int, .int], some .int⟩ := by decide +kernel
theorem pd_29 : parseMethodDescriptor "([BII)[B" = some ⟨[(.array .byte), .int, .int], some (.array .byte)⟩ := by decide +kernel
theorem pd_30 : parseMethodDescriptor "()[B" = some ⟨[], some (.array .byte)⟩ := by decide +kernel
theorem pd_31 : parseMethodDescriptor "(Ljava/lang/AbstractStringBuilder;Ljava/lang/Void;)V" = some ⟨[(.object "java/lang/AbstractStringBuilder"), (.object "java/lang/Void")], none⟩ := by decide +kernel
theorem pd_32 : parseMethodDescriptor "(Ljava/lang/StringBuilder;)V" = some ⟨[(.object "java/lang/StringBuilder")], none⟩ := by decide +kernel
theorem pd_33 : parseMethodDescriptor "([C)V" = some ⟨[(.array .char)], none⟩ := by decide +kernel
theorem pd_34 : parseMethodDescriptor "(C)Ljava/lang/String;" = some ⟨[.char], some (.object "java/lang/String")⟩ := by decide +kernel
theorem pd_35 : parseMethodDescriptor "(Ljava/lang/String;)Ljava/lang/StringBuilder;" = some ⟨[(.object "java/lang/String")], some (.object "java/lang/StringBuilder")⟩ := by decide +kernel
theorem pd_36 : parseMethodDescriptor "()Ljava/lang/String;" = some ⟨[], some (.object "java/lang/String")⟩ := by decide +kernel
theorem pd_37 : parseMethodDescriptor "(II)Ljava/lang/String;" = some ⟨[.int, .int], some (.object "java/lang/String")⟩ := by decide +kernel
theorem pd_38 : parseMethodDescriptor "(Ljava/lang/String;)Lcom/example/fate_of_jobs/fateofjobs/conformance/CaseFormatException;" = some ⟨[(.object "java/lang/String")], some (.object "com/example/fate_of_jobs/fateofjobs/conformance/CaseFormatException")⟩ := by decide +kernel
theorem pd_39 : parseMethodDescriptor "(I)C" = some ⟨[.int], some .char⟩ := by decide +kernel
theorem pd_40 : parseMethodDescriptor "(Ljava/lang/Object;)Z" = some ⟨[(.object "java/lang/Object")], some .boolean⟩ := by decide +kernel
theorem d37_0 : decode jdk_42_method_154_code 0 = .ok (.getstatic 38, 3) := by decide +kernel
theorem d37_3 : decode jdk_42_method_154_code 3 = .ok (.ifCond .eq 14, 3) := by decide +kernel
theorem d37_6 : decode jdk_42_method_154_code 6 = .ok (.aload_n 0, 1) := by decide +kernel
theorem d37_7 : decode jdk_42_method_154_code 7 = .ok (.getfield 15, 3) := by decide +kernel
theorem d37_10 : decode jdk_42_method_154_code 10 = .ok (.ifCond .ne 7, 3) := by decide +kernel
theorem d37_13 : decode jdk_42_method_154_code 13 = .ok (.iconst 1, 1) := by decide +kernel
theorem d37_14 : decode jdk_42_method_154_code 14 = .ok (.goto 4, 3) := by decide +kernel
theorem d37_18 : decode jdk_42_method_154_code 18 = .ok (.ireturn, 1) := by decide +kernel
theorem d19_0 : decode jdk_42_method_152_code 0 = .ok (.getstatic 38, 3) := by decide +kernel
theorem d19_3 : decode jdk_42_method_152_code 3 = .ok (.ifCond .eq 10, 3) := by decide +kernel
theorem d19_6 : decode jdk_42_method_152_code 6 = .ok (.aload_n 0, 1) := by decide +kernel
theorem d19_7 : decode jdk_42_method_152_code 7 = .ok (.getfield 15, 3) := by decide +kernel
theorem d19_10 : decode jdk_42_method_152_code 10 = .ok (.goto 4, 3) := by decide +kernel
theorem d19_14 : decode jdk_42_method_152_code 14 = .ok (.ireturn, 1) := by decide +kernel
theorem d18_0 : decode jdk_42_method_54_code 0 = .ok (.aload_n 0, 1) := by decide +kernel
theorem d18_1 : decode jdk_42_method_54_code 1 = .ok (.getfield 9, 3) := by decide +kernel
theorem d18_4 : decode jdk_42_method_54_code 4 = .ok (.arraylength, 1) := by decide +kernel
theorem d18_5 : decode jdk_42_method_54_code 5 = .ok (.aload_n 0, 1) := by decide +kernel
theorem d18_6 : decode jdk_42_method_54_code 6 = .ok (.invokevirtual 335, 3) := by decide +kernel
theorem d18_9 : decode jdk_42_method_54_code 9 = .ok (.ishr, 1) := by decide +kernel
theorem d18_10 : decode jdk_42_method_54_code 10 = .ok (.ireturn, 1) := by decide +kernel
theorem d40_0 : decode jdk_41_method_11_code 0 = .ok (.iload_n 0, 1) := by decide +kernel
theorem d40_1 : decode jdk_41_method_11_code 1 = .ok (.ifCond .lt 8, 3) := by decide +kernel
theorem d40_4 : decode jdk_41_method_11_code 4 = .ok (.iload_n 0, 1) := by decide +kernel
theorem d40_5 : decode jdk_41_method_11_code 5 = .ok (.iload_n 1, 1) := by decide +kernel
theorem d40_6 : decode jdk_41_method_11_code 6 = .ok (.if_icmp .lt 10, 3) := by decide +kernel
theorem d40_16 : decode jdk_41_method_11_code 16 = .ok (.iload_n 0, 1) := by decide +kernel
theorem d40_17 : decode jdk_41_method_11_code 17 = .ok (.ireturn, 1) := by decide +kernel
theorem d39_0 : decode jdk_42_method_155_code 0 = .ok (.iload_n 0, 1) := by decide +kernel
theorem d39_1 : decode jdk_42_method_155_code 1 = .ok (.iload_n 1, 1) := by decide +kernel
theorem d39_2 : decode jdk_42_method_155_code 2 = .ok (.getstatic 1053, 3) := by decide +kernel
theorem d39_5 : decode jdk_42_method_155_code 5 = .ok (.invokestatic 1059, 3) := by decide +kernel
theorem d39_8 : decode jdk_42_method_155_code 8 = .ok (.pop, 1) := by decide +kernel
theorem d39_9 : decode jdk_42_method_155_code 9 = .ok (.return_, 1) := by decide +kernel
theorem d38_0 : decode jdk_43_method_2_code 0 = .ok (.iload_n 1, 1) := by decide +kernel
theorem d38_1 : decode jdk_43_method_2_code 1 = .ok (.aload_n 0, 1) := by decide +kernel
theorem d38_2 : decode jdk_43_method_2_code 2 = .ok (.arraylength, 1) := by decide +kernel
theorem d38_3 : decode jdk_43_method_2_code 3 = .ok (.invokestatic 9, 3) := by decide +kernel
theorem d38_6 : decode jdk_43_method_2_code 6 = .ok (.aload_n 0, 1) := by decide +kernel
theorem d38_7 : decode jdk_43_method_2_code 7 = .ok (.iload_n 1, 1) := by decide +kernel
theorem d38_8 : decode jdk_43_method_2_code 8 = .ok (.baload, 1) := by decide +kernel
theorem d38_9 : decode jdk_43_method_2_code 9 = .ok (.sipush 255, 3) := by decide +kernel
theorem d38_12 : decode jdk_43_method_2_code 12 = .ok (.iand, 1) := by decide +kernel
theorem d38_13 : decode jdk_43_method_2_code 13 = .ok (.i2c, 1) := by decide +kernel
theorem d38_14 : decode jdk_43_method_2_code 14 = .ok (.ireturn, 1) := by decide +kernel
theorem d36_0 : decode jdk_42_method_56_code 0 = .ok (.aload_n 0, 1) := by decide +kernel
theorem d36_1 : decode jdk_42_method_56_code 1 = .ok (.invokevirtual 492, 3) := by decide +kernel
theorem d36_4 : decode jdk_42_method_56_code 4 = .ok (.ifCond .eq 12, 3) := by decide +kernel
theorem d36_7 : decode jdk_42_method_56_code 7 = .ok (.aload_n 0, 1) := by decide +kernel
theorem d36_8 : decode jdk_42_method_56_code 8 = .ok (.getfield 9, 3) := by decide +kernel
theorem d36_11 : decode jdk_42_method_56_code 11 = .ok (.iload_n 1, 1) := by decide +kernel
theorem d36_12 : decode jdk_42_method_56_code 12 = .ok (.invokestatic 495, 3) := by decide +kernel
theorem d36_15 : decode jdk_42_method_56_code 15 = .ok (.ireturn, 1) := by decide +kernel
theorem d35_0 : decode jdk_29_method_69_code 0 = .ok (.iload_n 0, 1) := by decide +kernel
theorem d35_1 : decode jdk_29_method_69_code 1 = .ok (.iload_n 1, 1) := by decide +kernel
theorem d35_2 : decode jdk_29_method_69_code 2 = .ok (.if_icmp .gt 7, 3) := by decide +kernel
theorem d35_9 : decode jdk_29_method_69_code 9 = .ok (.iload_n 1, 1) := by decide +kernel
theorem d35_10 : decode jdk_29_method_69_code 10 = .ok (.ireturn, 1) := by decide +kernel
theorem d35_5 : decode jdk_29_method_69_code 5 = .ok (.iload_n 0, 1) := by decide +kernel
theorem d35_6 : decode jdk_29_method_69_code 6 = .ok (.goto 4, 3) := by decide +kernel
theorem d49_0 : decode jdk_52_method_3_code 0 = .ok (.iload_n 0, 1) := by decide +kernel
theorem d49_1 : decode jdk_52_method_3_code 1 = .ok (.ifCond .ge 11, 3) := by decide +kernel
theorem d49_12 : decode jdk_52_method_3_code 12 = .ok (.iload_n 0, 1) := by decide +kernel
theorem d49_13 : decode jdk_52_method_3_code 13 = .ok (.ldc 20, 2) := by decide +kernel
theorem d49_15 : decode jdk_52_method_3_code 15 = .ok (.if_icmp .lt 40, 3) := by decide +kernel
theorem d49_55 : decode jdk_52_method_3_code 55 = .ok (.iload_n 0, 1) := by decide +kernel
theorem d49_56 : decode jdk_52_method_3_code 56 = .ok (.iconst 1, 1) := by decide +kernel
theorem d49_57 : decode jdk_52_method_3_code 57 = .ok (.ishl, 1) := by decide +kernel
theorem d49_58 : decode jdk_52_method_3_code 58 = .ok (.ireturn, 1) := by decide +kernel
theorem d48_0 : decode jdk_52_method_2_code 0 = .ok (.iload_n 0, 1) := by decide +kernel
theorem d48_1 : decode jdk_52_method_2_code 1 = .ok (.invokestatic 11, 3) := by decide +kernel
theorem d48_4 : decode jdk_52_method_2_code 4 = .ok (.newarray .byte, 2) := by decide +kernel
theorem d48_6 : decode jdk_52_method_2_code 6 = .ok (.areturn, 1) := by decide +kernel
theorem d45_0 : decode jdk_52_method_4_code 0 = .ok (.getstatic 44, 3) := by decide +kernel
theorem d45_3 : decode jdk_52_method_4_code 3 = .ok (.ifCond .ne 25, 3) := by decide +kernel
theorem d45_28 : decode jdk_52_method_4_code 28 = .ok (.iload_n 1, 1) := by decide +kernel
theorem d45_29 : decode jdk_52_method_4_code 29 = .ok (.iconst 1, 1) := by decide +kernel
theorem d45_30 : decode jdk_52_method_4_code 30 = .ok (.ishl, 1) := by decide +kernel
theorem d45_31 : decode jdk_52_method_4_code 31 = .ok (.istore_n 1, 1) := by decide +kernel
theorem d45_32 : decode jdk_52_method_4_code 32 = .ok (.aload_n 0, 1) := by decide +kernel
theorem d45_33 : decode jdk_52_method_4_code 33 = .ok (.iload_n 1, 1) := by decide +kernel
theorem d45_34 : decode jdk_52_method_4_code 34 = .ok (.iinc 1 1, 3) := by decide +kernel
theorem d45_37 : decode jdk_52_method_4_code 37 = .ok (.iload_n 2, 1) := by decide +kernel
theorem d45_38 : decode jdk_52_method_4_code 38 = .ok (.getstatic 59, 3) := by decide +kernel
theorem d45_41 : decode jdk_52_method_4_code 41 = .ok (.ishr, 1) := by decide +kernel
theorem d45_42 : decode jdk_52_method_4_code 42 = .ok (.i2b, 1) := by decide +kernel
theorem d45_43 : decode jdk_52_method_4_code 43 = .ok (.bastore, 1) := by decide +kernel
theorem d45_44 : decode jdk_52_method_4_code 44 = .ok (.aload_n 0, 1) := by decide +kernel
theorem d45_45 : decode jdk_52_method_4_code 45 = .ok (.iload_n 1, 1) := by decide +kernel
theorem d45_46 : decode jdk_52_method_4_code 46 = .ok (.iload_n 2, 1) := by decide +kernel
theorem d45_47 : decode jdk_52_method_4_code 47 = .ok (.getstatic 63, 3) := by decide +kernel
theorem d45_50 : decode jdk_52_method_4_code 50 = .ok (.ishr, 1) := by decide +kernel
theorem d45_51 : decode jdk_52_method_4_code 51 = .ok (.i2b, 1) := by decide +kernel
theorem d45_52 : decode jdk_52_method_4_code 52 = .ok (.bastore, 1) := by decide +kernel
theorem d45_53 : decode jdk_52_method_4_code 53 = .ok (.return_, 1) := by decide +kernel
theorem d58_0 : decode jdk_52_method_5_code 0 = .ok (.getstatic 44, 3) := by decide +kernel
theorem d58_3 : decode jdk_52_method_5_code 3 = .ok (.ifCond .ne 25, 3) := by decide +kernel
theorem d58_28 : decode jdk_52_method_5_code 28 = .ok (.iload_n 1, 1) := by decide +kernel
theorem d58_29 : decode jdk_52_method_5_code 29 = .ok (.iconst 1, 1) := by decide +kernel
theorem d58_30 : decode jdk_52_method_5_code 30 = .ok (.ishl, 1) := by decide +kernel
theorem d58_31 : decode jdk_52_method_5_code 31 = .ok (.istore_n 1, 1) := by decide +kernel
theorem d58_32 : decode jdk_52_method_5_code 32 = .ok (.aload_n 0, 1) := by decide +kernel
theorem d58_33 : decode jdk_52_method_5_code 33 = .ok (.iload_n 1, 1) := by decide +kernel
theorem d58_34 : decode jdk_52_method_5_code 34 = .ok (.iinc 1 1, 3) := by decide +kernel
theorem d58_37 : decode jdk_52_method_5_code 37 = .ok (.baload, 1) := by decide +kernel
theorem d58_38 : decode jdk_52_method_5_code 38 = .ok (.sipush 255, 3) := by decide +kernel
theorem d58_41 : decode jdk_52_method_5_code 41 = .ok (.iand, 1) := by decide +kernel
theorem d58_42 : decode jdk_52_method_5_code 42 = .ok (.getstatic 59, 3) := by decide +kernel
theorem d58_45 : decode jdk_52_method_5_code 45 = .ok (.ishl, 1) := by decide +kernel
theorem d58_46 : decode jdk_52_method_5_code 46 = .ok (.aload_n 0, 1) := by decide +kernel
theorem d58_47 : decode jdk_52_method_5_code 47 = .ok (.iload_n 1, 1) := by decide +kernel
theorem d58_48 : decode jdk_52_method_5_code 48 = .ok (.baload, 1) := by decide +kernel
theorem d58_49 : decode jdk_52_method_5_code 49 = .ok (.sipush 255, 3) := by decide +kernel
theorem d58_52 : decode jdk_52_method_5_code 52 = .ok (.iand, 1) := by decide +kernel
theorem d58_53 : decode jdk_52_method_5_code 53 = .ok (.getstatic 63, 3) := by decide +kernel
theorem d58_56 : decode jdk_52_method_5_code 56 = .ok (.ishl, 1) := by decide +kernel
theorem d58_57 : decode jdk_52_method_5_code 57 = .ok (.ior, 1) := by decide +kernel
theorem d58_58 : decode jdk_52_method_5_code 58 = .ok (.i2c, 1) := by decide +kernel
theorem d58_59 : decode jdk_52_method_5_code 59 = .ok (.ireturn, 1) := by decide +kernel
theorem d53_0 : decode jdk_52_method_6_code 0 = .ok (.aload_n 0, 1) := by decide +kernel
theorem d53_1 : decode jdk_52_method_6_code 1 = .ok (.arraylength, 1) := by decide +kernel
theorem d53_2 : decode jdk_52_method_6_code 2 = .ok (.iconst 1, 1) := by decide +kernel
theorem d53_3 : decode jdk_52_method_6_code 3 = .ok (.ishr, 1) := by decide +kernel
theorem d53_4 : decode jdk_52_method_6_code 4 = .ok (.ireturn, 1) := by decide +kernel
theorem d57_0 : decode jdk_52_method_91_code 0 = .ok (.iload_n 0, 1) := by decide +kernel
theorem d57_1 : decode jdk_52_method_91_code 1 = .ok (.aload_n 1, 1) := by decide +kernel
theorem d57_2 : decode jdk_52_method_91_code 2 = .ok (.invokestatic 48, 3) := by decide +kernel
theorem d57_5 : decode jdk_52_method_91_code 5 = .ok (.invokestatic 414, 3) := by decide +kernel
theorem d57_8 : decode jdk_52_method_91_code 8 = .ok (.return_, 1) := by decide +kernel
theorem d56_0 : decode jdk_52_method_83_code 0 = .ok (.iload_n 1, 1) := by decide +kernel
theorem d56_1 : decode jdk_52_method_83_code 1 = .ok (.aload_n 0, 1) := by decide +kernel
theorem d56_2 : decode jdk_52_method_83_code 2 = .ok (.invokestatic 67, 3) := by decide +kernel
theorem d56_5 : decode jdk_52_method_83_code 5 = .ok (.aload_n 0, 1) := by decide +kernel
theorem d56_6 : decode jdk_52_method_83_code 6 = .ok (.iload_n 1, 1) := by decide +kernel
theorem d56_7 : decode jdk_52_method_83_code 7 = .ok (.invokestatic 71, 3) := by decide +kernel
theorem d56_10 : decode jdk_52_method_83_code 10 = .ok (.ireturn, 1) := by decide +kernel
theorem d37_17 : decode jdk_42_method_154_code 17 = .ok (.iconst 0, 1) := by decide +kernel
theorem d36_16 : decode jdk_42_method_56_code 16 = .ok (.aload_n 0, 1) := by decide +kernel
theorem d36_17 : decode jdk_42_method_56_code 17 = .ok (.getfield 9, 3) := by decide +kernel
theorem d36_20 : decode jdk_42_method_56_code 20 = .ok (.iload_n 1, 1) := by decide +kernel
theorem d36_21 : decode jdk_42_method_56_code 21 = .ok (.invokestatic 498, 3) := by decide +kernel
theorem d36_24 : decode jdk_42_method_56_code 24 = .ok (.ireturn, 1) := by decide +kernel
theorem d60_8 : decode jdk_52_method_14_code 8 = .ok (.iload 4, 2) := by decide +kernel
theorem d60_10 : decode jdk_52_method_14_code 10 = .ok (.iload_n 2, 1) := by decide +kernel
theorem d60_11 : decode jdk_52_method_14_code 11 = .ok (.if_icmp .ge 21, 3) := by decide +kernel
theorem d60_32 : decode jdk_52_method_14_code 32 = .ok (.aload_n 3, 1) := by decide +kernel
theorem d60_33 : decode jdk_52_method_14_code 33 = .ok (.areturn, 1) := by decide +kernel
theorem d60_14 : decode jdk_52_method_14_code 14 = .ok (.aload_n 3, 1) := by decide +kernel
theorem d60_15 : decode jdk_52_method_14_code 15 = .ok (.iload 4, 2) := by decide +kernel
theorem d60_17 : decode jdk_52_method_14_code 17 = .ok (.aload_n 0, 1) := by decide +kernel
theorem d60_18 : decode jdk_52_method_14_code 18 = .ok (.iload_n 1, 1) := by decide +kernel
theorem d60_19 : decode jdk_52_method_14_code 19 = .ok (.caload, 1) := by decide +kernel
theorem d60_20 : decode jdk_52_method_14_code 20 = .ok (.invokestatic 111, 3) := by decide +kernel
theorem d60_23 : decode jdk_52_method_14_code 23 = .ok (.iinc 1 1, 3) := by decide +kernel
theorem d60_26 : decode jdk_52_method_14_code 26 = .ok (.iinc 4 1, 3) := by decide +kernel
theorem d60_29 : decode jdk_52_method_14_code 29 = .ok (.goto (-21), 3) := by decide +kernel
theorem d60_0 : decode jdk_52_method_14_code 0 = .ok (.iload_n 2, 1) := by decide +kernel
theorem d60_1 : decode jdk_52_method_14_code 1 = .ok (.invokestatic 107, 3) := by decide +kernel
theorem d60_4 : decode jdk_52_method_14_code 4 = .ok (.astore_n 3, 1) := by decide +kernel
theorem d60_5 : decode jdk_52_method_14_code 5 = .ok (.iconst 0, 1) := by decide +kernel
theorem d60_6 : decode jdk_52_method_14_code 6 = .ok (.istore 4, 2) := by decide +kernel
theorem d6_3 : decode jdk_52_method_21_code 3 = .ok (.iload 5, 2) := by decide +kernel
theorem d6_5 : decode jdk_52_method_21_code 5 = .ok (.iload 4, 2) := by decide +kernel
theorem d6_7 : decode jdk_52_method_21_code 7 = .ok (.if_icmp .ge 37, 3) := by decide +kernel
theorem d6_44 : decode jdk_52_method_21_code 44 = .ok (.iload 4, 2) := by decide +kernel
theorem d6_46 : decode jdk_52_method_21_code 46 = .ok (.ireturn, 1) := by decide +kernel
theorem d6_10 : decode jdk_52_method_21_code 10 = .ok (.aload_n 0, 1) := by decide +kernel
theorem d6_11 : decode jdk_52_method_21_code 11 = .ok (.iload_n 1, 1) := by decide +kernel
theorem d6_12 : decode jdk_52_method_21_code 12 = .ok (.caload, 1) := by decide +kernel
theorem d6_13 : decode jdk_52_method_21_code 13 = .ok (.istore 6, 2) := by decide +kernel
theorem d6_15 : decode jdk_52_method_21_code 15 = .ok (.iload 6, 2) := by decide +kernel
theorem d6_17 : decode jdk_52_method_21_code 17 = .ok (.sipush 255, 3) := by decide +kernel
theorem d6_20 : decode jdk_52_method_21_code 20 = .ok (.if_icmp .le 6, 3) := by decide +kernel
theorem d6_26 : decode jdk_52_method_21_code 26 = .ok (.aload_n 2, 1) := by decide +kernel
theorem d6_27 : decode jdk_52_method_21_code 27 = .ok (.iload_n 3, 1) := by decide +kernel
theorem d6_28 : decode jdk_52_method_21_code 28 = .ok (.iload 6, 2) := by decide +kernel
theorem d6_30 : decode jdk_52_method_21_code 30 = .ok (.i2b, 1) := by decide +kernel
theorem d6_31 : decode jdk_52_method_21_code 31 = .ok (.bastore, 1) := by decide +kernel
theorem d6_32 : decode jdk_52_method_21_code 32 = .ok (.iinc 1 1, 3) := by decide +kernel
theorem d6_35 : decode jdk_52_method_21_code 35 = .ok (.iinc 3 1, 3) := by decide +kernel
theorem d6_38 : decode jdk_52_method_21_code 38 = .ok (.iinc 5 1, 3) := by decide +kernel
theorem d6_41 : decode jdk_52_method_21_code 41 = .ok (.goto (-38), 3) := by decide +kernel
theorem d6_0 : decode jdk_52_method_21_code 0 = .ok (.iconst 0, 1) := by decide +kernel
theorem d6_1 : decode jdk_52_method_21_code 1 = .ok (.istore 5, 2) := by decide +kernel
theorem d5_0 : decode jdk_52_method_16_code 0 = .ok (.iload_n 2, 1) := by decide +kernel
theorem d5_1 : decode jdk_52_method_16_code 1 = .ok (.newarray .byte, 2) := by decide +kernel
theorem d5_3 : decode jdk_52_method_16_code 3 = .ok (.astore_n 3, 1) := by decide +kernel
theorem d5_4 : decode jdk_52_method_16_code 4 = .ok (.aload_n 0, 1) := by decide +kernel
theorem d5_5 : decode jdk_52_method_16_code 5 = .ok (.iload_n 1, 1) := by decide +kernel
theorem d5_6 : decode jdk_52_method_16_code 6 = .ok (.aload_n 3, 1) := by decide +kernel
theorem d5_7 : decode jdk_52_method_16_code 7 = .ok (.iconst 0, 1) := by decide +kernel
theorem d5_8 : decode jdk_52_method_16_code 8 = .ok (.iload_n 2, 1) := by decide +kernel
theorem d5_9 : decode jdk_52_method_16_code 9 = .ok (.invokestatic 115, 3) := by decide +kernel
theorem d5_12 : decode jdk_52_method_16_code 12 = .ok (.istore 4, 2) := by decide +kernel
theorem d5_14 : decode jdk_52_method_16_code 14 = .ok (.iload 4, 2) := by decide +kernel
theorem d5_16 : decode jdk_52_method_16_code 16 = .ok (.iload_n 2, 1) := by decide +kernel
theorem d5_17 : decode jdk_52_method_16_code 17 = .ok (.if_icmp .eq 40, 3) := by decide +kernel
theorem d5_57 : decode jdk_52_method_16_code 57 = .ok (.aload_n 3, 1) := by decide +kernel
theorem d5_58 : decode jdk_52_method_16_code 58 = .ok (.areturn, 1) := by decide +kernel
theorem d7_0 : decode jdk_52_method_15_code 0 = .ok (.iload_n 1, 1) := by decide +kernel
theorem d7_1 : decode jdk_52_method_15_code 1 = .ok (.aload_n 0, 1) := by decide +kernel
theorem d7_2 : decode jdk_52_method_15_code 2 = .ok (.arraylength, 1) := by decide +kernel
theorem d7_3 : decode jdk_52_method_15_code 3 = .ok (.isub, 1) := by decide +kernel
theorem d7_4 : decode jdk_52_method_15_code 4 = .ok (.bipush 31, 2) := by decide +kernel
theorem d7_6 : decode jdk_52_method_15_code 6 = .ok (.iushr, 1) := by decide +kernel
theorem d7_7 : decode jdk_52_method_15_code 7 = .ok (.i2b, 1) := by decide +kernel
theorem d7_8 : decode jdk_52_method_15_code 8 = .ok (.ireturn, 1) := by decide +kernel
theorem d3_0 : decode jdk_42_method_149_code 0 = .ok (.aload_n 0, 1) := by decide +kernel
theorem d3_1 : decode jdk_42_method_149_code 1 = .ok (.invokespecial 1, 3) := by decide +kernel
theorem d3_4 : decode jdk_42_method_149_code 4 = .ok (.iload_n 3, 1) := by decide +kernel
theorem d3_5 : decode jdk_42_method_149_code 5 = .ok (.ifCond .ne 22, 3) := by decide +kernel
theorem d3_27 : decode jdk_42_method_149_code 27 = .ok (.getstatic 38, 3) := by decide +kernel
theorem d3_30 : decode jdk_42_method_149_code 30 = .ok (.ifCond .eq 28, 3) := by decide +kernel
theorem d3_33 : decode jdk_42_method_149_code 33 = .ok (.aload_n 1, 1) := by decide +kernel
theorem d3_34 : decode jdk_42_method_149_code 34 = .ok (.iload_n 2, 1) := by decide +kernel
theorem d3_35 : decode jdk_42_method_149_code 35 = .ok (.iload_n 3, 1) := by decide +kernel
theorem d3_36 : decode jdk_42_method_149_code 36 = .ok (.invokestatic 177, 3) := by decide +kernel
theorem d3_39 : decode jdk_42_method_149_code 39 = .ok (.astore 5, 2) := by decide +kernel
theorem d3_41 : decode jdk_42_method_149_code 41 = .ok (.aload_n 0, 1) := by decide +kernel
theorem d3_42 : decode jdk_42_method_149_code 42 = .ok (.aload 5, 2) := by decide +kernel
theorem d3_44 : decode jdk_42_method_149_code 44 = .ok (.iload_n 3, 1) := by decide +kernel
theorem d3_45 : decode jdk_42_method_149_code 45 = .ok (.invokestatic 47, 3) := by decide +kernel
theorem d3_48 : decode jdk_42_method_149_code 48 = .ok (.putfield 15, 3) := by decide +kernel
theorem d3_51 : decode jdk_42_method_149_code 51 = .ok (.aload_n 0, 1) := by decide +kernel
theorem d3_52 : decode jdk_42_method_149_code 52 = .ok (.aload 5, 2) := by decide +kernel
theorem d3_54 : decode jdk_42_method_149_code 54 = .ok (.putfield 9, 3) := by decide +kernel
theorem d3_57 : decode jdk_42_method_149_code 57 = .ok (.return_, 1) := by decide +kernel
theorem d6_23 : decode jdk_52_method_21_code 23 = .ok (.iload 5, 2) := by decide +kernel
theorem d6_25 : decode jdk_52_method_21_code 25 = .ok (.ireturn, 1) := by decide +kernel
theorem d5_20 : decode jdk_52_method_16_code 20 = .ok (.aload_n 0, 1) := by decide +kernel
theorem d5_21 : decode jdk_52_method_16_code 21 = .ok (.iload_n 1, 1) := by decide +kernel
theorem d5_22 : decode jdk_52_method_16_code 22 = .ok (.iload_n 2, 1) := by decide +kernel
theorem d5_23 : decode jdk_52_method_16_code 23 = .ok (.invokestatic 119, 3) := by decide +kernel
theorem d5_26 : decode jdk_52_method_16_code 26 = .ok (.astore 5, 2) := by decide +kernel
theorem d5_28 : decode jdk_52_method_16_code 28 = .ok (.aload 5, 2) := by decide +kernel
theorem d5_30 : decode jdk_52_method_16_code 30 = .ok (.iload 4, 2) := by decide +kernel
theorem d5_32 : decode jdk_52_method_16_code 32 = .ok (.invokestatic 71, 3) := by decide +kernel
theorem d5_35 : decode jdk_52_method_16_code 35 = .ok (.sipush 255, 3) := by decide +kernel
theorem d5_38 : decode jdk_52_method_16_code 38 = .ok (.if_icmp .gt 16, 3) := by decide +kernel
theorem d5_54 : decode jdk_52_method_16_code 54 = .ok (.aload 5, 2) := by decide +kernel
theorem d5_56 : decode jdk_52_method_16_code 56 = .ok (.areturn, 1) := by decide +kernel
theorem d2_0 : decode jdk_42_method_3_code 0 = .ok (.aload_n 0, 1) := by decide +kernel
theorem d2_1 : decode jdk_42_method_3_code 1 = .ok (.aload_n 1, 1) := by decide +kernel
theorem d2_2 : decode jdk_42_method_3_code 2 = .ok (.iconst 0, 1) := by decide +kernel
theorem d2_3 : decode jdk_42_method_3_code 3 = .ok (.aload_n 1, 1) := by decide +kernel
theorem d2_4 : decode jdk_42_method_3_code 4 = .ok (.arraylength, 1) := by decide +kernel
theorem d2_5 : decode jdk_42_method_3_code 5 = .ok (.aconst_null, 1) := by decide +kernel
theorem d2_6 : decode jdk_42_method_3_code 6 = .ok (.invokespecial 27, 3) := by decide +kernel
theorem d2_9 : decode jdk_42_method_3_code 9 = .ok (.return_, 1) := by decide +kernel
theorem d46_0 : decode jdk_42_method_151_code 0 = .ok (.aload_n 0, 1) := by decide +kernel
theorem d46_1 : decode jdk_42_method_151_code 1 = .ok (.invokespecial 1, 3) := by decide +kernel
theorem d46_4 : decode jdk_42_method_151_code 4 = .ok (.aload_n 0, 1) := by decide +kernel
theorem d46_5 : decode jdk_42_method_151_code 5 = .ok (.aload_n 1, 1) := by decide +kernel
theorem d46_6 : decode jdk_42_method_151_code 6 = .ok (.putfield 9, 3) := by decide +kernel
theorem d46_9 : decode jdk_42_method_151_code 9 = .ok (.aload_n 0, 1) := by decide +kernel
theorem d46_10 : decode jdk_42_method_151_code 10 = .ok (.iload_n 2, 1) := by decide +kernel
theorem d46_11 : decode jdk_42_method_151_code 11 = .ok (.putfield 15, 3) := by decide +kernel
theorem d46_14 : decode jdk_42_method_151_code 14 = .ok (.return_, 1) := by decide +kernel
theorem d43_0 : decode jdk_43_method_3_code 0 = .ok (.iload_n 0, 1) := by decide +kernel
theorem d43_1 : decode jdk_43_method_3_code 1 = .ok (.sipush 255, 3) := by decide +kernel
theorem d43_4 : decode jdk_43_method_3_code 4 = .ok (.if_icmp .gt 7, 3) := by decide +kernel
theorem d43_11 : decode jdk_43_method_3_code 11 = .ok (.iconst 0, 1) := by decide +kernel
theorem d43_12 : decode jdk_43_method_3_code 12 = .ok (.ireturn, 1) := by decide +kernel
theorem d43_7 : decode jdk_43_method_3_code 7 = .ok (.iconst 1, 1) := by decide +kernel
theorem d43_8 : decode jdk_43_method_3_code 8 = .ok (.goto 4, 3) := by decide +kernel
theorem d59_0 : decode jdk_43_method_46_code 0 = .ok (.iconst 1, 1) := by decide +kernel
theorem d59_1 : decode jdk_43_method_46_code 1 = .ok (.newarray .byte, 2) := by decide +kernel
theorem d59_3 : decode jdk_43_method_46_code 3 = .ok (.dup, 1) := by decide +kernel
theorem d59_4 : decode jdk_43_method_46_code 4 = .ok (.iconst 0, 1) := by decide +kernel
theorem d59_5 : decode jdk_43_method_46_code 5 = .ok (.iload_n 0, 1) := by decide +kernel
theorem d59_6 : decode jdk_43_method_46_code 6 = .ok (.i2b, 1) := by decide +kernel
theorem d59_7 : decode jdk_43_method_46_code 7 = .ok (.bastore, 1) := by decide +kernel
theorem d59_8 : decode jdk_43_method_46_code 8 = .ok (.areturn, 1) := by decide +kernel
theorem d44_0 : decode jdk_52_method_24_code 0 = .ok (.iconst 2, 1) := by decide +kernel
theorem d44_1 : decode jdk_52_method_24_code 1 = .ok (.newarray .byte, 2) := by decide +kernel
theorem d44_3 : decode jdk_52_method_24_code 3 = .ok (.astore_n 1, 1) := by decide +kernel
theorem d44_4 : decode jdk_52_method_24_code 4 = .ok (.aload_n 1, 1) := by decide +kernel
theorem d44_5 : decode jdk_52_method_24_code 5 = .ok (.iconst 0, 1) := by decide +kernel
theorem d44_6 : decode jdk_52_method_24_code 6 = .ok (.iload_n 0, 1) := by decide +kernel
theorem d44_7 : decode jdk_52_method_24_code 7 = .ok (.invokestatic 111, 3) := by decide +kernel
theorem d44_10 : decode jdk_52_method_24_code 10 = .ok (.aload_n 1, 1) := by decide +kernel
theorem d44_11 : decode jdk_52_method_24_code 11 = .ok (.areturn, 1) := by decide +kernel
theorem d42_0 : decode jdk_42_method_139_code 0 = .ok (.getstatic 38, 3) := by decide +kernel
theorem d42_3 : decode jdk_42_method_139_code 3 = .ok (.ifCond .eq 23, 3) := by decide +kernel
theorem d42_6 : decode jdk_42_method_139_code 6 = .ok (.iload_n 0, 1) := by decide +kernel
theorem d42_7 : decode jdk_42_method_139_code 7 = .ok (.invokestatic 1015, 3) := by decide +kernel
theorem d42_10 : decode jdk_42_method_139_code 10 = .ok (.ifCond .eq 16, 3) := by decide +kernel
theorem d42_26 : decode jdk_42_method_139_code 26 = .ok (.new 10, 3) := by decide +kernel
theorem d42_29 : decode jdk_42_method_139_code 29 = .ok (.dup, 1) := by decide +kernel
theorem d42_30 : decode jdk_42_method_139_code 30 = .ok (.iload_n 0, 1) := by decide +kernel
theorem d42_31 : decode jdk_42_method_139_code 31 = .ok (.invokestatic 1021, 3) := by decide +kernel
theorem d42_34 : decode jdk_42_method_139_code 34 = .ok (.iconst 1, 1) := by decide +kernel
theorem d42_35 : decode jdk_42_method_139_code 35 = .ok (.invokespecial 209, 3) := by decide +kernel
theorem d42_38 : decode jdk_42_method_139_code 38 = .ok (.areturn, 1) := by decide +kernel
theorem d42_13 : decode jdk_42_method_139_code 13 = .ok (.new 10, 3) := by decide +kernel
theorem d42_16 : decode jdk_42_method_139_code 16 = .ok (.dup, 1) := by decide +kernel
theorem d42_17 : decode jdk_42_method_139_code 17 = .ok (.iload_n 0, 1) := by decide +kernel
theorem d42_18 : decode jdk_42_method_139_code 18 = .ok (.invokestatic 1018, 3) := by decide +kernel
theorem d42_21 : decode jdk_42_method_139_code 21 = .ok (.iconst 0, 1) := by decide +kernel
theorem d42_22 : decode jdk_42_method_139_code 22 = .ok (.invokespecial 209, 3) := by decide +kernel
theorem d42_25 : decode jdk_42_method_139_code 25 = .ok (.areturn, 1) := by decide +kernel
theorem d55_0 : decode jdk_41_method_13_code 0 = .ok (.iload_n 2, 1) := by decide +kernel
theorem d55_1 : decode jdk_41_method_13_code 1 = .ok (.iload_n 0, 1) := by decide +kernel
theorem d55_2 : decode jdk_41_method_13_code 2 = .ok (.ior, 1) := by decide +kernel
theorem d55_3 : decode jdk_41_method_13_code 3 = .ok (.iload_n 1, 1) := by decide +kernel
theorem d55_4 : decode jdk_41_method_13_code 4 = .ok (.ior, 1) := by decide +kernel
theorem d55_5 : decode jdk_41_method_13_code 5 = .ok (.ifCond .lt 10, 3) := by decide +kernel
theorem d55_8 : decode jdk_41_method_13_code 8 = .ok (.iload_n 1, 1) := by decide +kernel
theorem d55_9 : decode jdk_41_method_13_code 9 = .ok (.iload_n 2, 1) := by decide +kernel
theorem d55_10 : decode jdk_41_method_13_code 10 = .ok (.iload_n 0, 1) := by decide +kernel
theorem d55_11 : decode jdk_41_method_13_code 11 = .ok (.isub, 1) := by decide +kernel
theorem d55_12 : decode jdk_41_method_13_code 12 = .ok (.if_icmp .le 11, 3) := by decide +kernel
theorem d55_23 : decode jdk_41_method_13_code 23 = .ok (.iload_n 0, 1) := by decide +kernel
theorem d55_24 : decode jdk_41_method_13_code 24 = .ok (.ireturn, 1) := by decide +kernel
theorem d54_0 : decode jdk_42_method_157_code 0 = .ok (.iload_n 0, 1) := by decide +kernel
theorem d54_1 : decode jdk_42_method_157_code 1 = .ok (.iload_n 1, 1) := by decide +kernel
theorem d54_2 : decode jdk_42_method_157_code 2 = .ok (.iload_n 2, 1) := by decide +kernel
theorem d54_3 : decode jdk_42_method_157_code 3 = .ok (.getstatic 1053, 3) := by decide +kernel
theorem d54_6 : decode jdk_42_method_157_code 6 = .ok (.invokestatic 1065, 3) := by decide +kernel
theorem d54_9 : decode jdk_42_method_157_code 9 = .ok (.ireturn, 1) := by decide +kernel
theorem d52_0 : decode jdk_52_method_94_code 0 = .ok (.iload_n 0, 1) := by decide +kernel
theorem d52_1 : decode jdk_52_method_94_code 1 = .ok (.iload_n 1, 1) := by decide +kernel
theorem d52_2 : decode jdk_52_method_94_code 2 = .ok (.aload_n 2, 1) := by decide +kernel
theorem d52_3 : decode jdk_52_method_94_code 3 = .ok (.invokestatic 48, 3) := by decide +kernel
theorem d52_6 : decode jdk_52_method_94_code 6 = .ok (.invokestatic 419, 3) := by decide +kernel
theorem d52_9 : decode jdk_52_method_94_code 9 = .ok (.pop, 1) := by decide +kernel
theorem d52_10 : decode jdk_52_method_94_code 10 = .ok (.return_, 1) := by decide +kernel
theorem d51_10 : decode jdk_52_method_86_code 10 = .ok (.iload 5, 2) := by decide +kernel
theorem d51_12 : decode jdk_52_method_86_code 12 = .ok (.iload 4, 2) := by decide +kernel
theorem d51_14 : decode jdk_52_method_86_code 14 = .ok (.if_icmp .ge 27, 3) := by decide +kernel
theorem d51_41 : decode jdk_52_method_86_code 41 = .ok (.return_, 1) := by decide +kernel
theorem d51_17 : decode jdk_52_method_86_code 17 = .ok (.aload_n 2, 1) := by decide +kernel
theorem d51_18 : decode jdk_52_method_86_code 18 = .ok (.iload_n 3, 1) := by decide +kernel
theorem d51_19 : decode jdk_52_method_86_code 19 = .ok (.iinc 3 1, 3) := by decide +kernel
theorem d51_22 : decode jdk_52_method_86_code 22 = .ok (.aload_n 0, 1) := by decide +kernel
theorem d51_23 : decode jdk_52_method_86_code 23 = .ok (.iload_n 1, 1) := by decide +kernel
theorem d51_24 : decode jdk_52_method_86_code 24 = .ok (.iinc 1 1, 3) := by decide +kernel
theorem d51_27 : decode jdk_52_method_86_code 27 = .ok (.baload, 1) := by decide +kernel
theorem d51_28 : decode jdk_52_method_86_code 28 = .ok (.sipush 255, 3) := by decide +kernel
theorem d51_31 : decode jdk_52_method_86_code 31 = .ok (.iand, 1) := by decide +kernel
theorem d51_32 : decode jdk_52_method_86_code 32 = .ok (.invokestatic 111, 3) := by decide +kernel
theorem d51_35 : decode jdk_52_method_86_code 35 = .ok (.iinc 5 1, 3) := by decide +kernel
theorem d51_38 : decode jdk_52_method_86_code 38 = .ok (.goto (-28), 3) := by decide +kernel
theorem d51_0 : decode jdk_52_method_86_code 0 = .ok (.iload_n 3, 1) := by decide +kernel
theorem d51_1 : decode jdk_52_method_86_code 1 = .ok (.iload 4, 2) := by decide +kernel
theorem d51_3 : decode jdk_52_method_86_code 3 = .ok (.aload_n 2, 1) := by decide +kernel
theorem d51_4 : decode jdk_52_method_86_code 4 = .ok (.invokestatic 173, 3) := by decide +kernel
theorem d51_7 : decode jdk_52_method_86_code 7 = .ok (.iconst 0, 1) := by decide +kernel
theorem d51_8 : decode jdk_52_method_86_code 8 = .ok (.istore 5, 2) := by decide +kernel
theorem d50_0 : decode jdk_43_method_50_code 0 = .ok (.aload_n 0, 1) := by decide +kernel
theorem d50_1 : decode jdk_43_method_50_code 1 = .ok (.iload_n 1, 1) := by decide +kernel
theorem d50_2 : decode jdk_43_method_50_code 2 = .ok (.aload_n 2, 1) := by decide +kernel
theorem d50_3 : decode jdk_43_method_50_code 3 = .ok (.iload_n 3, 1) := by decide +kernel
theorem d50_4 : decode jdk_43_method_50_code 4 = .ok (.iload 4, 2) := by decide +kernel
theorem d50_6 : decode jdk_43_method_50_code 6 = .ok (.invokestatic 240, 3) := by decide +kernel
theorem d50_9 : decode jdk_43_method_50_code 9 = .ok (.return_, 1) := by decide +kernel
theorem d15_0 : decode jdk_68_method_2_code 0 = .ok (.aload_n 0, 1) := by decide +kernel
theorem d15_1 : decode jdk_68_method_2_code 1 = .ok (.invokespecial 3, 3) := by decide +kernel
theorem d15_4 : decode jdk_68_method_2_code 4 = .ok (.getstatic 18, 3) := by decide +kernel
theorem d15_7 : decode jdk_68_method_2_code 7 = .ok (.ifCond .eq 18, 3) := by decide +kernel
theorem d15_10 : decode jdk_68_method_2_code 10 = .ok (.aload_n 0, 1) := by decide +kernel
theorem d15_11 : decode jdk_68_method_2_code 11 = .ok (.iload_n 1, 1) := by decide +kernel
theorem d15_12 : decode jdk_68_method_2_code 12 = .ok (.newarray .byte, 2) := by decide +kernel
theorem d15_14 : decode jdk_68_method_2_code 14 = .ok (.putfield 15, 3) := by decide +kernel
theorem d15_17 : decode jdk_68_method_2_code 17 = .ok (.aload_n 0, 1) := by decide +kernel
theorem d15_18 : decode jdk_68_method_2_code 18 = .ok (.iconst 0, 1) := by decide +kernel
theorem d15_19 : decode jdk_68_method_2_code 19 = .ok (.putfield 22, 3) := by decide +kernel
theorem d15_22 : decode jdk_68_method_2_code 22 = .ok (.goto 16, 3) := by decide +kernel
theorem d15_38 : decode jdk_68_method_2_code 38 = .ok (.return_, 1) := by decide +kernel
theorem d14_0 : decode jdk_67_method_1_code 0 = .ok (.aload_n 0, 1) := by decide +kernel
theorem d14_1 : decode jdk_67_method_1_code 1 = .ok (.bipush 16, 2) := by decide +kernel
theorem d14_3 : decode jdk_67_method_1_code 3 = .ok (.invokespecial 1, 3) := by decide +kernel
theorem d14_6 : decode jdk_67_method_1_code 6 = .ok (.return_, 1) := by decide +kernel
theorem d20_0 : decode jdk_68_method_9_code 0 = .ok (.aload_n 0, 1) := by decide +kernel
theorem d20_1 : decode jdk_68_method_9_code 1 = .ok (.getfield 15, 3) := by decide +kernel
theorem d20_4 : decode jdk_68_method_9_code 4 = .ok (.arraylength, 1) := by decide +kernel
theorem d20_5 : decode jdk_68_method_9_code 5 = .ok (.aload_n 0, 1) := by decide +kernel
theorem d20_6 : decode jdk_68_method_9_code 6 = .ok (.getfield 22, 3) := by decide +kernel
theorem d20_9 : decode jdk_68_method_9_code 9 = .ok (.ishr, 1) := by decide +kernel
theorem d20_10 : decode jdk_68_method_9_code 10 = .ok (.istore_n 2, 1) := by decide +kernel
theorem d20_11 : decode jdk_68_method_9_code 11 = .ok (.iload_n 1, 1) := by decide +kernel
theorem d20_12 : decode jdk_68_method_9_code 12 = .ok (.iload_n 2, 1) := by decide +kernel
theorem d20_13 : decode jdk_68_method_9_code 13 = .ok (.isub, 1) := by decide +kernel
theorem d20_14 : decode jdk_68_method_9_code 14 = .ok (.ifCond .le 24, 3) := by decide +kernel
theorem d20_38 : decode jdk_68_method_9_code 38 = .ok (.return_, 1) := by decide +kernel
theorem d31_0 : decode jdk_68_method_68_code 0 = .ok (.getstatic 18, 3) := by decide +kernel
theorem d31_3 : decode jdk_68_method_68_code 3 = .ok (.ifCond .eq 14, 3) := by decide +kernel
theorem d31_6 : decode jdk_68_method_68_code 6 = .ok (.aload_n 0, 1) := by decide +kernel
theorem d31_7 : decode jdk_68_method_68_code 7 = .ok (.getfield 22, 3) := by decide +kernel
theorem d31_10 : decode jdk_68_method_68_code 10 = .ok (.ifCond .ne 7, 3) := by decide +kernel
theorem d31_13 : decode jdk_68_method_68_code 13 = .ok (.iconst 1, 1) := by decide +kernel
theorem d31_14 : decode jdk_68_method_68_code 14 = .ok (.goto 4, 3) := by decide +kernel
theorem d31_18 : decode jdk_68_method_68_code 18 = .ok (.ireturn, 1) := by decide +kernel
theorem d31_17 : decode jdk_68_method_68_code 17 = .ok (.iconst 0, 1) := by decide +kernel
theorem d47_0 : decode jdk_68_method_11_code 0 = .ok (.aload_n 0, 1) := by decide +kernel
theorem d47_1 : decode jdk_68_method_11_code 1 = .ok (.invokevirtual 83, 3) := by decide +kernel
theorem d47_4 : decode jdk_68_method_11_code 4 = .ok (.ifCond .ne 4, 3) := by decide +kernel
theorem d47_7 : decode jdk_68_method_11_code 7 = .ok (.return_, 1) := by decide +kernel
theorem d47_8 : decode jdk_68_method_11_code 8 = .ok (.aload_n 0, 1) := by decide +kernel
theorem d47_9 : decode jdk_68_method_11_code 9 = .ok (.getfield 15, 3) := by decide +kernel
theorem d47_12 : decode jdk_68_method_11_code 12 = .ok (.arraylength, 1) := by decide +kernel
theorem d47_13 : decode jdk_68_method_11_code 13 = .ok (.invokestatic 26, 3) := by decide +kernel
theorem d47_16 : decode jdk_68_method_11_code 16 = .ok (.astore_n 1, 1) := by decide +kernel
theorem d47_17 : decode jdk_68_method_11_code 17 = .ok (.aload_n 0, 1) := by decide +kernel
theorem d47_18 : decode jdk_68_method_11_code 18 = .ok (.getfield 15, 3) := by decide +kernel
theorem d47_21 : decode jdk_68_method_11_code 21 = .ok (.iconst 0, 1) := by decide +kernel
theorem d47_22 : decode jdk_68_method_11_code 22 = .ok (.aload_n 1, 1) := by decide +kernel
theorem d47_23 : decode jdk_68_method_11_code 23 = .ok (.iconst 0, 1) := by decide +kernel
theorem d47_24 : decode jdk_68_method_11_code 24 = .ok (.aload_n 0, 1) := by decide +kernel
theorem d47_25 : decode jdk_68_method_11_code 25 = .ok (.getfield 79, 3) := by decide +kernel
theorem d47_28 : decode jdk_68_method_11_code 28 = .ok (.invokestatic 125, 3) := by decide +kernel
theorem d47_31 : decode jdk_68_method_11_code 31 = .ok (.aload_n 0, 1) := by decide +kernel
theorem d47_32 : decode jdk_68_method_11_code 32 = .ok (.aload_n 1, 1) := by decide +kernel
theorem d47_33 : decode jdk_68_method_11_code 33 = .ok (.putfield 15, 3) := by decide +kernel
theorem d47_36 : decode jdk_68_method_11_code 36 = .ok (.aload_n 0, 1) := by decide +kernel
theorem d47_37 : decode jdk_68_method_11_code 37 = .ok (.iconst 1, 1) := by decide +kernel
theorem d47_38 : decode jdk_68_method_11_code 38 = .ok (.putfield 22, 3) := by decide +kernel
theorem d47_41 : decode jdk_68_method_11_code 41 = .ok (.return_, 1) := by decide +kernel
theorem d22_0 : decode jdk_68_method_71_code 0 = .ok (.getstatic 18, 3) := by decide +kernel
theorem d22_3 : decode jdk_68_method_71_code 3 = .ok (.ifCond .eq 18, 3) := by decide +kernel
theorem d22_6 : decode jdk_68_method_71_code 6 = .ok (.aload_n 0, 1) := by decide +kernel
theorem d22_7 : decode jdk_68_method_71_code 7 = .ok (.getfield 22, 3) := by decide +kernel
theorem d22_10 : decode jdk_68_method_71_code 10 = .ok (.aload_n 1, 1) := by decide +kernel
theorem d22_11 : decode jdk_68_method_71_code 11 = .ok (.invokevirtual 40, 3) := by decide +kernel
theorem d22_14 : decode jdk_68_method_71_code 14 = .ok (.if_icmp .eq 7, 3) := by decide +kernel
theorem d22_21 : decode jdk_68_method_71_code 21 = .ok (.return_, 1) := by decide +kernel
theorem d22_17 : decode jdk_68_method_71_code 17 = .ok (.aload_n 0, 1) := by decide +kernel
theorem d22_18 : decode jdk_68_method_71_code 18 = .ok (.invokevirtual 195, 3) := by decide +kernel
theorem d23_0 : decode jdk_42_method_147_code 0 = .ok (.aload_n 0, 1) := by decide +kernel
theorem d23_1 : decode jdk_42_method_147_code 1 = .ok (.invokevirtual 335, 3) := by decide +kernel
theorem d23_4 : decode jdk_42_method_147_code 4 = .ok (.iload_n 3, 1) := by decide +kernel
theorem d23_5 : decode jdk_42_method_147_code 5 = .ok (.if_icmp .ne 23, 3) := by decide +kernel
theorem d23_8 : decode jdk_42_method_147_code 8 = .ok (.aload_n 0, 1) := by decide +kernel
theorem d23_9 : decode jdk_42_method_147_code 9 = .ok (.getfield 9, 3) := by decide +kernel
theorem d23_12 : decode jdk_42_method_147_code 12 = .ok (.iconst 0, 1) := by decide +kernel
theorem d23_13 : decode jdk_42_method_147_code 13 = .ok (.aload_n 1, 1) := by decide +kernel
theorem d23_14 : decode jdk_42_method_147_code 14 = .ok (.iload_n 2, 1) := by decide +kernel
theorem d23_15 : decode jdk_42_method_147_code 15 = .ok (.iload_n 3, 1) := by decide +kernel
theorem d23_16 : decode jdk_42_method_147_code 16 = .ok (.ishl, 1) := by decide +kernel
theorem d23_17 : decode jdk_42_method_147_code 17 = .ok (.aload_n 0, 1) := by decide +kernel
theorem d23_18 : decode jdk_42_method_147_code 18 = .ok (.getfield 9, 3) := by decide +kernel
theorem d23_21 : decode jdk_42_method_147_code 21 = .ok (.arraylength, 1) := by decide +kernel
theorem d23_22 : decode jdk_42_method_147_code 22 = .ok (.invokestatic 212, 3) := by decide +kernel
theorem d23_25 : decode jdk_42_method_147_code 25 = .ok (.goto 18, 3) := by decide +kernel
theorem d23_43 : decode jdk_42_method_147_code 43 = .ok (.return_, 1) := by decide +kernel
theorem d23_28 : decode jdk_42_method_147_code 28 = .ok (.aload_n 0, 1) := by decide +kernel
theorem d23_29 : decode jdk_42_method_147_code 29 = .ok (.getfield 9, 3) := by decide +kernel
theorem d23_32 : decode jdk_42_method_147_code 32 = .ok (.iconst 0, 1) := by decide +kernel
theorem d23_33 : decode jdk_42_method_147_code 33 = .ok (.aload_n 1, 1) := by decide +kernel
theorem d23_34 : decode jdk_42_method_147_code 34 = .ok (.iload_n 2, 1) := by decide +kernel
theorem d23_35 : decode jdk_42_method_147_code 35 = .ok (.aload_n 0, 1) := by decide +kernel
theorem d23_36 : decode jdk_42_method_147_code 36 = .ok (.getfield 9, 3) := by decide +kernel
theorem d23_39 : decode jdk_42_method_147_code 39 = .ok (.arraylength, 1) := by decide +kernel
theorem d23_40 : decode jdk_42_method_147_code 40 = .ok (.invokestatic 106, 3) := by decide +kernel
theorem d21_0 : decode jdk_68_method_73_code 0 = .ok (.aload_n 0, 1) := by decide +kernel
theorem d21_1 : decode jdk_68_method_73_code 1 = .ok (.aload_n 2, 1) := by decide +kernel
theorem d21_2 : decode jdk_68_method_73_code 2 = .ok (.invokevirtual 397, 3) := by decide +kernel
theorem d21_5 : decode jdk_68_method_73_code 5 = .ok (.aload_n 2, 1) := by decide +kernel
theorem d21_6 : decode jdk_68_method_73_code 6 = .ok (.aload_n 0, 1) := by decide +kernel
theorem d21_7 : decode jdk_68_method_73_code 7 = .ok (.getfield 15, 3) := by decide +kernel
theorem d21_10 : decode jdk_68_method_73_code 10 = .ok (.iload_n 1, 1) := by decide +kernel
theorem d21_11 : decode jdk_68_method_73_code 11 = .ok (.aload_n 0, 1) := by decide +kernel
theorem d21_12 : decode jdk_68_method_73_code 12 = .ok (.getfield 22, 3) := by decide +kernel
theorem d21_15 : decode jdk_68_method_73_code 15 = .ok (.invokevirtual 399, 3) := by decide +kernel
theorem d21_18 : decode jdk_68_method_73_code 18 = .ok (.return_, 1) := by decide +kernel
theorem d17_0 : decode jdk_68_method_22_code 0 = .ok (.aload_n 1, 1) := by decide +kernel
theorem d17_1 : decode jdk_68_method_22_code 1 = .ok (.ifnonnull 8, 3) := by decide +kernel
theorem d17_9 : decode jdk_68_method_22_code 9 = .ok (.aload_n 1, 1) := by decide +kernel
theorem d17_10 : decode jdk_68_method_22_code 10 = .ok (.invokevirtual 32, 3) := by decide +kernel
theorem d17_13 : decode jdk_68_method_22_code 13 = .ok (.istore_n 2, 1) := by decide +kernel
theorem d17_14 : decode jdk_68_method_22_code 14 = .ok (.aload_n 0, 1) := by decide +kernel
theorem d17_15 : decode jdk_68_method_22_code 15 = .ok (.aload_n 0, 1) := by decide +kernel
theorem d17_16 : decode jdk_68_method_22_code 16 = .ok (.getfield 79, 3) := by decide +kernel
theorem d17_19 : decode jdk_68_method_22_code 19 = .ok (.iload_n 2, 1) := by decide +kernel
theorem d17_20 : decode jdk_68_method_22_code 20 = .ok (.iadd, 1) := by decide +kernel
theorem d17_21 : decode jdk_68_method_22_code 21 = .ok (.invokevirtual 100, 3) := by decide +kernel
theorem d17_24 : decode jdk_68_method_22_code 24 = .ok (.aload_n 0, 1) := by decide +kernel
theorem d17_25 : decode jdk_68_method_22_code 25 = .ok (.aload_n 0, 1) := by decide +kernel
theorem d17_26 : decode jdk_68_method_22_code 26 = .ok (.getfield 79, 3) := by decide +kernel
theorem d17_29 : decode jdk_68_method_22_code 29 = .ok (.aload_n 1, 1) := by decide +kernel
theorem d17_30 : decode jdk_68_method_22_code 30 = .ok (.invokevirtual 208, 3) := by decide +kernel
theorem d17_33 : decode jdk_68_method_22_code 33 = .ok (.aload_n 0, 1) := by decide +kernel
theorem d17_34 : decode jdk_68_method_22_code 34 = .ok (.dup, 1) := by decide +kernel
theorem d17_35 : decode jdk_68_method_22_code 35 = .ok (.getfield 79, 3) := by decide +kernel
theorem d17_38 : decode jdk_68_method_22_code 38 = .ok (.iload_n 2, 1) := by decide +kernel
theorem d17_39 : decode jdk_68_method_22_code 39 = .ok (.iadd, 1) := by decide +kernel
theorem d17_40 : decode jdk_68_method_22_code 40 = .ok (.putfield 79, 3) := by decide +kernel
theorem d17_43 : decode jdk_68_method_22_code 43 = .ok (.aload_n 0, 1) := by decide +kernel
theorem d17_44 : decode jdk_68_method_22_code 44 = .ok (.areturn, 1) := by decide +kernel
theorem d16_0 : decode jdk_67_method_7_code 0 = .ok (.aload_n 0, 1) := by decide +kernel
theorem d16_1 : decode jdk_67_method_7_code 1 = .ok (.aload_n 1, 1) := by decide +kernel
theorem d16_2 : decode jdk_67_method_7_code 2 = .ok (.invokespecial 29, 3) := by decide +kernel
theorem d16_5 : decode jdk_67_method_7_code 5 = .ok (.pop, 1) := by decide +kernel
theorem d16_6 : decode jdk_67_method_7_code 6 = .ok (.aload_n 0, 1) := by decide +kernel
theorem d16_7 : decode jdk_67_method_7_code 7 = .ok (.areturn, 1) := by decide +kernel
theorem d28_0 : decode jdk_68_method_64_code 0 = .ok (.aload_n 0, 1) := by decide +kernel
theorem d28_1 : decode jdk_68_method_64_code 1 = .ok (.getfield 15, 3) := by decide +kernel
theorem d28_4 : decode jdk_68_method_64_code 4 = .ok (.areturn, 1) := by decide +kernel
theorem d30_0 : decode jdk_68_method_6_code 0 = .ok (.aload_n 0, 1) := by decide +kernel
theorem d30_1 : decode jdk_68_method_6_code 1 = .ok (.getfield 79, 3) := by decide +kernel
theorem d30_4 : decode jdk_68_method_6_code 4 = .ok (.ireturn, 1) := by decide +kernel
theorem d29_0 : decode jdk_67_method_93_code 0 = .ok (.aload_n 0, 1) := by decide +kernel
theorem d29_1 : decode jdk_67_method_93_code 1 = .ok (.invokespecial 343, 3) := by decide +kernel
theorem d29_4 : decode jdk_67_method_93_code 4 = .ok (.ireturn, 1) := by decide +kernel
theorem d34_0 : decode jdk_65_method_131_code 0 = .ok (.iload_n 1, 1) := by decide +kernel
theorem d34_1 : decode jdk_65_method_131_code 1 = .ok (.iload_n 0, 1) := by decide +kernel
theorem d34_2 : decode jdk_65_method_131_code 2 = .ok (.if_icmp .ge 35, 3) := by decide +kernel
theorem d34_37 : decode jdk_65_method_131_code 37 = .ok (.return_, 1) := by decide +kernel
theorem d33_0 : decode jdk_65_method_133_code 0 = .ok (.iload_n 1, 1) := by decide +kernel
theorem d33_1 : decode jdk_65_method_133_code 1 = .ok (.iload_n 2, 1) := by decide +kernel
theorem d33_2 : decode jdk_65_method_133_code 2 = .ok (.invokestatic 343, 3) := by decide +kernel
theorem d33_5 : decode jdk_65_method_133_code 5 = .ok (.iload_n 2, 1) := by decide +kernel
theorem d33_6 : decode jdk_65_method_133_code 6 = .ok (.iload_n 1, 1) := by decide +kernel
theorem d33_7 : decode jdk_65_method_133_code 7 = .ok (.isub, 1) := by decide +kernel
theorem d33_8 : decode jdk_65_method_133_code 8 = .ok (.istore_n 3, 1) := by decide +kernel
theorem d33_9 : decode jdk_65_method_133_code 9 = .ok (.iload_n 3, 1) := by decide +kernel
theorem d33_10 : decode jdk_65_method_133_code 10 = .ok (.newarray .byte, 2) := by decide +kernel
theorem d33_12 : decode jdk_65_method_133_code 12 = .ok (.astore 4, 2) := by decide +kernel
theorem d33_14 : decode jdk_65_method_133_code 14 = .ok (.aload_n 0, 1) := by decide +kernel
theorem d33_15 : decode jdk_65_method_133_code 15 = .ok (.iload_n 1, 1) := by decide +kernel
theorem d33_16 : decode jdk_65_method_133_code 16 = .ok (.aload 4, 2) := by decide +kernel
theorem d33_18 : decode jdk_65_method_133_code 18 = .ok (.iconst 0, 1) := by decide +kernel
theorem d33_19 : decode jdk_65_method_133_code 19 = .ok (.aload_n 0, 1) := by decide +kernel
theorem d33_20 : decode jdk_65_method_133_code 20 = .ok (.arraylength, 1) := by decide +kernel
theorem d33_21 : decode jdk_65_method_133_code 21 = .ok (.iload_n 1, 1) := by decide +kernel
theorem d33_22 : decode jdk_65_method_133_code 22 = .ok (.isub, 1) := by decide +kernel
theorem d33_23 : decode jdk_65_method_133_code 23 = .ok (.iload_n 3, 1) := by decide +kernel
theorem d33_24 : decode jdk_65_method_133_code 24 = .ok (.invokestatic 304, 3) := by decide +kernel
theorem d33_27 : decode jdk_65_method_133_code 27 = .ok (.invokestatic 150, 3) := by decide +kernel
theorem d33_30 : decode jdk_65_method_133_code 30 = .ok (.aload 4, 2) := by decide +kernel
theorem d33_32 : decode jdk_65_method_133_code 32 = .ok (.areturn, 1) := by decide +kernel
theorem d32_0 : decode jdk_65_method_132_code 0 = .ok (.iload_n 1, 1) := by decide +kernel
theorem d32_1 : decode jdk_65_method_132_code 1 = .ok (.ifCond .ne 9, 3) := by decide +kernel
theorem d32_10 : decode jdk_65_method_132_code 10 = .ok (.aload_n 0, 1) := by decide +kernel
theorem d32_11 : decode jdk_65_method_132_code 11 = .ok (.iload_n 1, 1) := by decide +kernel
theorem d32_12 : decode jdk_65_method_132_code 12 = .ok (.iload_n 2, 1) := by decide +kernel
theorem d32_13 : decode jdk_65_method_132_code 13 = .ok (.invokestatic 339, 3) := by decide +kernel
theorem d32_16 : decode jdk_65_method_132_code 16 = .ok (.areturn, 1) := by decide +kernel
theorem d32_4 : decode jdk_65_method_132_code 4 = .ok (.iload_n 2, 1) := by decide +kernel
theorem d32_5 : decode jdk_65_method_132_code 5 = .ok (.aload_n 0, 1) := by decide +kernel
theorem d32_6 : decode jdk_65_method_132_code 6 = .ok (.arraylength, 1) := by decide +kernel
theorem d32_7 : decode jdk_65_method_132_code 7 = .ok (.if_icmp .eq 10, 3) := by decide +kernel
theorem d27_0 : decode jdk_42_method_150_code 0 = .ok (.aload_n 0, 1) := by decide +kernel
theorem d27_1 : decode jdk_42_method_150_code 1 = .ok (.invokespecial 1, 3) := by decide +kernel
theorem d27_4 : decode jdk_42_method_150_code 4 = .ok (.aload_n 1, 1) := by decide +kernel
theorem d27_5 : decode jdk_42_method_150_code 5 = .ok (.invokevirtual 552, 3) := by decide +kernel
theorem d27_8 : decode jdk_42_method_150_code 8 = .ok (.astore_n 3, 1) := by decide +kernel
theorem d27_9 : decode jdk_42_method_150_code 9 = .ok (.aload_n 1, 1) := by decide +kernel
theorem d27_10 : decode jdk_42_method_150_code 10 = .ok (.invokevirtual 549, 3) := by decide +kernel
theorem d27_13 : decode jdk_42_method_150_code 13 = .ok (.istore 4, 2) := by decide +kernel
theorem d27_15 : decode jdk_42_method_150_code 15 = .ok (.aload_n 1, 1) := by decide +kernel
theorem d27_16 : decode jdk_42_method_150_code 16 = .ok (.invokevirtual 1047, 3) := by decide +kernel
theorem d27_19 : decode jdk_42_method_150_code 19 = .ok (.ifCond .eq 22, 3) := by decide +kernel
theorem d27_22 : decode jdk_42_method_150_code 22 = .ok (.aload_n 0, 1) := by decide +kernel
theorem d27_23 : decode jdk_42_method_150_code 23 = .ok (.iconst 0, 1) := by decide +kernel
theorem d27_24 : decode jdk_42_method_150_code 24 = .ok (.putfield 15, 3) := by decide +kernel
theorem d27_27 : decode jdk_42_method_150_code 27 = .ok (.aload_n 0, 1) := by decide +kernel
theorem d27_28 : decode jdk_42_method_150_code 28 = .ok (.aload_n 3, 1) := by decide +kernel
theorem d27_29 : decode jdk_42_method_150_code 29 = .ok (.iconst 0, 1) := by decide +kernel
theorem d27_30 : decode jdk_42_method_150_code 30 = .ok (.iload 4, 2) := by decide +kernel
theorem d27_32 : decode jdk_42_method_150_code 32 = .ok (.invokestatic 54, 3) := by decide +kernel
theorem d27_35 : decode jdk_42_method_150_code 35 = .ok (.putfield 9, 3) := by decide +kernel
theorem d27_38 : decode jdk_42_method_150_code 38 = .ok (.goto 59, 3) := by decide +kernel
theorem d27_97 : decode jdk_42_method_150_code 97 = .ok (.return_, 1) := by decide +kernel
theorem d26_0 : decode jdk_42_method_53_code 0 = .ok (.aload_n 0, 1) := by decide +kernel
theorem d26_1 : decode jdk_42_method_53_code 1 = .ok (.aload_n 1, 1) := by decide +kernel
theorem d26_2 : decode jdk_42_method_53_code 2 = .ok (.aconst_null, 1) := by decide +kernel
theorem d26_3 : decode jdk_42_method_53_code 3 = .ok (.invokespecial 489, 3) := by decide +kernel
theorem d26_6 : decode jdk_42_method_53_code 6 = .ok (.return_, 1) := by decide +kernel
theorem d25_0 : decode jdk_67_method_42_code 0 = .ok (.new 18, 3) := by decide +kernel
theorem d25_3 : decode jdk_67_method_42_code 3 = .ok (.dup, 1) := by decide +kernel
theorem d25_4 : decode jdk_67_method_42_code 4 = .ok (.aload_n 0, 1) := by decide +kernel
theorem d25_5 : decode jdk_67_method_42_code 5 = .ok (.invokespecial 137, 3) := by decide +kernel
theorem d25_8 : decode jdk_67_method_42_code 8 = .ok (.areturn, 1) := by decide +kernel
theorem d27_41 : decode jdk_42_method_150_code 41 = .ok (.getstatic 38, 3) := by decide +kernel
theorem d27_44 : decode jdk_42_method_150_code 44 = .ok (.ifCond .eq 35, 3) := by decide +kernel
theorem d27_47 : decode jdk_42_method_150_code 47 = .ok (.aload_n 1, 1) := by decide +kernel
theorem d27_48 : decode jdk_42_method_150_code 48 = .ok (.getfield 1048, 3) := by decide +kernel
theorem d27_51 : decode jdk_42_method_150_code 51 = .ok (.ifCond .eq 28, 3) := by decide +kernel
theorem d27_79 : decode jdk_42_method_150_code 79 = .ok (.aload_n 0, 1) := by decide +kernel
theorem d27_80 : decode jdk_42_method_150_code 80 = .ok (.iconst 1, 1) := by decide +kernel
theorem d27_81 : decode jdk_42_method_150_code 81 = .ok (.putfield 15, 3) := by decide +kernel
theorem d27_84 : decode jdk_42_method_150_code 84 = .ok (.aload_n 0, 1) := by decide +kernel
theorem d27_85 : decode jdk_42_method_150_code 85 = .ok (.aload_n 3, 1) := by decide +kernel
theorem d27_86 : decode jdk_42_method_150_code 86 = .ok (.iconst 0, 1) := by decide +kernel
theorem d27_87 : decode jdk_42_method_150_code 87 = .ok (.iload 4, 2) := by decide +kernel
theorem d27_89 : decode jdk_42_method_150_code 89 = .ok (.iconst 1, 1) := by decide +kernel
theorem d27_90 : decode jdk_42_method_150_code 90 = .ok (.ishl, 1) := by decide +kernel
theorem d27_91 : decode jdk_42_method_150_code 91 = .ok (.invokestatic 54, 3) := by decide +kernel
theorem d27_94 : decode jdk_42_method_150_code 94 = .ok (.putfield 9, 3) := by decide +kernel
theorem d10_0 : decode jdk_78_method_2_code 0 = .ok (.aload_n 0, 1) := by decide +kernel
theorem d10_1 : decode jdk_78_method_2_code 1 = .ok (.invokespecial 1, 3) := by decide +kernel
theorem d10_4 : decode jdk_78_method_2_code 4 = .ok (.aload_n 0, 1) := by decide +kernel
theorem d10_5 : decode jdk_78_method_2_code 5 = .ok (.aload_n 0, 1) := by decide +kernel
theorem d10_6 : decode jdk_78_method_2_code 6 = .ok (.putfield 7, 3) := by decide +kernel
theorem d10_9 : decode jdk_78_method_2_code 9 = .ok (.aload_n 0, 1) := by decide +kernel
theorem d10_10 : decode jdk_78_method_2_code 10 = .ok (.getstatic 13, 3) := by decide +kernel
theorem d10_13 : decode jdk_78_method_2_code 13 = .ok (.putfield 17, 3) := by decide +kernel
theorem d10_16 : decode jdk_78_method_2_code 16 = .ok (.aload_n 0, 1) := by decide +kernel
theorem d10_17 : decode jdk_78_method_2_code 17 = .ok (.getstatic 20, 3) := by decide +kernel
theorem d10_20 : decode jdk_78_method_2_code 20 = .ok (.putfield 24, 3) := by decide +kernel
theorem d10_23 : decode jdk_78_method_2_code 23 = .ok (.aload_n 0, 1) := by decide +kernel
theorem d10_24 : decode jdk_78_method_2_code 24 = .ok (.invokevirtual 27, 3) := by decide +kernel
theorem d10_27 : decode jdk_78_method_2_code 27 = .ok (.pop, 1) := by decide +kernel
theorem d10_28 : decode jdk_78_method_2_code 28 = .ok (.aload_n 0, 1) := by decide +kernel
theorem d10_29 : decode jdk_78_method_2_code 29 = .ok (.aload_n 1, 1) := by decide +kernel
theorem d10_30 : decode jdk_78_method_2_code 30 = .ok (.putfield 31, 3) := by decide +kernel
theorem d10_33 : decode jdk_78_method_2_code 33 = .ok (.return_, 1) := by decide +kernel
theorem d9_0 : decode jdk_59_method_2_code 0 = .ok (.aload_n 0, 1) := by decide +kernel
theorem d9_1 : decode jdk_59_method_2_code 1 = .ok (.aload_n 1, 1) := by decide +kernel
theorem d9_2 : decode jdk_59_method_2_code 2 = .ok (.invokespecial 7, 3) := by decide +kernel
theorem d9_5 : decode jdk_59_method_2_code 5 = .ok (.return_, 1) := by decide +kernel
theorem d8_0 : decode prog_4_method_1_code 0 = .ok (.aload_n 0, 1) := by decide +kernel
theorem d8_1 : decode prog_4_method_1_code 1 = .ok (.aload_n 1, 1) := by decide +kernel
theorem d8_2 : decode prog_4_method_1_code 2 = .ok (.invokespecial 1, 3) := by decide +kernel
theorem d8_5 : decode prog_4_method_1_code 5 = .ok (.return_, 1) := by decide +kernel
theorem d1_0 : decode method_2_code 0 = .ok (.iload_n 0, 1) := by decide +kernel
theorem d1_1 : decode method_2_code 1 = .ok (.ifCond .ne 6, 3) := by decide +kernel
theorem d1_7 : decode method_2_code 7 = .ok (.iload_n 0, 1) := by decide +kernel
theorem d1_8 : decode method_2_code 8 = .ok (.iconst 1, 1) := by decide +kernel
theorem d1_9 : decode method_2_code 9 = .ok (.if_icmp .ne 12, 3) := by decide +kernel
theorem d1_21 : decode method_2_code 21 = .ok (.new 11, 3) := by decide +kernel
theorem d1_24 : decode method_2_code 24 = .ok (.dup, 1) := by decide +kernel
theorem d1_25 : decode method_2_code 25 = .ok (.iconst 2, 1) := by decide +kernel
theorem d1_26 : decode method_2_code 26 = .ok (.newarray .char, 2) := by decide +kernel
theorem d1_28 : decode method_2_code 28 = .ok (.dup, 1) := by decide +kernel
theorem d1_29 : decode method_2_code 29 = .ok (.iconst 0, 1) := by decide +kernel
theorem d1_30 : decode method_2_code 30 = .ok (.iload_n 1, 1) := by decide +kernel
theorem d1_31 : decode method_2_code 31 = .ok (.ldc 9, 2) := by decide +kernel
theorem d1_33 : decode method_2_code 33 = .ok (.iand, 1) := by decide +kernel
theorem d1_34 : decode method_2_code 34 = .ok (.i2c, 1) := by decide +kernel
theorem d1_35 : decode method_2_code 35 = .ok (.castore, 1) := by decide +kernel
theorem d1_36 : decode method_2_code 36 = .ok (.dup, 1) := by decide +kernel
theorem d1_37 : decode method_2_code 37 = .ok (.iconst 1, 1) := by decide +kernel
theorem d1_38 : decode method_2_code 38 = .ok (.iload_n 1, 1) := by decide +kernel
theorem d1_39 : decode method_2_code 39 = .ok (.bipush 16, 2) := by decide +kernel
theorem d1_41 : decode method_2_code 41 = .ok (.iushr, 1) := by decide +kernel
theorem d1_42 : decode method_2_code 42 = .ok (.ldc 9, 2) := by decide +kernel
theorem d1_44 : decode method_2_code 44 = .ok (.iand, 1) := by decide +kernel
theorem d1_45 : decode method_2_code 45 = .ok (.i2c, 1) := by decide +kernel
theorem d1_46 : decode method_2_code 46 = .ok (.castore, 1) := by decide +kernel
theorem d1_47 : decode method_2_code 47 = .ok (.invokespecial 16, 3) := by decide +kernel
theorem d1_50 : decode method_2_code 50 = .ok (.areturn, 1) := by decide +kernel
theorem d1_12 : decode method_2_code 12 = .ok (.iload_n 1, 1) := by decide +kernel
theorem d1_13 : decode method_2_code 13 = .ok (.ldc 9, 2) := by decide +kernel
theorem d1_15 : decode method_2_code 15 = .ok (.iand, 1) := by decide +kernel
theorem d1_16 : decode method_2_code 16 = .ok (.i2c, 1) := by decide +kernel
theorem d1_17 : decode method_2_code 17 = .ok (.invokestatic 10, 3) := by decide +kernel
theorem d1_20 : decode method_2_code 20 = .ok (.areturn, 1) := by decide +kernel
theorem d1_4 : decode method_2_code 4 = .ok (.ldc 7, 2) := by decide +kernel
theorem d1_6 : decode method_2_code 6 = .ok (.areturn, 1) := by decide +kernel
theorem d24_0 : decode jdk_78_method_6_code 0 = .ok (.aload_n 0, 1) := by decide +kernel
theorem d24_1 : decode jdk_78_method_6_code 1 = .ok (.getfield 31, 3) := by decide +kernel
theorem d24_4 : decode jdk_78_method_6_code 4 = .ok (.areturn, 1) := by decide +kernel
theorem d13_0 : decode prog_4_method_2_code 0 = .ok (.new 7, 3) := by decide +kernel
theorem d13_3 : decode prog_4_method_2_code 3 = .ok (.dup, 1) := by decide +kernel
theorem d13_4 : decode prog_4_method_2_code 4 = .ok (.new 9, 3) := by decide +kernel
theorem d13_7 : decode prog_4_method_2_code 7 = .ok (.dup, 1) := by decide +kernel
theorem d13_8 : decode prog_4_method_2_code 8 = .ok (.invokespecial 11, 3) := by decide +kernel
theorem d13_11 : decode prog_4_method_2_code 11 = .ok (.aload_n 1, 1) := by decide +kernel
theorem d13_12 : decode prog_4_method_2_code 12 = .ok (.invokevirtual 14, 3) := by decide +kernel
theorem d13_15 : decode prog_4_method_2_code 15 = .ok (.ldc 18, 2) := by decide +kernel
theorem d13_17 : decode prog_4_method_2_code 17 = .ok (.invokevirtual 14, 3) := by decide +kernel
theorem d13_20 : decode prog_4_method_2_code 20 = .ok (.aload_n 0, 1) := by decide +kernel
theorem d13_21 : decode prog_4_method_2_code 21 = .ok (.invokevirtual 20, 3) := by decide +kernel
theorem d13_24 : decode prog_4_method_2_code 24 = .ok (.invokevirtual 14, 3) := by decide +kernel
theorem d13_27 : decode prog_4_method_2_code 27 = .ok (.invokevirtual 24, 3) := by decide +kernel
theorem d13_30 : decode prog_4_method_2_code 30 = .ok (.invokespecial 27, 3) := by decide +kernel
theorem d13_33 : decode prog_4_method_2_code 33 = .ok (.areturn, 1) := by decide +kernel
theorem d41_0 : decode jdk_42_method_66_code 0 = .ok (.aload_n 0, 1) := by decide +kernel
theorem d41_1 : decode jdk_42_method_66_code 1 = .ok (.aload_n 1, 1) := by decide +kernel
theorem d41_2 : decode jdk_42_method_66_code 2 = .ok (.if_acmp .ne 5, 3) := by decide +kernel
theorem d41_5 : decode jdk_42_method_66_code 5 = .ok (.iconst 1, 1) := by decide +kernel
theorem d41_6 : decode jdk_42_method_66_code 6 = .ok (.ireturn, 1) := by decide +kernel
theorem strAtoms {Z : State} {a0 : Array Value} (hw : ∀ d ∈ tables_1, d.before a0 Z = true) : ∀ a ∈ Bundle.stringAtoms, a.before a0 Z = true := fun d hd => hw d ((by decide +kernel : ∀ d ∈ Bundle.stringAtoms, d ∈ tables_1) d hd)
theorem and255_chars (x : Int32) : ¬ nar .char ((x &&& (255 : Int32)).toUInt32.toUInt16.toUInt32.toInt32) < 0 ∧ ¬ (255 : Int32) < nar .char ((x &&& (255 : Int32)).toUInt32.toUInt16.toUInt32.toInt32) := by
  have t : ∀ k : Fin 256, ¬ nar .char ((Int32.ofNat k.val).toUInt32.toUInt16.toUInt32.toInt32) < 0 ∧ ¬ (255 : Int32) < nar .char ((Int32.ofNat k.val).toUInt32.toUInt16.toUInt32.toInt32) := by decide +kernel
  have h : (x &&& 255).toBitVec.toNat < 256 := by
    simp only [Int32.toBitVec_and, BitVec.toNat_and]
    exact Nat.lt_succ_of_le Nat.and_le_right
  have e : (x &&& 255) = Int32.ofNat (x &&& 255).toBitVec.toNat := by
    apply Int32.toBitVec_inj.mp
    show _ = BitVec.ofNat 32 _
    rw [BitVec.ofNat_toNat]; simp
  rw [e]
  exact t ⟨_, h⟩
set_option maxRecDepth 65536 in
set_option maxHeartbeats 40000000 in
theorem ok_lat {l : Launch} {Z : State} {a0 : Array Value} (hw : ∀ d ∈ tables_1, d.before a0 Z = true) {n0 : Nat} (a : Addr) {zC : Int32} {h0 : Heap} (SC : Sta Z Z.heap "java/lang/String" "COMPACT_STRINGS" "Z" (.int zC)) (nC : ¬ zC = 0) (C : Fld Z h0 a "java/lang/String" "coder" "B" (.int 0)) :
    Ok false l Z [] n0 [] (⟨"java/lang/String", "isLatin1", "()Z"⟩ : MethodName) jdk_42_method_154_code 1 (Option.some Jvm.ClassFile.FieldType.boolean) ({ frames := 0, cells := 0, slots := 0, locals := 0 } : Room) #[(.ref a)] h0 (fun v h => v = some (.int 1) ∧ h = h0) (fun _ => []) := by
  refine Ok.of_run (ls0 := #[.val (.ref a)]) (plainFor_of_name (by first | (simp [plainName, overriddenIn]; done) | decide +kernel)) (fun m => by first | (simp [entryFrame, mkF, argsToLocals, Value.category]; done) | rfl) rfl ?_
  refine Run.old fun hO => ?_
  have hn0 : n0 ≤ h0.size := hO.1 ▸ hO.2.1
  refine r_getstatic (host := "") d37_0 rfl (Or.inl (wd19 hw)) Via.refl SC ?_
  refine r_ifeq (pc2 := 17) d37_3 rfl rfl (fun cc => absurd cc nC) (fun _ => ?_)
  refine r_aloadN d37_6 rfl rfl rfl ?_
  refine r_getfield (host := "") d37_7 rfl (Or.inl (wd31 hw)) Via.refl C ?_
  refine r_ifne (pc2 := 17) d37_10 rfl rfl (fun cc => absurd rfl cc) (fun _ => ?_)
  refine r_iconst (v := 1) d37_13 rfl rfl ?_
  refine r_goto (pc' := 18) d37_14 rfl ?_
  exact r_ireturnN (t := .boolean) d37_18 rfl (by simp) ⟨rfl, rfl⟩ (by simp) (by decide) (by decide)
theorem lat_ofNat {c : Int32} (h : ¬ c < 0 ∧ ¬ (255 : Int32) < c) : ∃ k : Fin 256, c = Int32.ofNat k.val := by
  have e0 : (0 : Int32).toInt = 0 := rfl
  have e1 : (255 : Int32).toInt = 255 := rfl
  simp only [Int32.lt_iff_toInt_lt, e0, e1] at h
  refine ⟨⟨c.toInt.toNat, by omega⟩, Int32.toInt_inj.mp ?_⟩
  rw [Int32.toInt_ofNat_of_lt (by show c.toInt.toNat < _; omega)]
  show _ = ((c.toInt.toNat : Nat) : Int)
  omega
theorem lat_byte {c : Int32} (h : ¬ c < 0 ∧ ¬ (255 : Int32) < c) : (c.toInt8.toInt32 &&& (255 : Int32)).toUInt32.toUInt16.toUInt32.toInt32 = c := by
  obtain ⟨k, rfl⟩ := lat_ofNat h
  exact (by decide +kernel : ∀ k : Fin 256, ((Int32.ofNat k.val).toInt8.toInt32 &&& (255 : Int32)).toUInt32.toUInt16.toUInt32.toInt32 = Int32.ofNat k.val) k
theorem lat_char {c : Int32} (h : ¬ c < 0 ∧ ¬ (255 : Int32) < c) : nar .char c = c := by
  obtain ⟨k, rfl⟩ := lat_ofNat h
  exact (by decide +kernel : ∀ k : Fin 256, nar .char (Int32.ofNat k.val) = Int32.ofNat k.val) k
theorem shr0 (x : Int32) : x >>> ((0 : Int32) &&& 31) = x := by
  apply Int32.toBitVec_inj.mp
  show BitVec.sshiftRight _ _ = _
  simp
theorem bytes_at (cs : List Int32) (i : Nat) : (bv cs).getD i (.int 0) = .int (cs.getD i 0).toInt8.toInt32 := by
  simp only [bv, List.getD_eq_getElem?_getD, List.getElem?_map]
  cases cs[i]? <;> rfl
set_option maxRecDepth 65536 in
set_option maxHeartbeats 40000000 in
theorem ok_coder {l : Launch} {Z : State} {a0 : Array Value} (hw : ∀ d ∈ tables_1, d.before a0 Z = true) {n0 : Nat} (a : Addr) {zC : Int32} {h0 : Heap} (SC : Sta Z Z.heap "java/lang/String" "COMPACT_STRINGS" "Z" (.int zC)) (nC : ¬ zC = 0) (C : Fld Z h0 a "java/lang/String" "coder" "B" (.int 0)) :
    Ok false l Z [] n0 [] (⟨"java/lang/String", "coder", "()B"⟩ : MethodName) jdk_42_method_152_code 1 (Option.some Jvm.ClassFile.FieldType.byte) ({ frames := 0, cells := 0, slots := 0, locals := 0 } : Room) #[(.ref a)] h0 (fun v h => v = some (.int 0) ∧ h = h0) (fun _ => []) := by
  refine Ok.of_run (ls0 := #[.val (.ref a)]) (plainFor_of_name (by first | (simp [plainName, overriddenIn]; done) | decide +kernel)) (fun m => by first | (simp [entryFrame, mkF, argsToLocals, Value.category]; done) | rfl) rfl ?_
  refine Run.old fun hO => ?_
  have hn0 : n0 ≤ h0.size := hO.1 ▸ hO.2.1
  refine r_getstatic (host := "") d19_0 rfl (Or.inl (wd19 hw)) Via.refl SC ?_
  refine r_ifeq (pc2 := 13) d19_3 rfl rfl (fun cc => absurd cc nC) (fun _ => ?_)
  refine r_aloadN d19_6 rfl rfl rfl ?_
  refine r_getfield (host := "") d19_7 rfl (Or.inl (wd31 hw)) Via.refl C ?_
  refine r_goto (pc' := 14) d19_10 rfl ?_
  exact r_ireturnN (t := .byte) d19_14 rfl (by simp) ⟨rfl, rfl⟩ (by simp) (by decide) (by decide)
set_option maxRecDepth 65536 in
set_option maxHeartbeats 40000000 in
theorem ok_slen {l : Launch} {Z : State} {a0 : Array Value} (hw : ∀ d ∈ tables_1, d.before a0 Z = true) {n0 : Nat} (a t : Addr) {cs : List Int32} (hp : Lat cs) (hl : cs.length ≤ 4000) {zC : Int32} {h0 : Heap} (SC : Sta Z Z.heap "java/lang/String" "COMPACT_STRINGS" "Z" (.int zC)) (nC : ¬ zC = 0) (F : Str Z h0 a t cs) :
    Ok false l Z [] n0 [] (⟨"java/lang/String", "length", "()I"⟩ : MethodName) jdk_42_method_54_code 1 (Option.some Jvm.ClassFile.FieldType.int) ({ frames := 1, cells := 0, slots := 0, locals := 13 } : Room) #[(.ref a)] h0 (fun v h => v = some (.int (Int32.ofNat cs.length)) ∧ h = h0) (fun _ => []) := by
  refine Ok.of_run (ls0 := #[.val (.ref a)]) (plainFor_of_name (by first | (simp [plainName, overriddenIn]; done) | decide +kernel)) (fun m => by first | (simp [entryFrame, mkF, argsToLocals, Value.category]; done) | rfl) rfl ?_
  refine Run.old fun hO => ?_
  have hn0 : n0 ≤ h0.size := hO.1 ▸ hO.2.1
  obtain ⟨kb, f4⟩ := F.arv
  have lt_1 : @LT.lt Nat instLTNat a (Array.size h0) := (Str.lt F)
  have lt_2 : @LT.lt Nat instLTNat t (Array.size h0) := (Str.ltB F)
  refine r_aloadN d18_0 rfl rfl rfl ?_
  refine r_getfield (host := "") d18_1 rfl (Or.inl (wd33 hw)) Via.refl (Str.value F) ?_
  refine r_arraylength d18_4 rfl f4 ?_
  refine r_aloadN d18_5 rfl rfl rfl ?_
  refine r_virtual (y := (⟨"java/lang/String", "coder", "()B"⟩ : MethodName)) (argsL := []) (rest := [(.int (Int32.ofNat cs.length))]) (W := 1) (kc := 0) (ks := 0) (wl := []) d18_6 rfl (wd131 hw) (wd132 hw) (wd134 hw) (wd133 hw) (by decide) ⟨rfl, rfl⟩ (Str.exa F) (lenOf pd_0 rfl) rfl rfl (Nat.le_of_ble_eq_true rfl) (Ok.pays (ok_coder hw a SC nC F.coder) (wd135 hw) (wd6 hw) (by decide) (by decide)) (fun v h' q => q.2 ▸ Keep.refl _ _) all0 (by decide) (by decide) ?_
  rintro _ h_3 ⟨rfl, eqh⟩
  subst h_3
  refine Run.cast (st' := [(.int (0 : Int32)), (.int (Int32.ofNat cs.length))]) rfl ?_
  refine r_ishr d18_9 rfl ?_
  rw [show ((Int32.ofNat cs.length) >>> ((0 : Int32) &&& 31)) = (Int32.ofNat cs.length) from (shr0 _)]
  exact r_ireturn d18_10 rfl ⟨rfl, rfl⟩ (by simp) (by decide) (by decide)
set_option maxRecDepth 65536 in
set_option maxHeartbeats 40000000 in
theorem ok_pci {l : Launch} {Z : State} {a0 : Array Value} (hw : ∀ d ∈ tables_1, d.before a0 Z = true) {n0 : Nat} (i n : Nat) (hi : i < n) (hn : n ≤ 4000) {vF : Value} {h0 : Heap} (rF : vF.isRef = true) :
    Ok false l Z [] n0 [] (⟨"jdk/internal/util/Preconditions", "checkIndex", "(IILjava/util/function/BiFunction;)I"⟩ : MethodName) jdk_41_method_11_code 3 (Option.some Jvm.ClassFile.FieldType.int) ({ frames := 0, cells := 0, slots := 0, locals := 0 } : Room) #[(.int (Int32.ofNat i)), (.int (Int32.ofNat n)), vF] h0 (fun v h => v = some (.int (Int32.ofNat i)) ∧ h = h0) (fun _ => []) := by
  refine Ok.of_run (ls0 := #[.val (.int (Int32.ofNat i)), .val (.int (Int32.ofNat n)), .val vF]) (plainFor_of_name (by first | (simp [plainName, overriddenIn]; done) | decide +kernel)) (fun m => by rcases ref_cases rF with rfl | ⟨q, rfl⟩ <;> first | (simp [entryFrame, mkF, argsToLocals, Value.category]; done) | rfl) rfl ?_
  refine Run.old fun hO => ?_
  have hn0 : n0 ≤ h0.size := hO.1 ▸ hO.2.1
  refine r_iloadN d40_0 rfl rfl ?_
  refine r_iflt (pc2 := 9) d40_1 rfl rfl (fun cc => absurd cc (ofNat_in hi (by omega)).1) (fun _ => ?_)
  refine r_iloadN d40_4 rfl rfl ?_
  refine r_iloadN d40_5 rfl rfl ?_
  refine r_icmplt (pc2 := 16) d40_6 rfl rfl (fun _ => ?_) (fun cc => absurd (ofNat_in hi (by omega)).2 cc)
  refine r_iloadN d40_16 rfl rfl ?_
  exact r_ireturn d40_17 rfl ⟨rfl, rfl⟩ (by simp) (by decide) (by decide)
set_option maxRecDepth 65536 in
set_option maxHeartbeats 40000000 in
theorem ok_sci {l : Launch} {Z : State} {a0 : Array Value} (hw : ∀ d ∈ tables_1, d.before a0 Z = true) {n0 : Nat} (i n : Nat) (hi : i < n) (hn : n ≤ 4000) {vF : Value} {h0 : Heap} (SF : Sta Z Z.heap "jdk/internal/util/Preconditions" "SIOOBE_FORMATTER" "Ljava/util/function/BiFunction;" vF) (rF : vF.isRef = true) :
    Ok false l Z [] n0 [] (⟨"java/lang/String", "checkIndex", "(II)V"⟩ : MethodName) jdk_42_method_155_code 2 (Option.none : Option Jvm.ClassFile.FieldType) ({ frames := 1, cells := 0, slots := 0, locals := 14 } : Room) #[(.int (Int32.ofNat i)), (.int (Int32.ofNat n))] h0 (fun v h => v = none ∧ h = h0) (fun _ => []) := by
  refine Ok.of_run (ls0 := #[.val (.int (Int32.ofNat i)), .val (.int (Int32.ofNat n))]) (plainFor_of_name (by first | (simp [plainName, overriddenIn]; done) | decide +kernel)) (fun m => by first | (simp [entryFrame, mkF, argsToLocals, Value.category]; done) | rfl) rfl ?_
  refine Run.old fun hO => ?_
  have hn0 : n0 ≤ h0.size := hO.1 ▸ hO.2.1
  refine r_iloadN d39_0 rfl rfl ?_
  refine r_iloadN d39_1 rfl rfl ?_
  refine r_getstatic (host := "") d39_2 rfl (Or.inl (wd235 hw)) Via.refl SF ?_
  refine r_static (y := (⟨"jdk/internal/util/Preconditions", "checkIndex", "(IILjava/util/function/BiFunction;)I"⟩ : MethodName)) (argsL := [(.int (Int32.ofNat i)), (.int (Int32.ofNat n)), vF]) (rest := []) (W := 0) (kc := 0) (ks := 0) (wl := []) d39_5 rfl (wd237 hw) (wd238 hw) (wd236 hw) (wd239 hw) (by decide) (lenOf pd_1 rfl) rfl rfl (Nat.le_of_ble_eq_true rfl) (Ok.pays (ok_pci hw i n hi hn rF) (wd239 hw) (wd236 hw) (by decide) (by decide)) (fun v h' q => q.2 ▸ Keep.refl _ _) all0 (by decide) (by decide) ?_
  rintro _ h_1 ⟨rfl, eqh⟩
  subst h_1
  refine Run.cast (st' := [(.int (Int32.ofNat i))]) rfl ?_
  refine r_pop d39_8 rfl rfl ?_
  exact r_return d39_9 rfl ⟨rfl, rfl⟩ (by simp) (by decide) (by decide)
set_option maxRecDepth 65536 in
set_option maxHeartbeats 40000000 in
theorem ok_slc {l : Launch} {Z : State} {a0 : Array Value} (hw : ∀ d ∈ tables_1, d.before a0 Z = true) {n0 : Nat} (t : Addr) {kb : ClassId} {cs : List Int32} (i : Nat) (hi : i < cs.length) (hp : Lat cs) (hl : cs.length ≤ 4000) {vF : Value} {h0 : Heap} (SF : Sta Z Z.heap "jdk/internal/util/Preconditions" "SIOOBE_FORMATTER" "Ljava/util/function/BiFunction;" vF) (rF : vF.isRef = true) (K : Arv Z h0 t kb .byte (Int32.ofNat cs.length) (bv cs) (.int 0)) :
    Ok false l Z [] n0 [] (⟨"java/lang/StringLatin1", "charAt", "([BI)C"⟩ : MethodName) jdk_43_method_2_code 2 (Option.some Jvm.ClassFile.FieldType.char) ({ frames := 2, cells := 0, slots := 0, locals := 27 } : Room) #[(.ref t), (.int (Int32.ofNat i))] h0 (fun v h => v = some (.int (cs.getD i 0)) ∧ h = h0) (fun _ => []) := by
  refine Ok.of_run (ls0 := #[.val (.ref t), .val (.int (Int32.ofNat i))]) (plainFor_of_name (by first | (simp [plainName, overriddenIn]; done) | decide +kernel)) (fun m => by first | (simp [entryFrame, mkF, argsToLocals, Value.category]; done) | rfl) rfl ?_
  refine Run.old fun hO => ?_
  have hn0 : n0 ≤ h0.size := hO.1 ▸ hO.2.1
  refine r_iloadN d38_0 rfl rfl ?_
  refine r_aloadN d38_1 rfl rfl rfl ?_
  refine r_arraylength d38_2 rfl K ?_
  refine r_static (y := (⟨"java/lang/String", "checkIndex", "(II)V"⟩ : MethodName)) (argsL := [(.int (Int32.ofNat i)), (.int (Int32.ofNat cs.length))]) (rest := []) (W := 0) (kc := 0) (ks := 0) (wl := []) d38_3 rfl (wd232 hw) (wd233 hw) (wd6 hw) (wd234 hw) (by decide) (lenOf pd_2 rfl) rfl rfl (Nat.le_of_ble_eq_true rfl) (Ok.pays (ok_sci hw i cs.length hi hl SF rF) (wd234 hw) (wd6 hw) (by decide) (by decide)) (fun v h' q => q.2 ▸ Keep.refl _ _) all0 (by decide) (by decide) ?_
  rintro _ h_1 ⟨rfl, eqh⟩
  subst h_1
  refine Run.cast (st' := []) rfl ?_
  refine r_aloadN d38_6 rfl rfl rfl ?_
  refine r_iloadN d38_7 rfl rfl ?_
  refine r_baload (v := (.int (cs.getD i 0).toInt8.toInt32)) d38_8 rfl K (ofNat_in hi (by omega)) (by rw [ofNat_cl (by omega)]; exact bytes_at cs i) ?_
  refine r_sipush (v := 255) d38_9 rfl rfl ?_
  refine r_iand d38_12 rfl ?_
  refine r_i2c d38_13 rfl ?_
  rw [show (((cs.getD i 0).toInt8.toInt32 &&& (255 : Int32)).toUInt32.toUInt16.toUInt32.toInt32) = (cs.getD i 0) from (lat_byte (lat_at hp hi))]
  exact r_ireturnN (t := .char) d38_14 rfl (by simp) ⟨by rw [lat_char (lat_at hp hi)], rfl⟩ (by simp) (by decide) (by decide)
set_option maxRecDepth 65536 in
set_option maxHeartbeats 40000000 in
theorem ok_sch {l : Launch} {Z : State} {a0 : Array Value} (hw : ∀ d ∈ tables_1, d.before a0 Z = true) {n0 : Nat} (a t : Addr) {cs : List Int32} (hp : Lat cs) (hl : cs.length ≤ 4000) (i : Nat) (hi : i < cs.length) {zC : Int32} {vF : Value} {h0 : Heap} (SC : Sta Z Z.heap "java/lang/String" "COMPACT_STRINGS" "Z" (.int zC)) (nC : ¬ zC = 0) (SF : Sta Z Z.heap "jdk/internal/util/Preconditions" "SIOOBE_FORMATTER" "Ljava/util/function/BiFunction;" vF) (rF : vF.isRef = true) (F : Str Z h0 a t cs) :
    Ok false l Z [] n0 [] (⟨"java/lang/String", "charAt", "(I)C"⟩ : MethodName) jdk_42_method_56_code 2 (Option.some Jvm.ClassFile.FieldType.char) ({ frames := 3, cells := 0, slots := 0, locals := 40 } : Room) #[(.ref a), (.int (Int32.ofNat i))] h0 (fun v h => v = some (.int (cs.getD i 0)) ∧ h = h0) (fun _ => []) := by
  refine Ok.of_run (ls0 := #[.val (.ref a), .val (.int (Int32.ofNat i))]) (plainFor_of_name (by first | (simp [plainName, overriddenIn]; done) | decide +kernel)) (fun m => by first | (simp [entryFrame, mkF, argsToLocals, Value.category]; done) | rfl) rfl ?_
  refine Run.old fun hO => ?_
  have hn0 : n0 ≤ h0.size := hO.1 ▸ hO.2.1
  obtain ⟨kb, f4⟩ := F.arv
  have lt_1 : @LT.lt Nat instLTNat a (Array.size h0) := (Str.lt F)
  have lt_2 : @LT.lt Nat instLTNat t (Array.size h0) := (Str.ltB F)
  refine r_aloadN d36_0 rfl rfl rfl ?_
  refine r_virtual (y := (⟨"java/lang/String", "isLatin1", "()Z"⟩ : MethodName)) (argsL := []) (rest := []) (W := 0) (kc := 0) (ks := 0) (wl := []) d36_1 rfl (wd223 hw) (wd224 hw) (wd226 hw) (wd225 hw) (by decide) ⟨rfl, rfl⟩ (Str.exa F) (lenOf pd_3 rfl) rfl rfl (Nat.le_of_ble_eq_true rfl) (Ok.pays (ok_lat hw a SC nC F.coder) (wd227 hw) (wd6 hw) (by decide) (by decide)) (fun v h' q => q.2 ▸ Keep.refl _ _) all0 (by decide) (by decide) ?_
  rintro _ h_3 ⟨rfl, eqh⟩
  subst h_3
  refine Run.cast (st' := [(.int (1 : Int32))]) rfl ?_
  refine r_ifeq (pc2 := 16) d36_4 rfl rfl (fun cc => absurd cc (by decide)) (fun _ => ?_)
  refine r_aloadN d36_7 rfl rfl rfl ?_
  refine r_getfield (host := "") d36_8 rfl (Or.inl (wd33 hw)) Via.refl (Str.value F) ?_
  refine r_iloadN d36_11 rfl rfl ?_
  refine r_static (y := (⟨"java/lang/StringLatin1", "charAt", "([BI)C"⟩ : MethodName)) (argsL := [(.ref t), (.int (Int32.ofNat i))]) (rest := []) (W := 0) (kc := 0) (ks := 0) (wl := []) d36_12 rfl (wd228 hw) (wd229 hw) (wd230 hw) (wd231 hw) (by decide) (lenOf pd_4 rfl) rfl rfl (Nat.le_of_ble_eq_true rfl) (Ok.pays (ok_slc hw t i hi hp hl SF rF f4) (wd231 hw) (wd230 hw) (by decide) (by decide)) (fun v h' q => q.2 ▸ Keep.refl _ _) all0 (by decide) (by decide) ?_
  rintro _ h_4 ⟨rfl, eqh⟩
  subst h_4
  refine Run.cast (st' := [(.int (cs.getD i 0))]) rfl ?_
  exact r_ireturnN (t := .char) d36_15 rfl (by simp) ⟨by rw [lat_char (lat_at hp hi)], rfl⟩ (by simp) (by decide) (by decide)
def imin (a b : Int32) : Int32 := if b < a then b else a
def imax (a b : Int32) : Int32 := if a < b then b else a
theorem imin_of {i j : Nat} (hi : i < 2 ^ 31) (hj : j < 2 ^ 31) : imin (Int32.ofNat i) (Int32.ofNat j) = Int32.ofNat (min i j) := by
  unfold imin
  by_cases q : j < i
  · rw [if_pos (ofNat_in q hi).2, Nat.min_eq_right (by omega)]
  · rw [if_neg (ofNat_nlt (by omega) hj), Nat.min_eq_left (by omega)]
set_option maxRecDepth 65536 in
set_option maxHeartbeats 40000000 in
theorem ok_min {l : Launch} {Z : State} {a0 : Array Value} (hw : ∀ d ∈ tables_1, d.before a0 Z = true) {n0 : Nat} (a b : Int32) {h0 : Heap} :
    Ok false l Z [] n0 [] (⟨"java/lang/Math", "min", "(II)I"⟩ : MethodName) jdk_29_method_69_code 2 (Option.some Jvm.ClassFile.FieldType.int) ({ frames := 0, cells := 0, slots := 0, locals := 0 } : Room) #[(.int a), (.int b)] h0 (fun v h => v = some (.int (imin a b)) ∧ h = h0) (fun _ => []) := by
  refine Ok.of_run (ls0 := #[.val (.int a), .val (.int b)]) (Jvm.Free.JP.mathPlain rfl (by decide +kernel)) (fun m => by first | (simp [entryFrame, mkF, argsToLocals, Value.category]; done) | rfl) rfl ?_
  refine Run.old fun hO => ?_
  have hn0 : n0 ≤ h0.size := hO.1 ▸ hO.2.1
  refine r_iloadN d35_0 rfl rfl ?_
  refine r_iloadN d35_1 rfl rfl ?_
  refine r_icmpgt (pc2 := 9) d35_2 rfl rfl (fun c_1 => ?_) (fun c_1 => ?_)
  · refine r_iloadN d35_9 rfl rfl ?_
    exact r_ireturn d35_10 rfl ⟨by simp [imin, c_1], rfl⟩ (by simp) (by decide) (by decide)
  · refine r_iloadN d35_5 rfl rfl ?_
    refine r_goto (pc' := 10) d35_6 rfl ?_
    exact r_ireturn d35_10 rfl ⟨by simp [imin, c_1], rfl⟩ (by simp) (by decide) (by decide)
set_option maxRecDepth 65536 in
set_option maxHeartbeats 40000000 in
theorem ok_nbl {l : Launch} {Z : State} {a0 : Array Value} (hw : ∀ d ∈ tables_1, d.before a0 Z = true) {n0 : Nat} (n : Nat) (hn : n ≤ 4000) {h0 : Heap} :
    Ok false l Z [] n0 [] (⟨"java/lang/StringUTF16", "newBytesLength", "(I)I"⟩ : MethodName) jdk_52_method_3_code 1 (Option.some Jvm.ClassFile.FieldType.int) ({ frames := 0, cells := 0, slots := 0, locals := 0 } : Room) #[(.int (Int32.ofNat n))] h0 (fun v h => v = some (.int (Int32.ofNat (2 * n))) ∧ h = h0) (fun _ => []) := by
  refine Ok.of_run (ls0 := #[.val (.int (Int32.ofNat n))]) (plainFor_of_name (by first | (simp [plainName, overriddenIn]; done) | decide +kernel)) (fun m => by first | (simp [entryFrame, mkF, argsToLocals, Value.category]; done) | rfl) rfl ?_
  refine Run.old fun hO => ?_
  have hn0 : n0 ≤ h0.size := hO.1 ▸ hO.2.1
  refine r_iloadN d49_0 rfl rfl ?_
  refine r_ifge (pc2 := 12) d49_1 rfl rfl (fun _ => ?_) (fun cc => absurd cc (ofNat_in (n := 4001) (by omega) (by omega)).1)
  refine r_iloadN d49_12 rfl rfl ?_
  refine r_ldcI d49_13 rfl (wd276 hw) ?_
  refine r_icmplt (pc2 := 55) d49_15 rfl rfl (fun _ => ?_) (fun cc => absurd (show Int32.ofNat n < Int32.ofNat 1073741823 from (ofNat_in (by omega) (by omega)).2) cc)
  refine r_iloadN d49_55 rfl rfl ?_
  refine r_iconst (v := 1) d49_56 rfl rfl ?_
  refine r_ishl d49_57 rfl ?_
  rw [show ((Int32.ofNat n) <<< ((1 : Int32) &&& 31)) = (Int32.ofNat (2 * n)) from (shl1 (by omega))]
  exact r_ireturn d49_58 rfl ⟨rfl, rfl⟩ (by simp) (by decide) (by decide)
set_option maxRecDepth 65536 in
set_option maxHeartbeats 40000000 in
theorem ok_nbf {l : Launch} {Z : State} {a0 : Array Value} (hw : ∀ d ∈ tables_1, d.before a0 Z = true) {n0 : Nat} (n : Nat) (hn : n ≤ 16) {h0 : Heap} :
    Ok false l Z [] n0 [] (⟨"java/lang/StringUTF16", "newBytesFor", "(I)[B"⟩ : MethodName) jdk_52_method_2_code 1 (Option.some (Jvm.ClassFile.FieldType.array Jvm.ClassFile.FieldType.byte)) ({ frames := 1, cells := 1, slots := 32, locals := 12 } : Room) #[(.int (Int32.ofNat n))] h0 (fun v h => ∃ (b2 : Addr) (k2 : ClassId), v = some (.ref b2) ∧ Keep h0 h [] ∧ @LE.le Nat instLENat h0.size b2 ∧ Arv Z h b2 k2 .byte (Int32.ofNat (2 * n)) (List.replicate (2 * n) (.int 0)) (.int 0) ∧ Exa Z h b2 "[B") (fun _ => []) := by
  refine Ok.of_run (ls0 := #[.val (.int (Int32.ofNat n))]) (plainFor_of_name (by first | (simp [plainName, overriddenIn]; done) | decide +kernel)) (fun m => by first | (simp [entryFrame, mkF, argsToLocals, Value.category]; done) | rfl) rfl ?_
  refine Run.old fun hO => ?_
  have hn0 : n0 ≤ h0.size := hO.1 ▸ hO.2.1
  refine r_iloadN d48_0 rfl rfl ?_
  refine r_static (y := (⟨"java/lang/StringUTF16", "newBytesLength", "(I)I"⟩ : MethodName)) (argsL := [(.int (Int32.ofNat n))]) (rest := []) (W := 0) (kc := 0) (ks := 0) (wl := []) d48_1 rfl (wd273 hw) (wd274 hw) (wd22 hw) (wd275 hw) (by decide) (lenOf pd_5 rfl) rfl rfl (Nat.le_of_ble_eq_true rfl) (Ok.pays (ok_nbl hw n (by omega)) (wd275 hw) (wd22 hw) (by decide) (by decide)) (fun v h' q => q.2 ▸ Keep.refl _ _) all0 (by decide) (by decide) ?_
  rintro _ h_1 ⟨rfl, eqh⟩
  subst h_1
  refine Run.cast (st' := [(.int (Int32.ofNat (2 * n)))]) rfl ?_
  refine r_newP (cap := 32) (ad := "[B") d48_4 rfl (wd24 hw) (ofNat_in (n := 8001) (by omega) (by omega)).1 (by rw [ofNat_cl (by omega)]; omega) (by decide) (by decide) (by decide) (by decide) ?_
  intro h_3 b_2 k_7 gb_2 ltb_2 E_4 A_5 K_6
  have szh_3 := E_4.1
  have geb_2 : n0 ≤ b_2 := by omega
  have K_8 : Arv Z h_3 b_2 k_7 .byte (Int32.ofNat (2 * n)) (List.replicate (2 * n) (.int 0)) (.int 0) := Arv.pad K_6 (by intro q; have e := pad_rep [] (.int 0) (2 * n) q; simpa using e)
  exact r_areturn d48_6 rfl rfl rfl rfl ⟨b_2, k_7, rfl, (Keep.ext (Keep.refl _ _) E_4), by omega, K_8, A_5⟩ (by simp) (by decide) (by decide)
set_option maxRecDepth 65536 in
set_option maxHeartbeats 40000000 in
theorem ok_upc {l : Launch} {Z : State} {a0 : Array Value} (hw : ∀ d ∈ tables_1, d.before a0 Z = true) {n0 : Nat} (b : Addr) {k : ClassId} {cs : List Int32} (c : Int32) {N m : Nat} (hN : 2 * cs.length + 1 < N) (hN2 : N ≤ 8000) (gb : n0 ≤ b) {h0 : Heap} (SA : Sta Z Z.heap "java/lang/StringUTF16" "$assertionsDisabled" "Z" (.int 1)) (SH : Sta Z Z.heap "java/lang/StringUTF16" "HI_BYTE_SHIFT" "I" (.int 0)) (SL8 : Sta Z Z.heap "java/lang/StringUTF16" "LO_BYTE_SHIFT" "I" (.int 8)) (K : Arv Z h0 b k .byte (Int32.ofNat N) (ubv cs ++ List.replicate (m + 2) (.int 0)) (.int 0)) :
    Ok false l Z [] n0 [] (⟨"java/lang/StringUTF16", "putChar", "([BII)V"⟩ : MethodName) jdk_52_method_4_code 3 (Option.none : Option Jvm.ClassFile.FieldType) ({ frames := 0, cells := 0, slots := 0, locals := 0 } : Room) #[(.ref b), (.int (Int32.ofNat cs.length)), (.int c)] h0 (fun v h => v = none ∧ Keep h0 h [b] ∧ Arv Z h b k .byte (Int32.ofNat N) (ubv (cs ++ [c]) ++ List.replicate m (.int 0)) (.int 0)) (fun _ => []) := by
  refine Ok.of_run (ls0 := #[.val (.ref b), .val (.int (Int32.ofNat cs.length)), .val (.int c)]) (plainFor_of_name (by first | (simp [plainName, overriddenIn]; done) | decide +kernel)) (fun m => by first | (simp [entryFrame, mkF, argsToLocals, Value.category]; done) | rfl) rfl ?_
  refine Run.old fun hO => ?_
  have hn0 : n0 ≤ h0.size := hO.1 ▸ hO.2.1
  have lt_1 : @LT.lt Nat instLTNat b (Array.size h0) := K.lt
  refine r_getstatic (host := "") d45_0 rfl (Or.inl (wd258 hw)) Via.refl SA ?_
  refine r_ifne (pc2 := 28) d45_3 rfl rfl (fun _ => ?_) (fun cc => absurd cc (by decide))
  refine r_iloadN d45_28 rfl rfl ?_
  refine r_iconst (v := 1) d45_29 rfl rfl ?_
  refine r_ishl d45_30 rfl ?_
  rw [show ((Int32.ofNat cs.length) <<< ((1 : Int32) &&& 31)) = (Int32.ofNat (2 * cs.length)) from (shl1 (by omega))]
  refine r_istoreN (l' := #[.val (.ref b), .val (.int (Int32.ofNat (2 * cs.length))), .val (.int c)]) d45_31 rfl rfl ?_
  refine r_aloadN d45_32 rfl rfl rfl ?_
  refine r_iloadN d45_33 rfl rfl ?_
  refine r_iinc (l' := #[.val (.ref b), .val (.int ((Int32.ofNat (2 * cs.length)) + (1 : Int32))), .val (.int c)]) d45_34 rfl rfl rfl ?_
  refine r_iloadN d45_37 rfl rfl ?_
  refine r_getstatic (host := "") d45_38 rfl (Or.inl (wd259 hw)) Via.refl SH ?_
  refine r_ishr d45_41 rfl ?_
  refine r_i2b d45_42 rfl ?_
  have ul := ub_len cs
  refine r_bastore (2 * cs.length) d45_43 rfl K (ofNat_in (by omega) (by omega)) (ofNat_cl (by omega)) (by rw [List.length_append, List.length_replicate]; omega) gb (Or.inl rfl) ?_
  intro h_2 W_3 K_4
  have szh_2 := Wr.size W_3
  refine r_aloadN d45_44 rfl rfl rfl ?_
  refine r_iloadN d45_45 rfl rfl ?_
  rw [show (Int32.ofNat (2 * cs.length) + (1 : Int32)) = (Int32.ofNat (2 * cs.length + 1)) from (inc_ofNat _).symm]
  refine r_iloadN d45_46 rfl rfl ?_
  refine r_getstatic (host := "") d45_47 rfl (Or.inl (wd260 hw)) Via.refl SL8 ?_
  refine r_ishr d45_50 rfl ?_
  refine r_i2b d45_51 rfl ?_
  refine r_bastore (2 * cs.length + 1) d45_52 rfl K_4 (ofNat_in (by omega) (by omega)) (ofNat_cl (by omega)) (by rw [List.length_set, List.length_append, List.length_replicate]; omega) gb (Or.inl rfl) ?_
  intro h_5 W_6 K_7
  have szh_5 := Wr.size W_6
  exact r_return d45_53 rfl ⟨rfl, (Keep.wr (Keep.wr (Keep.refl _ _) W_3 (Or.inl (by simp))) W_6 (Or.inl (by simp))), by have q := K_7; rw [nar_i2b, nar_i2b] at q; rw [← ub_set]; exact q⟩ (by simp) (by decide) (by decide)
set_option maxRecDepth 65536 in
set_option maxHeartbeats 40000000 in
theorem ok_ugc {l : Launch} {Z : State} {a0 : Array Value} (hw : ∀ d ∈ tables_1, d.before a0 Z = true) {n0 : Nat} (b : Addr) {k : ClassId} {vs : List Value} (i : Nat) (c : Int32) {N : Nat} (hv : vs.getD (2 * i) (.int 0) = .int (loB c) ∧ vs.getD (2 * i + 1) (.int 0) = .int (hiB c)) (hc : ¬ c < 0 ∧ ¬ (65535 : Int32) < c) (hN : 2 * i + 1 < N) (hN2 : N ≤ 8000) {h0 : Heap} (SA : Sta Z Z.heap "java/lang/StringUTF16" "$assertionsDisabled" "Z" (.int 1)) (SH : Sta Z Z.heap "java/lang/StringUTF16" "HI_BYTE_SHIFT" "I" (.int 0)) (SL8 : Sta Z Z.heap "java/lang/StringUTF16" "LO_BYTE_SHIFT" "I" (.int 8)) (K : Arv Z h0 b k .byte (Int32.ofNat N) vs (.int 0)) :
    Ok false l Z [] n0 [] (⟨"java/lang/StringUTF16", "getChar", "([BI)C"⟩ : MethodName) jdk_52_method_5_code 2 (Option.some Jvm.ClassFile.FieldType.char) ({ frames := 0, cells := 0, slots := 0, locals := 0 } : Room) #[(.ref b), (.int (Int32.ofNat i))] h0 (fun v h => v = some (.int c) ∧ h = h0) (fun _ => []) := by
  refine Ok.of_run (ls0 := #[.val (.ref b), .val (.int (Int32.ofNat i))]) (plainFor_of_name (by first | (simp [plainName, overriddenIn]; done) | decide +kernel)) (fun m => by first | (simp [entryFrame, mkF, argsToLocals, Value.category]; done) | rfl) rfl ?_
  refine Run.old fun hO => ?_
  have hn0 : n0 ≤ h0.size := hO.1 ▸ hO.2.1
  refine r_getstatic (host := "") d58_0 rfl (Or.inl (wd258 hw)) Via.refl SA ?_
  refine r_ifne (pc2 := 28) d58_3 rfl rfl (fun _ => ?_) (fun cc => absurd cc (by decide))
  refine r_iloadN d58_28 rfl rfl ?_
  refine r_iconst (v := 1) d58_29 rfl rfl ?_
  refine r_ishl d58_30 rfl ?_
  rw [show ((Int32.ofNat i) <<< ((1 : Int32) &&& 31)) = (Int32.ofNat (2 * i)) from (shl1 (by omega))]
  refine r_istoreN (l' := #[.val (.ref b), .val (.int (Int32.ofNat (2 * i)))]) d58_31 rfl rfl ?_
  refine r_aloadN d58_32 rfl rfl rfl ?_
  refine r_iloadN d58_33 rfl rfl ?_
  refine r_iinc (l' := #[.val (.ref b), .val (.int ((Int32.ofNat (2 * i)) + (1 : Int32)))]) d58_34 rfl rfl rfl ?_
  refine r_baload (v := (.int (loB c))) d58_37 rfl K (ofNat_in (by omega) (by omega)) (by rw [ofNat_cl (by omega)]; exact (hv).1) ?_
  refine r_sipush (v := 255) d58_38 rfl rfl ?_
  refine r_iand d58_41 rfl ?_
  refine r_getstatic (host := "") d58_42 rfl (Or.inl (wd259 hw)) Via.refl SH ?_
  refine r_ishl d58_45 rfl ?_
  refine r_aloadN d58_46 rfl rfl rfl ?_
  refine r_iloadN d58_47 rfl rfl ?_
  rw [show (Int32.ofNat (2 * i) + (1 : Int32)) = (Int32.ofNat (2 * i + 1)) from (inc_ofNat _).symm]
  refine r_baload (v := (.int (hiB c))) d58_48 rfl K (ofNat_in (by omega) (by omega)) (by rw [ofNat_cl (by omega)]; exact (hv).2) ?_
  refine r_sipush (v := 255) d58_49 rfl rfl ?_
  refine r_iand d58_52 rfl ?_
  refine r_getstatic (host := "") d58_53 rfl (Or.inl (wd260 hw)) Via.refl SL8 ?_
  refine r_ishl d58_56 rfl ?_
  refine r_ior d58_57 rfl ?_
  refine r_i2c d58_58 rfl ?_
  rw [show (((((loB c) &&& (255 : Int32)) <<< ((0 : Int32) &&& 31)) ||| (((hiB c) &&& (255 : Int32)) <<< ((8 : Int32) &&& 31))).toUInt32.toUInt16.toUInt32.toInt32) = c from (joinB_eq hc)]
  exact r_ireturnN (t := .char) d58_59 rfl (by simp) ⟨by rw [nar_uni hc], rfl⟩ (by simp) (by decide) (by decide)
set_option maxRecDepth 65536 in
set_option maxHeartbeats 40000000 in
theorem ok_ul {l : Launch} {Z : State} {a0 : Array Value} (hw : ∀ d ∈ tables_1, d.before a0 Z = true) {n0 : Nat} (b : Addr) {k : ClassId} {vs : List Value} (n : Nat) (hn : n ≤ 4000) {h0 : Heap} (K : Arv Z h0 b k .byte (Int32.ofNat (2 * n)) vs (.int 0)) :
    Ok false l Z [] n0 [] (⟨"java/lang/StringUTF16", "length", "([B)I"⟩ : MethodName) jdk_52_method_6_code 1 (Option.some Jvm.ClassFile.FieldType.int) ({ frames := 0, cells := 0, slots := 0, locals := 0 } : Room) #[(.ref b)] h0 (fun v h => v = some (.int (Int32.ofNat n)) ∧ h = h0) (fun _ => []) := by
  refine Ok.of_run (ls0 := #[.val (.ref b)]) (plainFor_of_name (by first | (simp [plainName, overriddenIn]; done) | decide +kernel)) (fun m => by first | (simp [entryFrame, mkF, argsToLocals, Value.category]; done) | rfl) rfl ?_
  refine Run.old fun hO => ?_
  have hn0 : n0 ≤ h0.size := hO.1 ▸ hO.2.1
  refine r_aloadN d53_0 rfl rfl rfl ?_
  refine r_arraylength d53_1 rfl K ?_
  refine r_iconst (v := 1) d53_2 rfl rfl ?_
  refine r_ishr d53_3 rfl ?_
  rw [show ((Int32.ofNat (2 * n)) >>> ((1 : Int32) &&& 31)) = (Int32.ofNat n) from (shr1 (by omega))]
  exact r_ireturn d53_4 rfl ⟨rfl, rfl⟩ (by simp) (by decide) (by decide)
set_option maxRecDepth 65536 in
set_option maxHeartbeats 40000000 in
theorem ok_uci {l : Launch} {Z : State} {a0 : Array Value} (hw : ∀ d ∈ tables_1, d.before a0 Z = true) {n0 : Nat} (b : Addr) {k : ClassId} {vs : List Value} (n i : Nat) (hi : i < n) (hn : n ≤ 4000) {vF : Value} {h0 : Heap} (SF : Sta Z Z.heap "jdk/internal/util/Preconditions" "SIOOBE_FORMATTER" "Ljava/util/function/BiFunction;" vF) (rF : vF.isRef = true) (K : Arv Z h0 b k .byte (Int32.ofNat (2 * n)) vs (.int 0)) :
    Ok false l Z [] n0 [] (⟨"java/lang/StringUTF16", "checkIndex", "(I[B)V"⟩ : MethodName) jdk_52_method_91_code 2 (Option.none : Option Jvm.ClassFile.FieldType) ({ frames := 2, cells := 0, slots := 0, locals := 27 } : Room) #[(.int (Int32.ofNat i)), (.ref b)] h0 (fun v h => v = none ∧ h = h0) (fun _ => []) := by
  refine Ok.of_run (ls0 := #[.val (.int (Int32.ofNat i)), .val (.ref b)]) (plainFor_of_name (by first | (simp [plainName, overriddenIn]; done) | decide +kernel)) (fun m => by first | (simp [entryFrame, mkF, argsToLocals, Value.category]; done) | rfl) rfl ?_
  refine Run.old fun hO => ?_
  have hn0 : n0 ≤ h0.size := hO.1 ▸ hO.2.1
  refine r_iloadN d57_0 rfl rfl ?_
  refine r_aloadN d57_1 rfl rfl rfl ?_
  refine r_static (y := (⟨"java/lang/StringUTF16", "length", "([B)I"⟩ : MethodName)) (argsL := [(.ref b)]) (rest := [(.int (Int32.ofNat i))]) (W := 1) (kc := 0) (ks := 0) (wl := []) d57_2 rfl (wd286 hw) (wd287 hw) (wd22 hw) (wd288 hw) (by decide) (lenOf pd_6 rfl) rfl rfl (Nat.le_of_ble_eq_true rfl) (Ok.pays (ok_ul hw b n hn K) (wd288 hw) (wd22 hw) (by decide) (by decide)) (fun v h' q => q.2 ▸ Keep.refl _ _) all0 (by decide) (by decide) ?_
  rintro _ h_1 ⟨rfl, eqh⟩
  subst h_1
  refine Run.cast (st' := [(.int (Int32.ofNat n)), (.int (Int32.ofNat i))]) rfl ?_
  refine r_static (y := (⟨"java/lang/String", "checkIndex", "(II)V"⟩ : MethodName)) (argsL := [(.int (Int32.ofNat i)), (.int (Int32.ofNat n))]) (rest := []) (W := 0) (kc := 0) (ks := 0) (wl := []) d57_5 rfl (wd304 hw) (wd233 hw) (wd6 hw) (wd234 hw) (by decide) (lenOf pd_2 rfl) rfl rfl (Nat.le_of_ble_eq_true rfl) (Ok.pays (ok_sci hw i n hi hn SF rF) (wd234 hw) (wd6 hw) (by decide) (by decide)) (fun v h' q => q.2 ▸ Keep.refl _ _) all0 (by decide) (by decide) ?_
  rintro _ h_2 ⟨rfl, eqh⟩
  subst h_2
  refine Run.cast (st' := []) rfl ?_
  exact r_return d57_8 rfl ⟨rfl, rfl⟩ (by simp) (by decide) (by decide)
set_option maxRecDepth 65536 in
set_option maxHeartbeats 40000000 in
theorem ok_uch {l : Launch} {Z : State} {a0 : Array Value} (hw : ∀ d ∈ tables_1, d.before a0 Z = true) {n0 : Nat} (b : Addr) {k : ClassId} {cs : List Int32} (i : Nat) (hi : i < cs.length) (hp : Uni cs) (hl : cs.length ≤ 4000) {vF : Value} {h0 : Heap} (SF : Sta Z Z.heap "jdk/internal/util/Preconditions" "SIOOBE_FORMATTER" "Ljava/util/function/BiFunction;" vF) (rF : vF.isRef = true) (SA : Sta Z Z.heap "java/lang/StringUTF16" "$assertionsDisabled" "Z" (.int 1)) (SH : Sta Z Z.heap "java/lang/StringUTF16" "HI_BYTE_SHIFT" "I" (.int 0)) (SL8 : Sta Z Z.heap "java/lang/StringUTF16" "LO_BYTE_SHIFT" "I" (.int 8)) (K : Arv Z h0 b k .byte (Int32.ofNat (2 * cs.length)) (ubv cs) (.int 0)) :
    Ok false l Z [] n0 [] (⟨"java/lang/StringUTF16", "charAt", "([BI)C"⟩ : MethodName) jdk_52_method_83_code 2 (Option.some Jvm.ClassFile.FieldType.char) ({ frames := 3, cells := 0, slots := 0, locals := 40 } : Room) #[(.ref b), (.int (Int32.ofNat i))] h0 (fun v h => v = some (.int (cs.getD i 0)) ∧ h = h0) (fun _ => []) := by
  refine Ok.of_run (ls0 := #[.val (.ref b), .val (.int (Int32.ofNat i))]) (plainFor_of_name (by first | (simp [plainName, overriddenIn]; done) | decide +kernel)) (fun m => by first | (simp [entryFrame, mkF, argsToLocals, Value.category]; done) | rfl) rfl ?_
  refine Run.old fun hO => ?_
  have hn0 : n0 ≤ h0.size := hO.1 ▸ hO.2.1
  refine r_iloadN d56_0 rfl rfl ?_
  refine r_aloadN d56_1 rfl rfl rfl ?_
  refine r_static (y := (⟨"java/lang/StringUTF16", "checkIndex", "(I[B)V"⟩ : MethodName)) (argsL := [(.int (Int32.ofNat i)), (.ref b)]) (rest := []) (W := 0) (kc := 0) (ks := 0) (wl := []) d56_2 rfl (wd301 hw) (wd302 hw) (wd22 hw) (wd303 hw) (by decide) (lenOf pd_7 rfl) rfl rfl (Nat.le_of_ble_eq_true rfl) (Ok.pays (ok_uci hw b cs.length i hi hl SF rF K) (wd303 hw) (wd22 hw) (by decide) (by decide)) (fun v h' q => q.2 ▸ Keep.refl _ _) all0 (by decide) (by decide) ?_
  rintro _ h_1 ⟨rfl, eqh⟩
  subst h_1
  refine Run.cast (st' := []) rfl ?_
  refine r_aloadN d56_5 rfl rfl rfl ?_
  refine r_iloadN d56_6 rfl rfl ?_
  refine r_static (y := (⟨"java/lang/StringUTF16", "getChar", "([BI)C"⟩ : MethodName)) (argsL := [(.ref b), (.int (Int32.ofNat i))]) (rest := []) (W := 0) (kc := 0) (ks := 0) (wl := []) d56_7 rfl (wd305 hw) (wd306 hw) (wd22 hw) (wd307 hw) (by decide) (lenOf pd_4 rfl) rfl rfl (Nat.le_of_ble_eq_true rfl) (Ok.pays (ok_ugc hw b i (cs.getD i 0) (ub_at cs i hi) (uni_at hp hi) (by omega) (by omega) SA SH SL8 K) (wd307 hw) (wd22 hw) (by decide) (by decide)) (fun v h' q => q.2 ▸ Keep.refl _ _) all0 (by decide) (by decide) ?_
  rintro _ h_2 ⟨rfl, eqh⟩
  subst h_2
  refine Run.cast (st' := [(.int (cs.getD i 0))]) rfl ?_
  exact r_ireturnN (t := .char) d56_10 rfl (by simp) ⟨by rw [nar_uni (uni_at hp hi)], rfl⟩ (by simp) (by decide) (by decide)
set_option maxRecDepth 65536 in
set_option maxHeartbeats 40000000 in
theorem ok_coder1 {l : Launch} {Z : State} {a0 : Array Value} (hw : ∀ d ∈ tables_1, d.before a0 Z = true) {n0 : Nat} (a : Addr) {zC : Int32} {h0 : Heap} (SC : Sta Z Z.heap "java/lang/String" "COMPACT_STRINGS" "Z" (.int zC)) (nC : ¬ zC = 0) (C : Fld Z h0 a "java/lang/String" "coder" "B" (.int 1)) :
    Ok false l Z [] n0 [] (⟨"java/lang/String", "coder", "()B"⟩ : MethodName) jdk_42_method_152_code 1 (Option.some Jvm.ClassFile.FieldType.byte) ({ frames := 0, cells := 0, slots := 0, locals := 0 } : Room) #[(.ref a)] h0 (fun v h => v = some (.int 1) ∧ h = h0) (fun _ => []) := by
  refine Ok.of_run (ls0 := #[.val (.ref a)]) (plainFor_of_name (by first | (simp [plainName, overriddenIn]; done) | decide +kernel)) (fun m => by first | (simp [entryFrame, mkF, argsToLocals, Value.category]; done) | rfl) rfl ?_
  refine Run.old fun hO => ?_
  have hn0 : n0 ≤ h0.size := hO.1 ▸ hO.2.1
  refine r_getstatic (host := "") d19_0 rfl (Or.inl (wd19 hw)) Via.refl SC ?_
  refine r_ifeq (pc2 := 13) d19_3 rfl rfl (fun cc => absurd cc nC) (fun _ => ?_)
  refine r_aloadN d19_6 rfl rfl rfl ?_
  refine r_getfield (host := "") d19_7 rfl (Or.inl (wd31 hw)) Via.refl C ?_
  refine r_goto (pc' := 14) d19_10 rfl ?_
  exact r_ireturnN (t := .byte) d19_14 rfl (by simp) ⟨rfl, rfl⟩ (by simp) (by decide) (by decide)
set_option maxRecDepth 65536 in
set_option maxHeartbeats 40000000 in
theorem ok_glen {l : Launch} {Z : State} {a0 : Array Value} (hw : ∀ d ∈ tables_1, d.before a0 Z = true) {n0 : Nat} (a t : Addr) {cs : List Int32} (hl : cs.length ≤ 4000) {zC : Int32} {h0 : Heap} (SC : Sta Z Z.heap "java/lang/String" "COMPACT_STRINGS" "Z" (.int zC)) (nC : ¬ zC = 0) (F : StrG Z h0 a t cs) :
    Ok false l Z [] n0 [] (⟨"java/lang/String", "length", "()I"⟩ : MethodName) jdk_42_method_54_code 1 (Option.some Jvm.ClassFile.FieldType.int) ({ frames := 1, cells := 0, slots := 0, locals := 13 } : Room) #[(.ref a)] h0 (fun v h => v = some (.int (Int32.ofNat cs.length)) ∧ h = h0) (fun _ => []) := by
  refine Ok.of_run (ls0 := #[.val (.ref a)]) (plainFor_of_name (by first | (simp [plainName, overriddenIn]; done) | decide +kernel)) (fun m => by first | (simp [entryFrame, mkF, argsToLocals, Value.category]; done) | rfl) rfl ?_
  refine Run.old fun hO => ?_
  have hn0 : n0 ≤ h0.size := hO.1 ▸ hO.2.1
  rcases F with ⟨hp, F⟩ | ⟨hp, F⟩
  · obtain ⟨kb, f4⟩ := F.arv
    have lt_1 : @LT.lt Nat instLTNat a (Array.size h0) := (StrL.lt F)
    have lt_2 : @LT.lt Nat instLTNat t (Array.size h0) := (StrL.ltB F)
    refine r_aloadN d18_0 rfl rfl rfl ?_
    refine r_getfield (host := "") d18_1 rfl (Or.inl (wd33 hw)) Via.refl (StrL.value F) ?_
    refine r_arraylength d18_4 rfl f4 ?_
    refine r_aloadN d18_5 rfl rfl rfl ?_
    refine r_virtual (y := (⟨"java/lang/String", "coder", "()B"⟩ : MethodName)) (argsL := []) (rest := [(.int (Int32.ofNat cs.length))]) (W := 1) (kc := 0) (ks := 0) (wl := []) d18_6 rfl (wd131 hw) (wd132 hw) (wd134 hw) (wd133 hw) (by decide) ⟨rfl, rfl⟩ (StrL.exa F) (lenOf pd_0 rfl) rfl rfl (Nat.le_of_ble_eq_true rfl) (Ok.pays (ok_coder hw a SC nC F.coder) (wd135 hw) (wd6 hw) (by decide) (by decide)) (fun v h' q => q.2 ▸ Keep.refl _ _) all0 (by decide) (by decide) ?_
    rintro _ h_3 ⟨rfl, eqh⟩
    subst h_3
    refine Run.cast (st' := [(.int (0 : Int32)), (.int (Int32.ofNat cs.length))]) rfl ?_
    refine r_ishr d18_9 rfl ?_
    rw [show ((Int32.ofNat cs.length) >>> ((0 : Int32) &&& 31)) = (Int32.ofNat cs.length) from (shr0 _)]
    exact r_ireturn d18_10 rfl ⟨rfl, rfl⟩ (by simp) (by decide) (by decide)
  · obtain ⟨kb, f4⟩ := F.arv
    have lt_4 : @LT.lt Nat instLTNat a (Array.size h0) := (StrU.lt F)
    have lt_5 : @LT.lt Nat instLTNat t (Array.size h0) := (StrU.ltB F)
    refine r_aloadN d18_0 rfl rfl rfl ?_
    refine r_getfield (host := "") d18_1 rfl (Or.inl (wd33 hw)) Via.refl (StrU.value F) ?_
    refine r_arraylength d18_4 rfl f4 ?_
    refine r_aloadN d18_5 rfl rfl rfl ?_
    refine r_virtual (y := (⟨"java/lang/String", "coder", "()B"⟩ : MethodName)) (argsL := []) (rest := [(.int (Int32.ofNat (2 * cs.length)))]) (W := 1) (kc := 0) (ks := 0) (wl := []) d18_6 rfl (wd131 hw) (wd132 hw) (wd134 hw) (wd133 hw) (by decide) ⟨rfl, rfl⟩ (StrU.exa F) (lenOf pd_0 rfl) rfl rfl (Nat.le_of_ble_eq_true rfl) (Ok.pays (ok_coder1 hw a SC nC F.coder) (wd135 hw) (wd6 hw) (by decide) (by decide)) (fun v h' q => q.2 ▸ Keep.refl _ _) all0 (by decide) (by decide) ?_
    rintro _ h_6 ⟨rfl, eqh⟩
    subst h_6
    refine Run.cast (st' := [(.int (1 : Int32)), (.int (Int32.ofNat (2 * cs.length)))]) rfl ?_
    refine r_ishr d18_9 rfl ?_
    rw [show ((Int32.ofNat (2 * cs.length)) >>> ((1 : Int32) &&& 31)) = (Int32.ofNat cs.length) from (shr1 (by omega))]
    exact r_ireturn d18_10 rfl ⟨rfl, rfl⟩ (by simp) (by decide) (by decide)
set_option maxRecDepth 65536 in
set_option maxHeartbeats 40000000 in
theorem ok_lat0 {l : Launch} {Z : State} {a0 : Array Value} (hw : ∀ d ∈ tables_1, d.before a0 Z = true) {n0 : Nat} (a : Addr) {zC : Int32} {h0 : Heap} (SC : Sta Z Z.heap "java/lang/String" "COMPACT_STRINGS" "Z" (.int zC)) (nC : ¬ zC = 0) (C : Fld Z h0 a "java/lang/String" "coder" "B" (.int 1)) :
    Ok false l Z [] n0 [] (⟨"java/lang/String", "isLatin1", "()Z"⟩ : MethodName) jdk_42_method_154_code 1 (Option.some Jvm.ClassFile.FieldType.boolean) ({ frames := 0, cells := 0, slots := 0, locals := 0 } : Room) #[(.ref a)] h0 (fun v h => v = some (.int 0) ∧ h = h0) (fun _ => []) := by
  refine Ok.of_run (ls0 := #[.val (.ref a)]) (plainFor_of_name (by first | (simp [plainName, overriddenIn]; done) | decide +kernel)) (fun m => by first | (simp [entryFrame, mkF, argsToLocals, Value.category]; done) | rfl) rfl ?_
  refine Run.old fun hO => ?_
  have hn0 : n0 ≤ h0.size := hO.1 ▸ hO.2.1
  refine r_getstatic (host := "") d37_0 rfl (Or.inl (wd19 hw)) Via.refl SC ?_
  refine r_ifeq (pc2 := 17) d37_3 rfl rfl (fun cc => absurd cc nC) (fun _ => ?_)
  refine r_aloadN d37_6 rfl rfl rfl ?_
  refine r_getfield (host := "") d37_7 rfl (Or.inl (wd31 hw)) Via.refl C ?_
  refine r_ifne (pc2 := 17) d37_10 rfl rfl (fun _ => ?_) (fun cc => absurd cc (by decide))
  refine r_iconst (v := 0) d37_17 rfl rfl ?_
  exact r_ireturnN (t := .boolean) d37_18 rfl (by simp) ⟨rfl, rfl⟩ (by simp) (by decide) (by decide)
set_option maxRecDepth 65536 in
set_option maxHeartbeats 40000000 in
theorem ok_gch {l : Launch} {Z : State} {a0 : Array Value} (hw : ∀ d ∈ tables_1, d.before a0 Z = true) {n0 : Nat} (a t : Addr) {cs : List Int32} (hl : cs.length ≤ 4000) (i : Nat) (hi : i < cs.length) {zC : Int32} {vF : Value} {h0 : Heap} (SC : Sta Z Z.heap "java/lang/String" "COMPACT_STRINGS" "Z" (.int zC)) (nC : ¬ zC = 0) (SF : Sta Z Z.heap "jdk/internal/util/Preconditions" "SIOOBE_FORMATTER" "Ljava/util/function/BiFunction;" vF) (rF : vF.isRef = true) (SA : Sta Z Z.heap "java/lang/StringUTF16" "$assertionsDisabled" "Z" (.int 1)) (SH : Sta Z Z.heap "java/lang/StringUTF16" "HI_BYTE_SHIFT" "I" (.int 0)) (SL8 : Sta Z Z.heap "java/lang/StringUTF16" "LO_BYTE_SHIFT" "I" (.int 8)) (F : StrG Z h0 a t cs) :
    Ok false l Z [] n0 [] (⟨"java/lang/String", "charAt", "(I)C"⟩ : MethodName) jdk_42_method_56_code 2 (Option.some Jvm.ClassFile.FieldType.char) ({ frames := 4, cells := 0, slots := 0, locals := 53 } : Room) #[(.ref a), (.int (Int32.ofNat i))] h0 (fun v h => v = some (.int (cs.getD i 0)) ∧ h = h0) (fun _ => []) := by
  refine Ok.of_run (ls0 := #[.val (.ref a), .val (.int (Int32.ofNat i))]) (plainFor_of_name (by first | (simp [plainName, overriddenIn]; done) | decide +kernel)) (fun m => by first | (simp [entryFrame, mkF, argsToLocals, Value.category]; done) | rfl) rfl ?_
  refine Run.old fun hO => ?_
  have hn0 : n0 ≤ h0.size := hO.1 ▸ hO.2.1
  rcases F with ⟨hp, F⟩ | ⟨hp, F⟩
  · obtain ⟨kb, f4⟩ := F.arv
    have lt_1 : @LT.lt Nat instLTNat a (Array.size h0) := (StrL.lt F)
    have lt_2 : @LT.lt Nat instLTNat t (Array.size h0) := (StrL.ltB F)
    refine r_aloadN d36_0 rfl rfl rfl ?_
    refine r_virtual (y := (⟨"java/lang/String", "isLatin1", "()Z"⟩ : MethodName)) (argsL := []) (rest := []) (W := 0) (kc := 0) (ks := 0) (wl := []) d36_1 rfl (wd223 hw) (wd224 hw) (wd226 hw) (wd225 hw) (by decide) ⟨rfl, rfl⟩ (StrL.exa F) (lenOf pd_3 rfl) rfl rfl (Nat.le_of_ble_eq_true rfl) (Ok.pays (ok_lat hw a SC nC F.coder) (wd227 hw) (wd6 hw) (by decide) (by decide)) (fun v h' q => q.2 ▸ Keep.refl _ _) all0 (by decide) (by decide) ?_
    rintro _ h_3 ⟨rfl, eqh⟩
    subst h_3
    refine Run.cast (st' := [(.int (1 : Int32))]) rfl ?_
    refine r_ifeq (pc2 := 16) d36_4 rfl rfl (fun cc => absurd cc (by decide)) (fun _ => ?_)
    refine r_aloadN d36_7 rfl rfl rfl ?_
    refine r_getfield (host := "") d36_8 rfl (Or.inl (wd33 hw)) Via.refl (StrL.value F) ?_
    refine r_iloadN d36_11 rfl rfl ?_
    refine r_static (y := (⟨"java/lang/StringLatin1", "charAt", "([BI)C"⟩ : MethodName)) (argsL := [(.ref t), (.int (Int32.ofNat i))]) (rest := []) (W := 0) (kc := 0) (ks := 0) (wl := []) d36_12 rfl (wd228 hw) (wd229 hw) (wd230 hw) (wd231 hw) (by decide) (lenOf pd_4 rfl) rfl rfl (Nat.le_of_ble_eq_true rfl) (Ok.pays (ok_slc hw t i hi hp hl SF rF f4) (wd231 hw) (wd230 hw) (by decide) (by decide)) (fun v h' q => q.2 ▸ Keep.refl _ _) all0 (by decide) (by decide) ?_
    rintro _ h_4 ⟨rfl, eqh⟩
    subst h_4
    refine Run.cast (st' := [(.int (cs.getD i 0))]) rfl ?_
    exact r_ireturnN (t := .char) d36_15 rfl (by simp) ⟨by rw [lat_char (lat_at hp hi)], rfl⟩ (by simp) (by decide) (by decide)
  · obtain ⟨kb, f4⟩ := F.arv
    have lt_5 : @LT.lt Nat instLTNat a (Array.size h0) := (StrU.lt F)
    have lt_6 : @LT.lt Nat instLTNat t (Array.size h0) := (StrU.ltB F)
    refine r_aloadN d36_0 rfl rfl rfl ?_
    refine r_virtual (y := (⟨"java/lang/String", "isLatin1", "()Z"⟩ : MethodName)) (argsL := []) (rest := []) (W := 0) (kc := 0) (ks := 0) (wl := []) d36_1 rfl (wd223 hw) (wd224 hw) (wd226 hw) (wd225 hw) (by decide) ⟨rfl, rfl⟩ (StrU.exa F) (lenOf pd_3 rfl) rfl rfl (Nat.le_of_ble_eq_true rfl) (Ok.pays (ok_lat0 hw a SC nC F.coder) (wd227 hw) (wd6 hw) (by decide) (by decide)) (fun v h' q => q.2 ▸ Keep.refl _ _) all0 (by decide) (by decide) ?_
    rintro _ h_7 ⟨rfl, eqh⟩
    subst h_7
    refine Run.cast (st' := [(.int (0 : Int32))]) rfl ?_
    refine r_ifeq (pc2 := 16) d36_4 rfl rfl (fun _ => ?_) (fun cc => absurd rfl cc)
    refine r_aloadN d36_16 rfl rfl rfl ?_
    refine r_getfield (host := "") d36_17 rfl (Or.inl (wd33 hw)) Via.refl (StrU.value F) ?_
    refine r_iloadN d36_20 rfl rfl ?_
    refine r_static (y := (⟨"java/lang/StringUTF16", "charAt", "([BI)C"⟩ : MethodName)) (argsL := [(.ref t), (.int (Int32.ofNat i))]) (rest := []) (W := 0) (kc := 0) (ks := 0) (wl := []) d36_21 rfl (wd298 hw) (wd299 hw) (wd22 hw) (wd300 hw) (by decide) (lenOf pd_4 rfl) rfl rfl (Nat.le_of_ble_eq_true rfl) (Ok.pays (ok_uch hw t i hi hp hl SF rF SA SH SL8 f4) (wd300 hw) (wd22 hw) (by decide) (by decide)) (fun v h' q => q.2 ▸ Keep.refl _ _) all0 (by decide) (by decide) ?_
    rintro _ h_8 ⟨rfl, eqh⟩
    subst h_8
    refine Run.cast (st' := [(.int (cs.getD i 0))]) rfl ?_
    exact r_ireturnN (t := .char) d36_24 rfl (by simp) ⟨by rw [nar_uni (uni_at hp hi)], rfl⟩ (by simp) (by decide) (by decide)
theorem take_snoc {cs : List Int32} {i : Nat} (h : i < cs.length) : cs.take i ++ [cs.getD i 0] = cs.take (i + 1) := by
  rw [List.take_succ, List.getElem?_eq_getElem h, List.getD_eq_getElem?_getD, List.getElem?_eq_getElem h]; rfl
set_option maxRecDepth 65536 in
theorem loop_tob {l : Launch} {Z : State} {a0 : Array Value} (hw : ∀ d ∈ tables_1, d.before a0 Z = true) {n0 : Nat} {ka kb : ClassId} {ts cs : List Int32} {mm : Nat} (a b : Addr) (o : Nat) (hab : a ≠ b) (hcs : ∀ i, i < cs.length → ts.getD (o + i) 0 = cs.getD i 0) (hm1 : mm ≤ 4000) (hm2 : o + cs.length ≤ mm) (gb : n0 ≤ b) (SA : Sta Z Z.heap "java/lang/StringUTF16" "$assertionsDisabled" "Z" (.int 1)) (SH : Sta Z Z.heap "java/lang/StringUTF16" "HI_BYTE_SHIFT" "I" (.int 0)) (SL8 : Sta Z Z.heap "java/lang/StringUTF16" "LO_BYTE_SHIFT" "I" (.int 8)) {R : Room} {cc_ ss_ : Nat} (hC : cc_ ≤ R.cells) (hS : ss_ ≤ R.slots) (hR1 : 1 ≤ R.frames) (hR2 : 17 ≤ R.locals) {Q : Option Value → Heap → Prop} {h0 : Heap} (hfin : ∀ h, Keep h0 h [b] → Arv Z h b kb .byte (Int32.ofNat (2 * cs.length)) (ubv cs) (.int 0) → Q (some (.ref b)) h) :
    ∀ (m i : Nat) (h : Heap), i + m = cs.length → Keep h0 h [b] → Arv Z h a ka .char (Int32.ofNat mm) (ts.map Value.int) (.int 0) → Arv Z h b kb .byte (Int32.ofNat (2 * cs.length)) (ubv (cs.take i) ++ List.replicate (2 * (cs.length - i)) (.int 0)) (.int 0) →
      Run false l Z [] n0 "java/lang/StringUTF16" "toBytes" jdk_52_method_14_code (some (.array .byte)) R Q (fun _ => []) [] h cc_ ss_ 8 #[.val (.ref a), .val (.int (Int32.ofNat (o + i))), .val (.int (Int32.ofNat cs.length)), .val (.ref b), .val (.int (Int32.ofNat i))] [] := by
  intro m
  induction m with
  | zero =>
    intro i h hi K AA AB
    have hi' : i = cs.length := by omega
    subst hi'
    refine r_iload d60_8 rfl rfl ?_
    refine r_iloadN d60_10 rfl rfl ?_
    refine r_icmpge (pc2 := 32) d60_11 rfl rfl (fun _ => ?_) (fun cc => absurd cc (ofNat_nlt (Nat.le_refl _) (by omega)))
    refine r_aloadN d60_32 rfl rfl rfl ?_
    exact r_areturn d60_33 rfl rfl rfl rfl (hfin _ K (by simpa using AB)) (by simp) hC hS
  | succ m ih =>
    intro i h hi K AA AB
    have hlt : i < cs.length := by omega
    have tl : (cs.take i).length = i := by rw [List.length_take]; omega
    have AB1 : Arv Z h b kb .byte (Int32.ofNat (2 * cs.length)) (ubv (cs.take i) ++ List.replicate (2 * (cs.length - (i + 1)) + 2) (.int 0)) (.int 0) := by rw [show 2 * (cs.length - (i + 1)) + 2 = 2 * (cs.length - i) by omega]; exact AB
    refine r_iload d60_8 rfl rfl ?_
    refine r_iloadN d60_10 rfl rfl ?_
    refine r_icmpge (pc2 := 32) d60_11 rfl rfl (fun cc => absurd (ofNat_in hlt (by omega)).2 cc) (fun _ => ?_)
    refine r_aloadN d60_14 rfl rfl rfl ?_
    refine r_iload d60_15 rfl rfl ?_
    refine r_aloadN d60_17 rfl rfl rfl ?_
    refine r_iloadN d60_18 rfl rfl ?_
    refine r_caload (v := (.int (cs.getD i 0))) d60_19 rfl AA (ofNat_in (by omega) (by omega)) (by rw [ofNat_cl (by omega), getD_map, hcs i hlt]) ?_
    refine Run.cast (st' := [(.int (cs.getD i 0)), (.int (Int32.ofNat (cs.take i).length)), (.ref b)]) (by rw [tl]) ?_
    refine r_static (y := (⟨"java/lang/StringUTF16", "putChar", "([BII)V"⟩ : MethodName)) (argsL := [(.ref b), (.int (Int32.ofNat (cs.take i).length)), (.int (cs.getD i 0))]) (rest := []) (W := 0) (kc := 0) (ks := 0) (wl := [b]) d60_20 rfl (wd255 hw) (wd256 hw) (wd22 hw) (wd257 hw) (by decide) (lenOf pd_8 rfl) rfl rfl (Nat.le_of_ble_eq_true rfl) (Ok.pays (ok_upc hw b (cs.getD i 0) (by rw [tl]; omega) (by omega) gb SA SH SL8 AB1) (wd257 hw) (wd22 hw) (by show 0 + 1 ≤ R.frames; omega) (by show 0 + (3 + 11) + 0 ≤ R.locals; omega)) (fun v h' q => q.2.1) (allS ⟨gb, (Or.inl rfl)⟩ all0) hC hS ?_
    rintro _ h_1 ⟨rfl, KK, K2⟩
    refine Run.cast (st' := []) rfl ?_
    have szh_1 := KK.1
    rw [take_snoc hlt] at K2
    have K_2 : Arv Z h_1 a ka .char (Int32.ofNat mm) (ts.map Value.int) (.int 0) := (Arv.keep AA KK (ninS hab nin0))
    refine r_iinc (l' := #[.val (.ref a), .val (.int ((Int32.ofNat (o + i)) + (1 : Int32))), .val (.int (Int32.ofNat cs.length)), .val (.ref b), .val (.int (Int32.ofNat i))]) d60_23 rfl rfl rfl ?_
    refine r_iinc (l' := #[.val (.ref a), .val (.int ((Int32.ofNat (o + i)) + (1 : Int32))), .val (.int (Int32.ofNat cs.length)), .val (.ref b), .val (.int ((Int32.ofNat i) + (1 : Int32)))]) d60_26 rfl rfl rfl ?_
    refine r_goto (pc' := 8) d60_29 rfl ?_
    refine Run.castL (ls' := #[.val (.ref a), .val (.int (Int32.ofNat (o + (i + 1)))), .val (.int (Int32.ofNat cs.length)), .val (.ref b), .val (.int (Int32.ofNat (i + 1)))]) (by rw [← Nat.add_assoc, inc_ofNat, inc_ofNat]) ?_
    exact ih (i + 1) h_1 (by omega) (K.trans KK (allS (Or.inl (by simp)) all0)) K_2 K2
set_option maxRecDepth 65536 in
set_option maxHeartbeats 40000000 in
theorem ok_tob {l : Launch} {Z : State} {a0 : Array Value} (hw : ∀ d ∈ tables_1, d.before a0 Z = true) {n0 : Nat} {ka : ClassId} {ts cs : List Int32} {mm : Nat} (a : Addr) (o : Nat) (hcs : ∀ i, i < cs.length → ts.getD (o + i) 0 = cs.getD i 0) (hm1 : mm ≤ 4000) (hm2 : o + cs.length ≤ mm) (hcap : cs.length ≤ 16) {h0 : Heap} (SA : Sta Z Z.heap "java/lang/StringUTF16" "$assertionsDisabled" "Z" (.int 1)) (SH : Sta Z Z.heap "java/lang/StringUTF16" "HI_BYTE_SHIFT" "I" (.int 0)) (SL8 : Sta Z Z.heap "java/lang/StringUTF16" "LO_BYTE_SHIFT" "I" (.int 8)) (AA : Arv Z h0 a ka .char (Int32.ofNat mm) (ts.map Value.int) (.int 0)) :
    Ok false l Z [] n0 [] (⟨"java/lang/StringUTF16", "toBytes", "([CII)[B"⟩ : MethodName) jdk_52_method_14_code 5 (Option.some (Jvm.ClassFile.FieldType.array Jvm.ClassFile.FieldType.byte)) ({ frames := 2, cells := 1, slots := 32, locals := 24 } : Room) #[(.ref a), (.int (Int32.ofNat o)), (.int (Int32.ofNat cs.length))] h0 (fun v h => ∃ (b2 : Addr) (k2 : ClassId), v = some (.ref b2) ∧ Keep h0 h [] ∧ @LE.le Nat instLENat h0.size b2 ∧ Arv Z h b2 k2 .byte (Int32.ofNat (2 * cs.length)) (ubv cs) (.int 0) ∧ Exa Z h b2 "[B") (fun _ => []) := by
  refine Ok.of_run (ls0 := #[.val (.ref a), .val (.int (Int32.ofNat o)), .val (.int (Int32.ofNat cs.length)), .unset, .unset]) (plainFor_of_name (by first | (simp [plainName, overriddenIn]; done) | decide +kernel)) (fun m => by first | (simp [entryFrame, mkF, argsToLocals, Value.category]; done) | rfl) rfl ?_
  refine Run.old fun hO => ?_
  have hn0 : n0 ≤ h0.size := hO.1 ▸ hO.2.1
  have lt_1 : @LT.lt Nat instLTNat a (Array.size h0) := AA.lt
  refine r_iloadN d60_0 rfl rfl ?_
  refine r_static (y := (⟨"java/lang/StringUTF16", "newBytesFor", "(I)[B"⟩ : MethodName)) (argsL := [(.int (Int32.ofNat cs.length))]) (rest := []) (W := 0) (kc := 1) (ks := 32) (wl := []) d60_1 rfl (wd314 hw) (wd271 hw) (wd22 hw) (wd272 hw) (by decide) (lenOf pd_9 rfl) rfl rfl (Nat.le_of_ble_eq_true rfl) (Ok.pays (ok_nbf hw cs.length hcap) (wd272 hw) (wd22 hw) (by decide) (by decide)) (fun v h' q => by obtain ⟨_, _, _, K, _⟩ := q; exact K) all0 (by decide) (by decide) ?_
  rintro _ h_8 ⟨b_2, k_3, rfl, KK_4, hge_5, K_6, E_7⟩
  refine Run.cast (st' := [(.ref b_2)]) rfl ?_
  have szh_8 := KK_4.1
  have lt_9 : @LT.lt Nat instLTNat b_2 (Array.size h_8) := K_6.lt
  have gb_2 : n0 ≤ b_2 := by omega
  have ne_10 : @Ne Nat a b_2 := by omega
  refine r_astoreN (l' := #[.val (.ref a), .val (.int (Int32.ofNat o)), .val (.int (Int32.ofNat cs.length)), .val (.ref b_2), .unset]) d60_4 rfl rfl rfl ?_
  refine r_iconst (v := 0) d60_5 rfl rfl ?_
  refine r_istore (l' := #[.val (.ref a), .val (.int (Int32.ofNat o)), .val (.int (Int32.ofNat cs.length)), .val (.ref b_2), .val (.int (0 : Int32))]) d60_6 rfl rfl ?_
  have K_11 : Arv Z h_8 a ka .char (Int32.ofNat mm) (ts.map Value.int) (.int 0) := (Arv.keep AA KK_4 nin0)
  refine Run.castL (ls' := #[.val (.ref a), .val (.int (Int32.ofNat (o + 0))), .val (.int (Int32.ofNat cs.length)), .val (.ref b_2), .val (.int (Int32.ofNat 0))]) rfl ?_
  exact (loop_tob hw a b_2 o ne_10 hcs hm1 hm2 gb_2 SA SH SL8 (by decide) (by decide) (by decide) (by decide) (fun h k q => ⟨b_2, k_3, rfl, Keep.trans (Keep.trans (Keep.refl _ _) KK_4 all0) k (allS (Or.inr (by omega)) all0), by omega, q, Exa.keep E_7 k⟩) cs.length 0 _ (by omega) (Keep.refl _ _) K_11 (by simpa [ubv] using K_6))
theorem set_bytes (cs : List Int32) (i n : Nat) (hi : i < n) : ((bv (cs.take i) ++ List.replicate (n - i) (Value.int 0)).set i (.int (nar .byte (cs.getD i 0).toInt8.toInt32))) = bv (cs.take i ++ [cs.getD i 0]) ++ List.replicate (n - (i + 1)) (Value.int 0) ∨ cs.length ≤ i := by
  rcases Nat.lt_or_ge i cs.length with h | h
  · left
    have e1 : (bv (cs.take i)).length = i := by simp [bv]; omega
    have e2 : List.replicate (n - i) (Value.int 0) = Value.int 0 :: List.replicate (n - (i + 1)) (Value.int 0) := by
      rw [← List.replicate_succ, show n - (i + 1) + 1 = n - i by omega]
    have e3 : nar .byte (cs.getD i 0).toInt8.toInt32 = (cs.getD i 0).toInt8.toInt32 := by
      show (cs.getD i 0).toInt8.toInt32.toInt8.toInt32 = _
      rw [Int8.toInt8_toInt32]
    rw [e2, e3, List.set_append_right _ _ (by omega), e1, Nat.sub_self]
    simp [bv]
  · exact Or.inr h
set_option maxRecDepth 65536 in
theorem loop_cmp {l : Launch} {Z : State} {a0 : Array Value} (hw : ∀ d ∈ tables_1, d.before a0 Z = true) {n0 : Nat} {ka kb : ClassId} {ts cs : List Int32} {mm : Nat} (a b : Addr) (o : Nat) (hab : a ≠ b) (hcs : ∀ i, i < cs.length → ts.getD (o + i) 0 = cs.getD i 0) (hp : Lat cs) (hm1 : mm < 2 ^ 31) (hm2 : o + cs.length ≤ mm) (gb : n0 ≤ b) {R : Room} {Q : Option Value → Heap → Prop} {h0 : Heap} (hfin : ∀ h, Keep h0 h [b] → Arv Z h b kb .byte (Int32.ofNat cs.length) (bv cs) (.int 0) → Q (some (.int (Int32.ofNat cs.length))) h) :
    ∀ (m i : Nat) (h : Heap) (s6 : Slot), One s6 → i + m = cs.length → Keep h0 h [b] → Arv Z h a ka .char (Int32.ofNat mm) (ts.map Value.int) (.int 0) → Arv Z h b kb .byte (Int32.ofNat cs.length) (bv (cs.take i) ++ List.replicate (cs.length - i) (.int 0)) (.int 0) →
      Run false l Z [] n0 "java/lang/StringUTF16" "compress" jdk_52_method_21_code (some .int) R Q (fun _ => []) [] h 0 0 3 #[.val (.ref a), .val (.int (Int32.ofNat (o + i))), .val (.ref b), .val (.int (Int32.ofNat i)), .val (.int (Int32.ofNat cs.length)), .val (.int (Int32.ofNat i)), s6] [] := by
  intro m
  induction m with
  | zero =>
    intro i h s6 h6 hi K AA AB
    have hi' : i = cs.length := by omega
    subst hi'
    refine r_iload d6_3 rfl rfl ?_
    refine r_iload d6_5 rfl rfl ?_
    refine r_icmpge (pc2 := 44) d6_7 rfl rfl (fun _ => ?_) (fun cc => absurd cc (ofNat_nlt (Nat.le_refl _) (by omega)))
    refine r_iload d6_44 rfl rfl ?_
    exact r_ireturn d6_46 rfl (hfin _ K (by simpa using AB)) (by simp) (Nat.zero_le _) (Nat.zero_le _)
  | succ m ih =>
    intro i h s6 h6 hi K AA AB
    have hlt : i < cs.length := by omega
    refine r_iload d6_3 rfl rfl ?_
    refine r_iload d6_5 rfl rfl ?_
    refine r_icmpge (pc2 := 44) d6_7 rfl rfl (fun cc => absurd (ofNat_in hlt (by omega)).2 cc) (fun _ => ?_)
    refine r_aloadN d6_10 rfl rfl rfl ?_
    refine r_iloadN d6_11 rfl rfl ?_
    refine r_caload (v := (.int (cs.getD i 0))) d6_12 rfl AA (ofNat_in (by omega) hm1) (by rw [ofNat_cl (by omega), getD_map, hcs i hlt]) ?_
    refine r_istoreS (l' := #[.val (.ref a), .val (.int (Int32.ofNat (o + i))), .val (.ref b), .val (.int (Int32.ofNat i)), .val (.int (Int32.ofNat cs.length)), .val (.int (Int32.ofNat i)), .val (.int (cs.getD i 0))]) d6_13 rfl rfl h6 rfl ?_
    refine r_iload d6_15 rfl rfl ?_
    refine r_sipush (v := 255) d6_17 rfl rfl ?_
    refine r_icmple (pc2 := 26) d6_20 rfl rfl (fun _ => ?_) (fun cc => absurd cc (lat_at hp hlt).2)
    refine r_aloadN d6_26 rfl rfl rfl ?_
    refine r_iloadN d6_27 rfl rfl ?_
    refine r_iload d6_28 rfl rfl ?_
    refine r_i2b d6_30 rfl ?_
    refine r_bastore i d6_31 rfl AB (ofNat_in hlt (by omega)) (ofNat_cl (by omega)) (by simp [bv]; omega) gb (Or.inl rfl) ?_
    intro h_1 W_2 K_3
    have szh_1 := Wr.size W_2
    have AB2 : Arv Z h_1 b kb .byte (Int32.ofNat cs.length) (bv (cs.take (i + 1)) ++ List.replicate (cs.length - (i + 1)) (.int 0)) (.int 0) := by
      have q := (set_bytes cs i cs.length hlt).resolve_right (by omega)
      rw [take_snoc hlt] at q; rw [← q]; exact K_3
    refine r_iinc (l' := #[.val (.ref a), .val (.int ((Int32.ofNat (o + i)) + (1 : Int32))), .val (.ref b), .val (.int (Int32.ofNat i)), .val (.int (Int32.ofNat cs.length)), .val (.int (Int32.ofNat i)), .val (.int (cs.getD i 0))]) d6_32 rfl rfl rfl ?_
    refine r_iinc (l' := #[.val (.ref a), .val (.int ((Int32.ofNat (o + i)) + (1 : Int32))), .val (.ref b), .val (.int ((Int32.ofNat i) + (1 : Int32))), .val (.int (Int32.ofNat cs.length)), .val (.int (Int32.ofNat i)), .val (.int (cs.getD i 0))]) d6_35 rfl rfl rfl ?_
    refine r_iinc (l' := #[.val (.ref a), .val (.int ((Int32.ofNat (o + i)) + (1 : Int32))), .val (.ref b), .val (.int ((Int32.ofNat i) + (1 : Int32))), .val (.int (Int32.ofNat cs.length)), .val (.int ((Int32.ofNat i) + (1 : Int32))), .val (.int (cs.getD i 0))]) d6_38 rfl rfl rfl ?_
    refine r_goto (pc' := 3) d6_41 rfl ?_
    refine Run.castL (ls' := #[.val (.ref a), .val (.int (Int32.ofNat (o + (i + 1)))), .val (.ref b), .val (.int (Int32.ofNat (i + 1))), .val (.int (Int32.ofNat cs.length)), .val (.int (Int32.ofNat (i + 1))), .val (.int (cs.getD i 0))]) (by rw [← Nat.add_assoc, inc_ofNat, inc_ofNat]) ?_
    exact ih (i + 1) h_1 _ (One.val rfl) (by omega) (K.wr W_2 (Or.inl (by simp))) (Arv.other AA W_2 hab) AB2
set_option maxRecDepth 65536 in
set_option maxHeartbeats 40000000 in
theorem ok_cmp5 {l : Launch} {Z : State} {a0 : Array Value} (hw : ∀ d ∈ tables_1, d.before a0 Z = true) {n0 : Nat} {ka : ClassId} {ts cs : List Int32} {mm : Nat} (a : Addr) (o : Nat) (hcs : ∀ i, i < cs.length → ts.getD (o + i) 0 = cs.getD i 0) (hp : Lat cs) (hm1 : mm < 2 ^ 31) (hm2 : o + cs.length ≤ mm) {kb : ClassId} (b : Addr) (hab : a ≠ b) (gb : n0 ≤ b) {h0 : Heap} (AA : Arv Z h0 a ka .char (Int32.ofNat mm) (ts.map Value.int) (.int 0)) (AB : Arv Z h0 b kb .byte (Int32.ofNat cs.length) (List.replicate cs.length (.int 0)) (.int 0)) :
    Ok false l Z [] n0 [] (⟨"java/lang/StringUTF16", "compress", "([CI[BII)I"⟩ : MethodName) jdk_52_method_21_code 7 (Option.some Jvm.ClassFile.FieldType.int) ({ frames := 0, cells := 0, slots := 0, locals := 0 } : Room) #[(.ref a), (.int (Int32.ofNat o)), (.ref b), (.int (0 : Int32)), (.int (Int32.ofNat cs.length))] h0 (fun v h => v = some (.int (Int32.ofNat cs.length)) ∧ Keep h0 h [b] ∧ Arv Z h b kb .byte (Int32.ofNat cs.length) (bv cs) (.int 0)) (fun _ => []) := by
  refine Ok.of_run (ls0 := #[.val (.ref a), .val (.int (Int32.ofNat o)), .val (.ref b), .val (.int (0 : Int32)), .val (.int (Int32.ofNat cs.length)), .unset, .unset]) (plainFor_of_name (by first | (simp [plainName, overriddenIn]; done) | decide +kernel)) (fun m => by first | (simp [entryFrame, mkF, argsToLocals, Value.category]; done) | rfl) rfl ?_
  refine Run.old fun hO => ?_
  have hn0 : n0 ≤ h0.size := hO.1 ▸ hO.2.1
  refine r_iconst (v := 0) d6_0 rfl rfl ?_
  refine r_istore (l' := #[.val (.ref a), .val (.int (Int32.ofNat o)), .val (.ref b), .val (.int (0 : Int32)), .val (.int (Int32.ofNat cs.length)), .val (.int (0 : Int32)), .unset]) d6_1 rfl rfl ?_
  refine Run.castL (ls' := #[.val (.ref a), .val (.int (Int32.ofNat (o + 0))), .val (.ref b), .val (.int (Int32.ofNat 0)), .val (.int (Int32.ofNat cs.length)), .val (.int (Int32.ofNat 0)), .unset]) rfl ?_
  exact loop_cmp hw a b o hab hcs hp hm1 hm2 gb (fun h k q => ⟨rfl, k, q⟩) cs.length 0 _ _ One.u (by omega) (Keep.refl _ _) AA (by simpa using AB)
set_option maxRecDepth 65536 in
set_option maxHeartbeats 40000000 in
theorem ok_cmp3 {l : Launch} {Z : State} {a0 : Array Value} (hw : ∀ d ∈ tables_1, d.before a0 Z = true) {n0 : Nat} {ka : ClassId} {ts cs : List Int32} {mm : Nat} (a : Addr) (o : Nat) (hcs : ∀ i, i < cs.length → ts.getD (o + i) 0 = cs.getD i 0) (hp : Lat cs) (hm1 : mm < 2 ^ 31) (hm2 : o + cs.length ≤ mm) (hcap : cs.length ≤ 16) {h0 : Heap} (AA : Arv Z h0 a ka .char (Int32.ofNat mm) (ts.map Value.int) (.int 0)) :
    Ok false l Z [] n0 [] (⟨"java/lang/StringUTF16", "compress", "([CII)[B"⟩ : MethodName) jdk_52_method_16_code 6 (Option.some (Jvm.ClassFile.FieldType.array Jvm.ClassFile.FieldType.byte)) ({ frames := 1, cells := 1, slots := 16, locals := 18 } : Room) #[(.ref a), (.int (Int32.ofNat o)), (.int (Int32.ofNat cs.length))] h0 (fun v h => ∃ b2 k2, v = some (.ref b2) ∧ Keep h0 h [] ∧ h0.size ≤ b2 ∧ Arv Z h b2 k2 .byte (Int32.ofNat cs.length) (bv cs) (.int 0) ∧ Exa Z h b2 "[B") (fun _ => []) := by
  refine Ok.of_run (ls0 := #[.val (.ref a), .val (.int (Int32.ofNat o)), .val (.int (Int32.ofNat cs.length)), .unset, .unset, .unset]) (plainFor_of_name (by first | (simp [plainName, overriddenIn]; done) | decide +kernel)) (fun m => by first | (simp [entryFrame, mkF, argsToLocals, Value.category]; done) | rfl) rfl ?_
  refine Run.old fun hO => ?_
  have hn0 : n0 ≤ h0.size := hO.1 ▸ hO.2.1
  have lt_1 : @LT.lt Nat instLTNat a (Array.size h0) := AA.lt
  refine r_iloadN d5_0 rfl rfl ?_
  refine r_newP (cap := 16) (ad := "[B") d5_1 rfl (wd24 hw) (ofNat_in (n := 4001) (by omega) (by omega)).1 (by rw [ofNat_cl (by omega)]; omega) (by decide) (by decide) (by decide) (by decide) ?_
  intro h_3 b_2 k_7 gb_2 ltb_2 E_4 A_5 K_6
  have szh_3 := E_4.1
  have geb_2 : n0 ≤ b_2 := by omega
  have K_8 : Arv Z h_3 b_2 k_7 .byte (Int32.ofNat cs.length) (List.replicate cs.length (.int 0)) (.int 0) := Arv.pad K_6 (by intro q; have e := pad_rep [] (.int 0) cs.length q; simpa using e)
  refine r_astoreN (l' := #[.val (.ref a), .val (.int (Int32.ofNat o)), .val (.int (Int32.ofNat cs.length)), .val (.ref b_2), .unset, .unset]) d5_3 rfl rfl rfl ?_
  refine r_aloadN d5_4 rfl rfl rfl ?_
  refine r_iloadN d5_5 rfl rfl ?_
  refine r_aloadN d5_6 rfl rfl rfl ?_
  refine r_iconst (v := 0) d5_7 rfl rfl ?_
  refine r_iloadN d5_8 rfl rfl ?_
  have ne_9 : @Ne Nat a b_2 := by omega
  have K_10 : Arv Z h_3 a ka .char (Int32.ofNat mm) (ts.map Value.int) (.int 0) := (AA.ext E_4)
  refine r_static (y := (⟨"java/lang/StringUTF16", "compress", "([CI[BII)I"⟩ : MethodName)) (argsL := [(.ref a), (.int (Int32.ofNat o)), (.ref b_2), (.int (0 : Int32)), (.int (Int32.ofNat cs.length))]) (rest := []) (W := 0) (kc := 0) (ks := 0) (wl := [b_2]) d5_9 rfl (wd25 hw) (wd26 hw) (wd22 hw) (wd27 hw) (by decide) (lenOf pd_10 rfl) rfl rfl (Nat.le_of_ble_eq_true rfl) (Ok.pays (ok_cmp5 hw a o hcs hp hm1 hm2 b_2 ne_9 geb_2 K_10 K_8) (wd27 hw) (wd22 hw) (by decide) (by decide)) (fun v h' q => q.2.1) (allS ⟨geb_2, (Or.inl rfl)⟩ all0) (by decide) (by decide) ?_
  rintro _ h_11 ⟨rfl, KK, K2⟩
  refine Run.cast (st' := [(.int (Int32.ofNat cs.length))]) rfl ?_
  have szh_11 := KK.1
  refine r_istore (l' := #[.val (.ref a), .val (.int (Int32.ofNat o)), .val (.int (Int32.ofNat cs.length)), .val (.ref b_2), .val (.int (Int32.ofNat cs.length)), .unset]) d5_12 rfl rfl ?_
  refine r_iload d5_14 rfl rfl ?_
  refine r_iloadN d5_16 rfl rfl ?_
  refine r_icmpeq (pc2 := 57) d5_17 rfl rfl (fun _ => ?_) (fun cc => absurd rfl cc)
  refine r_aloadN d5_57 rfl rfl rfl ?_
  have A_12 : Exa Z h_11 b_2 "[B" := (Exa.keep A_5 KK)
  exact r_areturn d5_58 rfl rfl rfl rfl ⟨b_2, k_7, rfl, (Keep.trans (Keep.ext (Keep.refl _ _) E_4) KK (allS (Or.inr (by omega)) all0)), by omega, K2, A_12⟩ (by simp) (by decide) (by decide)
set_option maxRecDepth 65536 in
set_option maxHeartbeats 40000000 in
theorem ok_codl {l : Launch} {Z : State} {a0 : Array Value} (hw : ∀ d ∈ tables_1, d.before a0 Z = true) {n0 : Nat} {k : ClassId} {vs : List Value} {dv : Value} (b : Addr) (n : Nat) {h0 : Heap} (K : Arv Z h0 b k .byte (Int32.ofNat n) vs dv) :
    Ok false l Z [] n0 [] (⟨"java/lang/StringUTF16", "coderFromArrayLen", "([BI)B"⟩ : MethodName) jdk_52_method_15_code 2 (Option.some Jvm.ClassFile.FieldType.byte) ({ frames := 0, cells := 0, slots := 0, locals := 0 } : Room) #[(.ref b), (.int (Int32.ofNat n))] h0 (fun v h => v = some (.int 0) ∧ h = h0) (fun _ => []) := by
  refine Ok.of_run (ls0 := #[.val (.ref b), .val (.int (Int32.ofNat n))]) (plainFor_of_name (by first | (simp [plainName, overriddenIn]; done) | decide +kernel)) (fun m => by first | (simp [entryFrame, mkF, argsToLocals, Value.category]; done) | rfl) rfl ?_
  refine Run.old fun hO => ?_
  have hn0 : n0 ≤ h0.size := hO.1 ▸ hO.2.1
  refine r_iloadN d7_0 rfl rfl ?_
  refine r_aloadN d7_1 rfl rfl rfl ?_
  refine r_arraylength d7_2 rfl K ?_
  refine r_isub d7_3 rfl ?_
  rw [show ((Int32.ofNat n) - (Int32.ofNat n)) = (0 : Int32) from (Int32.sub_self _)]
  refine r_bipush (v := 31) d7_4 rfl rfl ?_
  refine r_iushr d7_6 rfl ?_
  refine r_i2b d7_7 rfl ?_
  exact r_ireturnN (t := .byte) d7_8 rfl (by simp) ⟨rfl, rfl⟩ (by simp) (by decide) (by decide)
set_option maxRecDepth 65536 in
set_option maxHeartbeats 40000000 in
theorem ok_i4f {l : Launch} {Z : State} {a0 : Array Value} (hw : ∀ d ∈ tables_1, d.before a0 Z = true) {n0 : Nat} (x : Addr) {ka : ClassId} {ts cs : List Int32} {mm : Nat} (a : Addr) (o : Nat) (hcs : ∀ i, i < cs.length → ts.getD (o + i) 0 = cs.getD i 0) (hp : Lat cs) (hm1 : mm < 2 ^ 31) (hm2 : o + cs.length ≤ mm) (hcap : cs.length ≤ 16) (hpos : 0 < cs.length) {zC : Int32} {h0 : Heap} (SC : Sta Z Z.heap "java/lang/String" "COMPACT_STRINGS" "Z" (.int zC)) (nC : ¬ zC = 0) (E : Exa Z h0 x "java/lang/String") (V : Fld Z h0 x "java/lang/String" "value" "[B" .null) (C : Fld Z h0 x "java/lang/String" "coder" "B" (.int 0)) (ge : n0 ≤ x) (AA : Arv Z h0 a ka .char (Int32.ofNat mm) (ts.map Value.int) (.int 0)) :
    Ok false l Z [] n0 [] (⟨"java/lang/String", "<init>", "([CIILjava/lang/Void;)V"⟩ : MethodName) jdk_42_method_149_code 6 (Option.none : Option Jvm.ClassFile.FieldType) ({ frames := 2, cells := 1, slots := 16, locals := 35 } : Room) #[(.ref x), (.ref a), (.int (Int32.ofNat o)), (.int (Int32.ofNat cs.length)), .null] h0 (fun v h => v = none ∧ Keep h0 h [x] ∧ ∃ t, h0.size ≤ t ∧ Str Z h x t cs) (fun _ => []) := by
  refine Ok.of_run (ls0 := #[.val (.ref x), .val (.ref a), .val (.int (Int32.ofNat o)), .val (.int (Int32.ofNat cs.length)), .val .null, .unset]) (plainFor_of_name (by first | (simp [plainName, overriddenIn]; done) | decide +kernel)) (fun m => by first | (simp [entryFrame, mkF, argsToLocals, Value.category]; done) | rfl) rfl ?_
  refine Run.old fun hO => ?_
  have hn0 : n0 ≤ h0.size := hO.1 ▸ hO.2.1
  have lt_1 : @LT.lt Nat instLTNat x (Array.size h0) := E.lt
  have nax : x ≠ a := E.neArv AA (wd5 hw)
  refine r_aloadN d3_0 rfl rfl rfl ?_
  refine r_initO (W := 0) d3_1 rfl (wd16 hw) (wd17 hw) (wd18 hw) (by decide) (Nat.le_of_ble_eq_true rfl) (by decide) ?_
  refine r_iloadN d3_4 rfl rfl ?_
  refine r_ifne (pc2 := 27) d3_5 rfl rfl (fun _ => ?_) (fun cc => absurd (ofNat_inj' (j := 0) (by omega) (by omega) cc) (by omega))
  refine r_getstatic (host := "") d3_27 rfl (Or.inl (wd19 hw)) Via.refl SC ?_
  refine r_ifeq (pc2 := 58) d3_30 rfl rfl (fun cc => absurd cc nC) (fun _ => ?_)
  refine r_aloadN d3_33 rfl rfl rfl ?_
  refine r_iloadN d3_34 rfl rfl ?_
  refine r_iloadN d3_35 rfl rfl ?_
  refine r_static (y := (⟨"java/lang/StringUTF16", "compress", "([CII)[B"⟩ : MethodName)) (argsL := [(.ref a), (.int (Int32.ofNat o)), (.int (Int32.ofNat cs.length))]) (rest := []) (W := 0) (kc := 1) (ks := 16) (wl := []) d3_36 rfl (wd20 hw) (wd21 hw) (wd22 hw) (wd23 hw) (by decide) (lenOf pd_11 rfl) rfl rfl (Nat.le_of_ble_eq_true rfl) (Ok.pays (ok_cmp3 hw a o hcs hp hm1 hm2 hcap AA) (wd23 hw) (wd22 hw) (by decide) (by decide)) (fun v h' q => by obtain ⟨_, _, _, K, _⟩ := q; exact K) all0 (by decide) (by decide) ?_
  rintro _ h_2 ⟨b2, k2, rfl, KK, hge, K2, E2⟩
  refine Run.cast (st' := [(.ref b2)]) rfl ?_
  have szh_2 := KK.1
  have lt_3 : @LT.lt Nat instLTNat b2 (Array.size h_2) := K2.lt
  refine r_astore (l' := #[.val (.ref x), .val (.ref a), .val (.int (Int32.ofNat o)), .val (.int (Int32.ofNat cs.length)), .val .null, .val (.ref b2)]) d3_39 rfl rfl rfl ?_
  refine r_aloadN d3_41 rfl rfl rfl ?_
  refine r_aload d3_42 rfl rfl rfl ?_
  refine r_iloadN d3_44 rfl rfl ?_
  refine r_static (y := (⟨"java/lang/StringUTF16", "coderFromArrayLen", "([BI)B"⟩ : MethodName)) (argsL := [(.ref b2), (.int (Int32.ofNat cs.length))]) (rest := [(.ref x)]) (W := 1) (kc := 0) (ks := 0) (wl := []) d3_45 rfl (wd28 hw) (wd29 hw) (wd22 hw) (wd30 hw) (by decide) (lenOf pd_12 rfl) rfl rfl (Nat.le_of_ble_eq_true rfl) (Ok.pays (ok_codl hw b2 cs.length K2) (wd30 hw) (wd22 hw) (by decide) (by decide)) (fun v h' q => q.2 ▸ Keep.refl _ _) all0 (by decide) (by decide) ?_
  rintro _ h_4 ⟨rfl, eqh⟩
  subst h_4
  refine Run.cast (st' := [(.int (0 : Int32)), (.ref x)]) rfl ?_
  have F_5 : Fld Z h_2 x "java/lang/String" "coder" "B" (.int (0 : Int32)) := (Fld.keep C KK nin0)
  have A_6 : Exa Z h_2 x "java/lang/String" := (Exa.keep E KK)
  refine r_putfield (ty := .byte) (v' := (.int 0)) d3_48 rfl (wd31 hw) Via.refl F_5 A_6 (Or.inr ⟨(wd32 hw), rfl, rfl⟩) (wd5 hw) (by decide) rfl rfl ge (Or.inl rfl) ?_
  intro h_7 W_8
  have szh_7 := Wr.size W_8
  have F_9 : Fld Z h_7 x "java/lang/String" "coder" "B" (.int 0) := Fld.same W_8 F_5
  refine r_aloadN d3_51 rfl rfl rfl ?_
  refine r_aload d3_52 rfl rfl rfl ?_
  have F_10 : Fld Z h_7 x "java/lang/String" "value" "[B" .null := (Fld.other W_8 (Fld.keep V KK nin0) (Or.inr (slot_ne (Or.inr (wd34 hw)) (Or.inr (wd32 hw)) (by decide) (t := (.array .byte)) (t' := .byte) (by decide) (by decide))))
  have A_11 : Exa Z h_7 x "java/lang/String" := (Exa.wr W_8 A_6)
  refine r_putfield (ty := (.array .byte)) (v' := (.ref b2)) d3_54 rfl (wd33 hw) Via.refl F_10 A_11 (Or.inr ⟨(wd34 hw), rfl, rfl⟩) (wd5 hw) (by decide) rfl rfl ge (Or.inl rfl) ?_
  intro h_12 W_13
  have szh_12 := Wr.size W_13
  have F_14 : Fld Z h_12 x "java/lang/String" "value" "[B" (.ref b2) := Fld.same W_13 F_10
  have F_15 : Fld Z h_12 x "java/lang/String" "coder" "B" (.int 0) := (Fld.other W_13 F_9 (Or.inr (slot_ne (Or.inr (wd32 hw)) (Or.inr (wd34 hw)) (by decide) (t := .byte) (t' := (.array .byte)) (by decide) (by decide))))
  have A_16 : Exa Z h_12 x "java/lang/String" := (Exa.wr W_13 A_11)
  have ne_17 : @Ne Nat b2 x := by omega
  have K_18 : Arv Z h_12 b2 k2 .byte (Int32.ofNat cs.length) (bv cs) (.int 0) := (Arv.other (Arv.other K2 W_8 ne_17) W_13 ne_17)
  have A_19 : Exa Z h_12 b2 "[B" := (Exa.wr W_13 (Exa.wr W_8 E2))
  exact r_return d3_57 rfl ⟨rfl, (Keep.wr (Keep.wr (Keep.trans (Keep.refl _ _) KK all0) W_8 (Or.inl (by simp))) W_13 (Or.inl (by simp))), ⟨b2, by omega, A_16, F_15, F_14, ⟨k2, K_18⟩, fun _ => A_19⟩⟩ (by simp) (by decide) (by decide)
theorem not_lat {cs : List Int32} (hu : Uni cs) (h : ¬ Lat cs) : ∃ j, j < cs.length ∧ (255 : Int32) < cs.getD j 0 := by
  refine Classical.byContradiction fun q => h fun c hc => ?_
  obtain ⟨j, hj, e⟩ := List.getElem_of_mem hc
  refine ⟨(hu c hc).1, fun z => q ⟨j, hj, ?_⟩⟩
  rw [List.getD_eq_getElem?_getD, List.getElem?_eq_getElem hj]
  show (255 : Int32) < cs[j]
  rw [e]; exact z
set_option maxRecDepth 65536 in
theorem loop_cmpu {l : Launch} {Z : State} {a0 : Array Value} (hw : ∀ d ∈ tables_1, d.before a0 Z = true) {n0 : Nat} {ka kb : ClassId} {ts cs : List Int32} {mm : Nat} (a b : Addr) (o : Nat) (hab : a ≠ b) (hcs : ∀ i, i < cs.length → ts.getD (o + i) 0 = cs.getD i 0) (hx : ∃ j, j < cs.length ∧ (255 : Int32) < cs.getD j 0) (hm1 : mm < 2 ^ 31) (hm2 : o + cs.length ≤ mm) (gb : n0 ≤ b) {R : Room} {Q : Option Value → Heap → Prop} {h0 : Heap} (hfin : ∀ k h, k < cs.length → (255 : Int32) < cs.getD k 0 → Keep h0 h [b] → Q (some (.int (Int32.ofNat k))) h) :
    ∀ (m i : Nat) (h : Heap) (s6 : Slot) (vs : List Value), One s6 → i + m = cs.length → (∀ j, j < i → ¬ (255 : Int32) < cs.getD j 0) → Keep h0 h [b] → vs.length = cs.length → Arv Z h a ka .char (Int32.ofNat mm) (ts.map Value.int) (.int 0) → Arv Z h b kb .byte (Int32.ofNat cs.length) vs (.int 0) →
      Run false l Z [] n0 "java/lang/StringUTF16" "compress" jdk_52_method_21_code (some .int) R Q (fun _ => []) [] h 0 0 3 #[.val (.ref a), .val (.int (Int32.ofNat (o + i))), .val (.ref b), .val (.int (Int32.ofNat i)), .val (.int (Int32.ofNat cs.length)), .val (.int (Int32.ofNat i)), s6] [] := by
  intro m
  induction m with
  | zero =>
    intro i h s6 vs h6 hi hlow K hvl AA AB
    have hi' : i = cs.length := by omega
    subst hi'
    obtain ⟨j, hj, hx⟩ := hx
    exact absurd hx (hlow j (by omega))
  | succ m ih =>
    intro i h s6 vs h6 hi hlow K hvl AA AB
    have hlt : i < cs.length := by omega
    refine r_iload d6_3 rfl rfl ?_
    refine r_iload d6_5 rfl rfl ?_
    refine r_icmpge (pc2 := 44) d6_7 rfl rfl (fun cc => absurd (ofNat_in hlt (by omega)).2 cc) (fun _ => ?_)
    refine r_aloadN d6_10 rfl rfl rfl ?_
    refine r_iloadN d6_11 rfl rfl ?_
    refine r_caload (v := (.int (cs.getD i 0))) d6_12 rfl AA (ofNat_in (by omega) hm1) (by rw [ofNat_cl (by omega), getD_map, hcs i hlt]) ?_
    refine r_istoreS (l' := #[.val (.ref a), .val (.int (Int32.ofNat (o + i))), .val (.ref b), .val (.int (Int32.ofNat i)), .val (.int (Int32.ofNat cs.length)), .val (.int (Int32.ofNat i)), .val (.int (cs.getD i 0))]) d6_13 rfl rfl h6 rfl ?_
    refine r_iload d6_15 rfl rfl ?_
    refine r_sipush (v := 255) d6_17 rfl rfl ?_
    refine r_icmple (pc2 := 26) d6_20 rfl rfl (fun c_1 => ?_) (fun c_1 => ?_)
    · refine r_aloadN d6_26 rfl rfl rfl ?_
      refine r_iloadN d6_27 rfl rfl ?_
      refine r_iload d6_28 rfl rfl ?_
      refine r_i2b d6_30 rfl ?_
      refine r_bastore i d6_31 rfl AB (ofNat_in hlt (by omega)) (ofNat_cl (by omega)) (by omega) gb (Or.inl rfl) ?_
      intro h_2 W_3 K_4
      have szh_2 := Wr.size W_3
      refine r_iinc (l' := #[.val (.ref a), .val (.int ((Int32.ofNat (o + i)) + (1 : Int32))), .val (.ref b), .val (.int (Int32.ofNat i)), .val (.int (Int32.ofNat cs.length)), .val (.int (Int32.ofNat i)), .val (.int (cs.getD i 0))]) d6_32 rfl rfl rfl ?_
      refine r_iinc (l' := #[.val (.ref a), .val (.int ((Int32.ofNat (o + i)) + (1 : Int32))), .val (.ref b), .val (.int ((Int32.ofNat i) + (1 : Int32))), .val (.int (Int32.ofNat cs.length)), .val (.int (Int32.ofNat i)), .val (.int (cs.getD i 0))]) d6_35 rfl rfl rfl ?_
      refine r_iinc (l' := #[.val (.ref a), .val (.int ((Int32.ofNat (o + i)) + (1 : Int32))), .val (.ref b), .val (.int ((Int32.ofNat i) + (1 : Int32))), .val (.int (Int32.ofNat cs.length)), .val (.int ((Int32.ofNat i) + (1 : Int32))), .val (.int (cs.getD i 0))]) d6_38 rfl rfl rfl ?_
      refine r_goto (pc' := 3) d6_41 rfl ?_
      refine Run.castL (ls' := #[.val (.ref a), .val (.int (Int32.ofNat (o + (i + 1)))), .val (.ref b), .val (.int (Int32.ofNat (i + 1))), .val (.int (Int32.ofNat cs.length)), .val (.int (Int32.ofNat (i + 1))), .val (.int (cs.getD i 0))]) (by rw [← Nat.add_assoc, inc_ofNat, inc_ofNat]) ?_
      exact ih (i + 1) h_2 _ _ (One.val rfl) (by omega) (fun j hj => by rcases Nat.lt_or_ge j i with q | q; exact hlow j q; rw [show j = i by omega]; exact c_1) (K.wr W_3 (Or.inl (by simp))) (by rw [List.length_set]; exact hvl) (Arv.other AA W_3 hab) K_4
    · refine r_iload d6_23 rfl rfl ?_
      exact r_ireturn d6_25 rfl (hfin i h hlt c_1 K) (by simp) (Nat.zero_le _) (Nat.zero_le _)
set_option maxRecDepth 65536 in
set_option maxHeartbeats 40000000 in
theorem ok_cmp5u {l : Launch} {Z : State} {a0 : Array Value} (hw : ∀ d ∈ tables_1, d.before a0 Z = true) {n0 : Nat} {ka : ClassId} {ts cs : List Int32} {mm : Nat} (a : Addr) (o : Nat) (hcs : ∀ i, i < cs.length → ts.getD (o + i) 0 = cs.getD i 0) (hm1 : mm ≤ 4000) (hm2 : o + cs.length ≤ mm) (hcap : cs.length ≤ 16) (hu : Uni cs) (hx : ∃ j, j < cs.length ∧ (255 : Int32) < cs.getD j 0) {kb : ClassId} (b : Addr) (hab : a ≠ b) (gb : n0 ≤ b) {h0 : Heap} (AA : Arv Z h0 a ka .char (Int32.ofNat mm) (ts.map Value.int) (.int 0)) (AB : Arv Z h0 b kb .byte (Int32.ofNat cs.length) (List.replicate cs.length (.int 0)) (.int 0)) :
    Ok false l Z [] n0 [] (⟨"java/lang/StringUTF16", "compress", "([CI[BII)I"⟩ : MethodName) jdk_52_method_21_code 7 (Option.some Jvm.ClassFile.FieldType.int) ({ frames := 0, cells := 0, slots := 0, locals := 0 } : Room) #[(.ref a), (.int (Int32.ofNat o)), (.ref b), (.int (0 : Int32)), (.int (Int32.ofNat cs.length))] h0 (fun v h => ∃ k, k < cs.length ∧ (255 : Int32) < cs.getD k 0 ∧ v = some (.int (Int32.ofNat k)) ∧ Keep h0 h [b]) (fun _ => []) := by
  refine Ok.of_run (ls0 := #[.val (.ref a), .val (.int (Int32.ofNat o)), .val (.ref b), .val (.int (0 : Int32)), .val (.int (Int32.ofNat cs.length)), .unset, .unset]) (plainFor_of_name (by first | (simp [plainName, overriddenIn]; done) | decide +kernel)) (fun m => by first | (simp [entryFrame, mkF, argsToLocals, Value.category]; done) | rfl) rfl ?_
  refine Run.old fun hO => ?_
  have hn0 : n0 ≤ h0.size := hO.1 ▸ hO.2.1
  refine r_iconst (v := 0) d6_0 rfl rfl ?_
  refine r_istore (l' := #[.val (.ref a), .val (.int (Int32.ofNat o)), .val (.ref b), .val (.int (0 : Int32)), .val (.int (Int32.ofNat cs.length)), .val (.int (0 : Int32)), .unset]) d6_1 rfl rfl ?_
  refine Run.castL (ls' := #[.val (.ref a), .val (.int (Int32.ofNat (o + 0))), .val (.ref b), .val (.int (Int32.ofNat 0)), .val (.int (Int32.ofNat cs.length)), .val (.int (Int32.ofNat 0)), .unset]) rfl ?_
  exact loop_cmpu hw a b o hab hcs hx (by omega) hm2 gb (fun k h q1 q2 q3 => ⟨k, q1, q2, rfl, q3⟩) cs.length 0 _ _ _ One.u (by omega) (fun j hj => absurd hj (Nat.not_lt_zero _)) (Keep.refl _ _) (List.length_replicate) AA AB
set_option maxRecDepth 65536 in
set_option maxHeartbeats 40000000 in
theorem ok_cmp3u {l : Launch} {Z : State} {a0 : Array Value} (hw : ∀ d ∈ tables_1, d.before a0 Z = true) {n0 : Nat} {ka : ClassId} {ts cs : List Int32} {mm : Nat} (a : Addr) (o : Nat) (hcs : ∀ i, i < cs.length → ts.getD (o + i) 0 = cs.getD i 0) (hm1 : mm ≤ 4000) (hm2 : o + cs.length ≤ mm) (hcap : cs.length ≤ 16) (hu : Uni cs) (hx : ∃ j, j < cs.length ∧ (255 : Int32) < cs.getD j 0) {h0 : Heap} (SA : Sta Z Z.heap "java/lang/StringUTF16" "$assertionsDisabled" "Z" (.int 1)) (SH : Sta Z Z.heap "java/lang/StringUTF16" "HI_BYTE_SHIFT" "I" (.int 0)) (SL8 : Sta Z Z.heap "java/lang/StringUTF16" "LO_BYTE_SHIFT" "I" (.int 8)) (AA : Arv Z h0 a ka .char (Int32.ofNat mm) (ts.map Value.int) (.int 0)) :
    Ok false l Z [] n0 [] (⟨"java/lang/StringUTF16", "compress", "([CII)[B"⟩ : MethodName) jdk_52_method_16_code 6 (Option.some (Jvm.ClassFile.FieldType.array Jvm.ClassFile.FieldType.byte)) ({ frames := 3, cells := 2, slots := 48, locals := 40 } : Room) #[(.ref a), (.int (Int32.ofNat o)), (.int (Int32.ofNat cs.length))] h0 (fun v h => ∃ (b2 : Addr) (k2 : ClassId), v = some (.ref b2) ∧ Keep h0 h [] ∧ @LE.le Nat instLENat h0.size b2 ∧ Arv Z h b2 k2 .byte (Int32.ofNat (2 * cs.length)) (ubv cs) (.int 0) ∧ Exa Z h b2 "[B") (fun _ => []) := by
  refine Ok.of_run (ls0 := #[.val (.ref a), .val (.int (Int32.ofNat o)), .val (.int (Int32.ofNat cs.length)), .unset, .unset, .unset]) (plainFor_of_name (by first | (simp [plainName, overriddenIn]; done) | decide +kernel)) (fun m => by first | (simp [entryFrame, mkF, argsToLocals, Value.category]; done) | rfl) rfl ?_
  refine Run.old fun hO => ?_
  have hn0 : n0 ≤ h0.size := hO.1 ▸ hO.2.1
  have lt_1 : @LT.lt Nat instLTNat a (Array.size h0) := AA.lt
  refine r_iloadN d5_0 rfl rfl ?_
  refine r_newP (cap := 16) (ad := "[B") d5_1 rfl (wd24 hw) (ofNat_in (n := 4001) (by omega) (by omega)).1 (by rw [ofNat_cl (by omega)]; omega) (by decide) (by decide) (by decide) (by decide) ?_
  intro h_3 b_2 k_7 gb_2 ltb_2 E_4 A_5 K_6
  have szh_3 := E_4.1
  have geb_2 : n0 ≤ b_2 := by omega
  have K_8 : Arv Z h_3 b_2 k_7 .byte (Int32.ofNat cs.length) (List.replicate cs.length (.int 0)) (.int 0) := Arv.pad K_6 (by intro q; have e := pad_rep [] (.int 0) cs.length q; simpa using e)
  refine r_astoreN (l' := #[.val (.ref a), .val (.int (Int32.ofNat o)), .val (.int (Int32.ofNat cs.length)), .val (.ref b_2), .unset, .unset]) d5_3 rfl rfl rfl ?_
  refine r_aloadN d5_4 rfl rfl rfl ?_
  refine r_iloadN d5_5 rfl rfl ?_
  refine r_aloadN d5_6 rfl rfl rfl ?_
  refine r_iconst (v := 0) d5_7 rfl rfl ?_
  refine r_iloadN d5_8 rfl rfl ?_
  have ne_9 : @Ne Nat a b_2 := by omega
  have K_10 : Arv Z h_3 a ka .char (Int32.ofNat mm) (ts.map Value.int) (.int 0) := (AA.ext E_4)
  refine r_static (y := (⟨"java/lang/StringUTF16", "compress", "([CI[BII)I"⟩ : MethodName)) (argsL := [(.ref a), (.int (Int32.ofNat o)), (.ref b_2), (.int (0 : Int32)), (.int (Int32.ofNat cs.length))]) (rest := []) (W := 0) (kc := 0) (ks := 0) (wl := [b_2]) d5_9 rfl (wd25 hw) (wd26 hw) (wd22 hw) (wd27 hw) (by decide) (lenOf pd_10 rfl) rfl rfl (Nat.le_of_ble_eq_true rfl) (Ok.pays (ok_cmp5u hw a o hcs hm1 hm2 hcap hu hx b_2 ne_9 geb_2 K_10 K_8) (wd27 hw) (wd22 hw) (by decide) (by decide)) (fun v h' q => by obtain ⟨_, _, _, _, K⟩ := q; exact K) (allS ⟨geb_2, (Or.inl rfl)⟩ all0) (by decide) (by decide) ?_
  rintro _ h_11 ⟨k_, hk1, hk2, rfl, KK⟩
  refine Run.cast (st' := [(.int (Int32.ofNat k_))]) rfl ?_
  have szh_11 := KK.1
  refine r_istore (l' := #[.val (.ref a), .val (.int (Int32.ofNat o)), .val (.int (Int32.ofNat cs.length)), .val (.ref b_2), .val (.int (Int32.ofNat k_)), .unset]) d5_12 rfl rfl ?_
  refine r_iload d5_14 rfl rfl ?_
  refine r_iloadN d5_16 rfl rfl ?_
  refine r_icmpeq (pc2 := 57) d5_17 rfl rfl (fun cc => absurd (ofNat_inj' (by omega) (by omega) cc) (by omega)) (fun _ => ?_)
  refine r_aloadN d5_20 rfl rfl rfl ?_
  refine r_iloadN d5_21 rfl rfl ?_
  refine r_iloadN d5_22 rfl rfl ?_
  have K_18 : Arv Z h_11 a ka .char (Int32.ofNat mm) (ts.map Value.int) (.int 0) := (Arv.keep K_10 KK (ninS ne_9 nin0))
  refine r_static (y := (⟨"java/lang/StringUTF16", "toBytes", "([CII)[B"⟩ : MethodName)) (argsL := [(.ref a), (.int (Int32.ofNat o)), (.int (Int32.ofNat cs.length))]) (rest := []) (W := 0) (kc := 1) (ks := 32) (wl := []) d5_23 rfl (wd311 hw) (wd312 hw) (wd22 hw) (wd313 hw) (by decide) (lenOf pd_11 rfl) rfl rfl (Nat.le_of_ble_eq_true rfl) (Ok.pays (ok_tob hw a o hcs hm1 hm2 hcap SA SH SL8 K_18) (wd313 hw) (wd22 hw) (by decide) (by decide)) (fun v h' q => by obtain ⟨_, _, _, K, _⟩ := q; exact K) all0 (by decide) (by decide) ?_
  rintro _ h_19 ⟨b_12, k_13, rfl, KK_14, hge_15, K_16, E_17⟩
  refine Run.cast (st' := [(.ref b_12)]) rfl ?_
  have szh_19 := KK_14.1
  have lt_20 : @LT.lt Nat instLTNat b_12 (Array.size h_19) := K_16.lt
  have gb_12 : n0 ≤ b_12 := by omega
  refine r_astore (l' := #[.val (.ref a), .val (.int (Int32.ofNat o)), .val (.int (Int32.ofNat cs.length)), .val (.ref b_2), .val (.int (Int32.ofNat k_)), .val (.ref b_12)]) d5_26 rfl rfl rfl ?_
  refine r_aload d5_28 rfl rfl rfl ?_
  refine r_iload d5_30 rfl rfl ?_
  refine r_static (y := (⟨"java/lang/StringUTF16", "getChar", "([BI)C"⟩ : MethodName)) (argsL := [(.ref b_12), (.int (Int32.ofNat k_))]) (rest := []) (W := 0) (kc := 0) (ks := 0) (wl := []) d5_32 rfl (wd305 hw) (wd306 hw) (wd22 hw) (wd307 hw) (by decide) (lenOf pd_4 rfl) rfl rfl (Nat.le_of_ble_eq_true rfl) (Ok.pays (ok_ugc hw b_12 k_ (cs.getD k_ 0) (ub_at cs k_ hk1) (uni_at hu hk1) (by omega) (by omega) SA SH SL8 K_16) (wd307 hw) (wd22 hw) (by decide) (by decide)) (fun v h' q => q.2 ▸ Keep.refl _ _) all0 (by decide) (by decide) ?_
  rintro _ h_21 ⟨rfl, eqh⟩
  subst h_21
  refine Run.cast (st' := [(.int (cs.getD k_ 0))]) rfl ?_
  refine r_sipush (v := 255) d5_35 rfl rfl ?_
  refine r_icmpgt (pc2 := 54) d5_38 rfl rfl (fun _ => ?_) (fun cc => absurd hk2 cc)
  refine r_aload d5_54 rfl rfl rfl ?_
  exact r_areturn d5_56 rfl rfl rfl rfl ⟨b_12, k_13, rfl, (Keep.trans (Keep.trans (Keep.ext (Keep.refl _ _) E_4) KK (allS (Or.inr (by omega)) all0)) KK_14 all0), by omega, K_16, E_17⟩ (by simp) (by decide) (by decide)
theorem sgn1 {n : Nat} (h0 : 0 < n) (h : n ≤ 4000) : ((Int32.ofNat n - Int32.ofNat (2 * n)).toUInt32 >>> ((31 : Int32) &&& 31).toUInt32).toInt32 = 1 := by
  have a := c_iushr (Int32.ofNat n - Int32.ofNat (2 * n)) 31 31 rfl (by decide)
  have b := c_isub (Int32.ofNat n) (Int32.ofNat (2 * n))
  have e1 : (Int32.ofNat n).toInt = n := Int32.toInt_ofNat_of_lt (by omega)
  have e2 : (Int32.ofNat (2 * n)).toInt = (2 * n : Nat) := Int32.toInt_ofNat_of_lt (by omega)
  have r := rng32 (Int32.ofNat n - Int32.ofNat (2 * n))
  have p : ((2 ^ 31 : Nat) : Int) = 2147483648 := rfl
  have e3 : (1 : Int32).toInt = 1 := rfl
  rw [p] at a
  apply Int32.toInt_inj.mp
  omega
set_option maxRecDepth 65536 in
set_option maxHeartbeats 40000000 in
theorem ok_codl1 {l : Launch} {Z : State} {a0 : Array Value} (hw : ∀ d ∈ tables_1, d.before a0 Z = true) {n0 : Nat} {k : ClassId} {vs : List Value} {dv : Value} (b : Addr) (n : Nat) (hn0' : 0 < n) (hn : n ≤ 4000) {h0 : Heap} (K : Arv Z h0 b k .byte (Int32.ofNat (2 * n)) vs dv) :
    Ok false l Z [] n0 [] (⟨"java/lang/StringUTF16", "coderFromArrayLen", "([BI)B"⟩ : MethodName) jdk_52_method_15_code 2 (Option.some Jvm.ClassFile.FieldType.byte) ({ frames := 0, cells := 0, slots := 0, locals := 0 } : Room) #[(.ref b), (.int (Int32.ofNat n))] h0 (fun v h => v = some (.int 1) ∧ h = h0) (fun _ => []) := by
  refine Ok.of_run (ls0 := #[.val (.ref b), .val (.int (Int32.ofNat n))]) (plainFor_of_name (by first | (simp [plainName, overriddenIn]; done) | decide +kernel)) (fun m => by first | (simp [entryFrame, mkF, argsToLocals, Value.category]; done) | rfl) rfl ?_
  refine Run.old fun hO => ?_
  have hn0 : n0 ≤ h0.size := hO.1 ▸ hO.2.1
  refine r_iloadN d7_0 rfl rfl ?_
  refine r_aloadN d7_1 rfl rfl rfl ?_
  refine r_arraylength d7_2 rfl K ?_
  refine r_isub d7_3 rfl ?_
  refine r_bipush (v := 31) d7_4 rfl rfl ?_
  refine r_iushr d7_6 rfl ?_
  rw [show ((((Int32.ofNat n) - (Int32.ofNat (2 * n))).toUInt32 >>> ((31 : Int32) &&& 31).toUInt32).toInt32) = (1 : Int32) from (sgn1 hn0' hn)]
  refine r_i2b d7_7 rfl ?_
  exact r_ireturnN (t := .byte) d7_8 rfl (by simp) ⟨rfl, rfl⟩ (by simp) (by decide) (by decide)
set_option maxRecDepth 65536 in
set_option maxHeartbeats 40000000 in
theorem ok_i4u {l : Launch} {Z : State} {a0 : Array Value} (hw : ∀ d ∈ tables_1, d.before a0 Z = true) {n0 : Nat} (x : Addr) {ka : ClassId} {ts cs : List Int32} {mm : Nat} (a : Addr) (o : Nat) (hcs : ∀ i, i < cs.length → ts.getD (o + i) 0 = cs.getD i 0) (hm1 : mm ≤ 4000) (hm2 : o + cs.length ≤ mm) (hcap : cs.length ≤ 16) (hu : Uni cs) (hx : ∃ j, j < cs.length ∧ (255 : Int32) < cs.getD j 0) {zC : Int32} {h0 : Heap} (SC : Sta Z Z.heap "java/lang/String" "COMPACT_STRINGS" "Z" (.int zC)) (nC : ¬ zC = 0) (SA : Sta Z Z.heap "java/lang/StringUTF16" "$assertionsDisabled" "Z" (.int 1)) (SH : Sta Z Z.heap "java/lang/StringUTF16" "HI_BYTE_SHIFT" "I" (.int 0)) (SL8 : Sta Z Z.heap "java/lang/StringUTF16" "LO_BYTE_SHIFT" "I" (.int 8)) (E : Exa Z h0 x "java/lang/String") (V : Fld Z h0 x "java/lang/String" "value" "[B" .null) (C : Fld Z h0 x "java/lang/String" "coder" "B" (.int 0)) (ge : n0 ≤ x) (AA : Arv Z h0 a ka .char (Int32.ofNat mm) (ts.map Value.int) (.int 0)) :
    Ok false l Z [] n0 [] (⟨"java/lang/String", "<init>", "([CIILjava/lang/Void;)V"⟩ : MethodName) jdk_42_method_149_code 6 (Option.none : Option Jvm.ClassFile.FieldType) ({ frames := 4, cells := 2, slots := 48, locals := 57 } : Room) #[(.ref x), (.ref a), (.int (Int32.ofNat o)), (.int (Int32.ofNat cs.length)), .null] h0 (fun v h => v = none ∧ Keep h0 h [x] ∧ ∃ t, @LE.le Nat instLENat h0.size t ∧ StrU Z h x t cs) (fun _ => []) := by
  refine Ok.of_run (ls0 := #[.val (.ref x), .val (.ref a), .val (.int (Int32.ofNat o)), .val (.int (Int32.ofNat cs.length)), .val .null, .unset]) (plainFor_of_name (by first | (simp [plainName, overriddenIn]; done) | decide +kernel)) (fun m => by first | (simp [entryFrame, mkF, argsToLocals, Value.category]; done) | rfl) rfl ?_
  refine Run.old fun hO => ?_
  have hn0 : n0 ≤ h0.size := hO.1 ▸ hO.2.1
  have lt_1 : @LT.lt Nat instLTNat x (Array.size h0) := E.lt
  have nax : x ≠ a := E.neArv AA (wd5 hw)
  have hpos : 0 < cs.length := by obtain ⟨j, hj, -⟩ := hx; omega
  refine r_aloadN d3_0 rfl rfl rfl ?_
  refine r_initO (W := 0) d3_1 rfl (wd16 hw) (wd17 hw) (wd18 hw) (by decide) (Nat.le_of_ble_eq_true rfl) (by decide) ?_
  refine r_iloadN d3_4 rfl rfl ?_
  refine r_ifne (pc2 := 27) d3_5 rfl rfl (fun _ => ?_) (fun cc => absurd (ofNat_inj' (j := 0) (by omega) (by omega) cc) (by omega))
  refine r_getstatic (host := "") d3_27 rfl (Or.inl (wd19 hw)) Via.refl SC ?_
  refine r_ifeq (pc2 := 58) d3_30 rfl rfl (fun cc => absurd cc nC) (fun _ => ?_)
  refine r_aloadN d3_33 rfl rfl rfl ?_
  refine r_iloadN d3_34 rfl rfl ?_
  refine r_iloadN d3_35 rfl rfl ?_
  refine r_static (y := (⟨"java/lang/StringUTF16", "compress", "([CII)[B"⟩ : MethodName)) (argsL := [(.ref a), (.int (Int32.ofNat o)), (.int (Int32.ofNat cs.length))]) (rest := []) (W := 0) (kc := 2) (ks := 48) (wl := []) d3_36 rfl (wd20 hw) (wd21 hw) (wd22 hw) (wd23 hw) (by decide) (lenOf pd_11 rfl) rfl rfl (Nat.le_of_ble_eq_true rfl) (Ok.pays (ok_cmp3u hw a o hcs hm1 hm2 hcap hu hx SA SH SL8 AA) (wd23 hw) (wd22 hw) (by decide) (by decide)) (fun v h' q => by obtain ⟨_, _, _, K, _⟩ := q; exact K) all0 (by decide) (by decide) ?_
  rintro _ h_8 ⟨b_2, k_3, rfl, KK_4, hge_5, K_6, E_7⟩
  refine Run.cast (st' := [(.ref b_2)]) rfl ?_
  have szh_8 := KK_4.1
  have lt_9 : @LT.lt Nat instLTNat b_2 (Array.size h_8) := K_6.lt
  have gb_2 : n0 ≤ b_2 := by omega
  refine r_astore (l' := #[.val (.ref x), .val (.ref a), .val (.int (Int32.ofNat o)), .val (.int (Int32.ofNat cs.length)), .val .null, .val (.ref b_2)]) d3_39 rfl rfl rfl ?_
  refine r_aloadN d3_41 rfl rfl rfl ?_
  refine r_aload d3_42 rfl rfl rfl ?_
  refine r_iloadN d3_44 rfl rfl ?_
  refine r_static (y := (⟨"java/lang/StringUTF16", "coderFromArrayLen", "([BI)B"⟩ : MethodName)) (argsL := [(.ref b_2), (.int (Int32.ofNat cs.length))]) (rest := [(.ref x)]) (W := 1) (kc := 0) (ks := 0) (wl := []) d3_45 rfl (wd28 hw) (wd29 hw) (wd22 hw) (wd30 hw) (by decide) (lenOf pd_12 rfl) rfl rfl (Nat.le_of_ble_eq_true rfl) (Ok.pays (ok_codl1 hw b_2 cs.length hpos (by omega) K_6) (wd30 hw) (wd22 hw) (by decide) (by decide)) (fun v h' q => q.2 ▸ Keep.refl _ _) all0 (by decide) (by decide) ?_
  rintro _ h_10 ⟨rfl, eqh⟩
  subst h_10
  refine Run.cast (st' := [(.int (1 : Int32)), (.ref x)]) rfl ?_
  have F_11 : Fld Z h_8 x "java/lang/String" "coder" "B" (.int (0 : Int32)) := (Fld.keep C KK_4 nin0)
  have A_12 : Exa Z h_8 x "java/lang/String" := (Exa.keep E KK_4)
  refine r_putfield (ty := .byte) (v' := (.int 1)) d3_48 rfl (wd31 hw) Via.refl F_11 A_12 (Or.inr ⟨(wd32 hw), rfl, rfl⟩) (wd5 hw) (by decide) rfl rfl ge (Or.inl rfl) ?_
  intro h_13 W_14
  have szh_13 := Wr.size W_14
  have F_15 : Fld Z h_13 x "java/lang/String" "coder" "B" (.int 1) := Fld.same W_14 F_11
  refine r_aloadN d3_51 rfl rfl rfl ?_
  refine r_aload d3_52 rfl rfl rfl ?_
  have F_16 : Fld Z h_13 x "java/lang/String" "value" "[B" .null := (Fld.other W_14 (Fld.keep V KK_4 nin0) (Or.inr (slot_ne (Or.inr (wd34 hw)) (Or.inr (wd32 hw)) (by decide) (t := (.array .byte)) (t' := .byte) (by decide) (by decide))))
  have A_17 : Exa Z h_13 x "java/lang/String" := (Exa.wr W_14 A_12)
  refine r_putfield (ty := (.array .byte)) (v' := (.ref b_2)) d3_54 rfl (wd33 hw) Via.refl F_16 A_17 (Or.inr ⟨(wd34 hw), rfl, rfl⟩) (wd5 hw) (by decide) rfl rfl ge (Or.inl rfl) ?_
  intro h_18 W_19
  have szh_18 := Wr.size W_19
  have F_20 : Fld Z h_18 x "java/lang/String" "value" "[B" (.ref b_2) := Fld.same W_19 F_16
  have F_21 : Fld Z h_18 x "java/lang/String" "coder" "B" (.int 1) := (Fld.other W_19 F_15 (Or.inr (slot_ne (Or.inr (wd32 hw)) (Or.inr (wd34 hw)) (by decide) (t := .byte) (t' := (.array .byte)) (by decide) (by decide))))
  have A_22 : Exa Z h_18 x "java/lang/String" := (Exa.wr W_19 A_17)
  have ne_23 : @Ne Nat b_2 x := by omega
  have K_24 : Arv Z h_18 b_2 k_3 .byte (Int32.ofNat (2 * cs.length)) (ubv cs) (.int 0) := (Arv.other (Arv.other K_6 W_14 ne_23) W_19 ne_23)
  have A_25 : Exa Z h_18 b_2 "[B" := (Exa.wr W_19 (Exa.wr W_14 E_7))
  exact r_return d3_57 rfl ⟨rfl, (Keep.wr (Keep.wr (Keep.trans (Keep.refl _ _) KK_4 all0) W_14 (Or.inl (by simp))) W_19 (Or.inl (by simp))), ⟨b_2, by omega, A_22, F_21, F_20, ⟨_, K_24⟩, A_25⟩⟩ (by simp) (by decide) (by decide)
set_option maxRecDepth 65536 in
set_option maxHeartbeats 40000000 in
theorem ok_i1g {l : Launch} {Z : State} {a0 : Array Value} (hw : ∀ d ∈ tables_1, d.before a0 Z = true) {n0 : Nat} (x a : Addr) {ka : ClassId} {cs : List Int32} (hu : Uni cs) (hcap : cs.length ≤ 16) (hpos : 0 < cs.length) {zC : Int32} {h0 : Heap} (SC : Sta Z Z.heap "java/lang/String" "COMPACT_STRINGS" "Z" (.int zC)) (nC : ¬ zC = 0) (SA : Sta Z Z.heap "java/lang/StringUTF16" "$assertionsDisabled" "Z" (.int 1)) (SH : Sta Z Z.heap "java/lang/StringUTF16" "HI_BYTE_SHIFT" "I" (.int 0)) (SL8 : Sta Z Z.heap "java/lang/StringUTF16" "LO_BYTE_SHIFT" "I" (.int 8)) (E : Exa Z h0 x "java/lang/String") (V : Fld Z h0 x "java/lang/String" "value" "[B" .null) (C : Fld Z h0 x "java/lang/String" "coder" "B" (.int 0)) (ge : n0 ≤ x) (AA : Arv Z h0 a ka .char (Int32.ofNat cs.length) (cs.map Value.int) (.int 0)) :
    Ok false l Z [] n0 [] (⟨"java/lang/String", "<init>", "([C)V"⟩ : MethodName) jdk_42_method_3_code 2 (Option.none : Option Jvm.ClassFile.FieldType) ({ frames := 5, cells := 2, slots := 48, locals := 74 } : Room) #[(.ref x), (.ref a)] h0 (fun v h => v = none ∧ Keep h0 h [x] ∧ ∃ t, @LE.le Nat instLENat h0.size t ∧ StrG Z h x t cs) (fun _ => []) := by
  refine Ok.of_run (ls0 := #[.val (.ref x), .val (.ref a)]) (plainFor_of_name (by first | (simp [plainName, overriddenIn]; done) | decide +kernel)) (fun m => by first | (simp [entryFrame, mkF, argsToLocals, Value.category]; done) | rfl) rfl ?_
  refine Run.old fun hO => ?_
  have hn0 : n0 ≤ h0.size := hO.1 ▸ hO.2.1
  refine r_aloadN d2_0 rfl rfl rfl ?_
  refine r_aloadN d2_1 rfl rfl rfl ?_
  refine r_iconst (v := 0) d2_2 rfl rfl ?_
  refine r_aloadN d2_3 rfl rfl rfl ?_
  refine r_arraylength d2_4 rfl AA ?_
  refine r_aconst d2_5 rfl ?_
  rcases Classical.em (Lat cs) with hp | hp
  · refine r_special (y := (⟨"java/lang/String", "<init>", "([CIILjava/lang/Void;)V"⟩ : MethodName)) (argsL := [(.ref a), (.int (0 : Int32)), (.int (Int32.ofNat cs.length)), .null]) (rest := []) (W := 0) (kc := 1) (ks := 16) (wl := [x]) d2_6 rfl rfl (wd12 hw) (wd13 hw) (wd15 hw) (by decide) (lenOf pd_13 rfl) rfl rfl (Nat.le_of_ble_eq_true rfl) (Ok.pays (ok_i4f hw x a 0 (fun i hi => by rw [Nat.zero_add]) hp (by omega) (by omega) hcap hpos SC nC E V C ge AA) (wd15 hw) (wd6 hw) (by decide) (by decide)) (fun v h' q => q.2.1) (allS ⟨ge, (Or.inl rfl)⟩ all0) (by decide) (by decide) ?_
    rintro _ h_1 ⟨rfl, k, t, hge, q⟩
    refine Run.cast (st' := []) rfl ?_
    exact r_return d2_9 rfl ⟨rfl, k, t, hge, Or.inl ⟨hp, Str.toL q⟩⟩ (by simp) (by decide) (by decide)
  · refine r_special (y := (⟨"java/lang/String", "<init>", "([CIILjava/lang/Void;)V"⟩ : MethodName)) (argsL := [(.ref a), (.int (0 : Int32)), (.int (Int32.ofNat cs.length)), .null]) (rest := []) (W := 0) (kc := 2) (ks := 48) (wl := [x]) d2_6 rfl rfl (wd12 hw) (wd13 hw) (wd15 hw) (by decide) (lenOf pd_13 rfl) rfl rfl (Nat.le_of_ble_eq_true rfl) (Ok.pays (ok_i4u hw x a 0 (fun i hi => by rw [Nat.zero_add]) (by omega) (by omega) hcap hu (not_lat hu hp) SC nC SA SH SL8 E V C ge AA) (wd15 hw) (wd6 hw) (by decide) (by decide)) (fun v h' q => q.2.1) (allS ⟨ge, (Or.inl rfl)⟩ all0) (by decide) (by decide) ?_
    rintro _ h_2 ⟨rfl, k, t, hge, q⟩
    refine Run.cast (st' := []) rfl ?_
    exact r_return d2_9 rfl ⟨rfl, k, t, hge, Or.inr ⟨hu, q⟩⟩ (by simp) (by decide) (by decide)
set_option maxRecDepth 65536 in
set_option maxHeartbeats 40000000 in
theorem ok_bb0 {l : Launch} {Z : State} {a0 : Array Value} (hw : ∀ d ∈ tables_1, d.before a0 Z = true) {n0 : Nat} (x b : Addr) {h0 : Heap} (E : Exa Z h0 x "java/lang/String") (V : Fld Z h0 x "java/lang/String" "value" "[B" .null) (C : Fld Z h0 x "java/lang/String" "coder" "B" (.int 0)) (ge : n0 ≤ x) :
    Ok false l Z [] n0 [] (⟨"java/lang/String", "<init>", "([BB)V"⟩ : MethodName) jdk_42_method_151_code 3 (Option.none : Option Jvm.ClassFile.FieldType) ({ frames := 1, cells := 0, slots := 0, locals := 12 } : Room) #[(.ref x), (.ref b), (.int (0 : Int32))] h0 (fun v h => v = none ∧ Keep h0 h [x] ∧ Exa Z h x "java/lang/String" ∧ Fld Z h x "java/lang/String" "coder" "B" (.int 0) ∧ Fld Z h x "java/lang/String" "value" "[B" (.ref b)) (fun _ => []) := by
  refine Ok.of_run (ls0 := #[.val (.ref x), .val (.ref b), .val (.int (0 : Int32))]) (plainFor_of_name (by first | (simp [plainName, overriddenIn]; done) | decide +kernel)) (fun m => by first | (simp [entryFrame, mkF, argsToLocals, Value.category]; done) | rfl) rfl ?_
  refine Run.old fun hO => ?_
  have hn0 : n0 ≤ h0.size := hO.1 ▸ hO.2.1
  have lt_1 : @LT.lt Nat instLTNat x (Array.size h0) := E.lt
  refine r_aloadN d46_0 rfl rfl rfl ?_
  refine r_initO (W := 0) d46_1 rfl (wd16 hw) (wd17 hw) (wd18 hw) (by decide) (Nat.le_of_ble_eq_true rfl) (by decide) ?_
  refine r_aloadN d46_4 rfl rfl rfl ?_
  refine r_aloadN d46_5 rfl rfl rfl ?_
  refine r_putfield (ty := (.array .byte)) (v' := (.ref b)) d46_6 rfl (wd33 hw) Via.refl V E (Or.inr ⟨(wd34 hw), rfl, rfl⟩) (wd5 hw) (by decide) rfl rfl ge (Or.inl rfl) ?_
  intro h_2 W_3
  have szh_2 := Wr.size W_3
  have F_4 : Fld Z h_2 x "java/lang/String" "value" "[B" (.ref b) := Fld.same W_3 V
  refine r_aloadN d46_9 rfl rfl rfl ?_
  refine r_iloadN d46_10 rfl rfl ?_
  have F_5 : Fld Z h_2 x "java/lang/String" "coder" "B" (.int (0 : Int32)) := (Fld.other W_3 C (Or.inr (slot_ne (Or.inr (wd32 hw)) (Or.inr (wd34 hw)) (by decide) (t := .byte) (t' := (.array .byte)) (by decide) (by decide))))
  have A_6 : Exa Z h_2 x "java/lang/String" := (Exa.wr W_3 E)
  refine r_putfield (ty := .byte) (v' := (.int 0)) d46_11 rfl (wd31 hw) Via.refl F_5 A_6 (Or.inr ⟨(wd32 hw), rfl, rfl⟩) (wd5 hw) (by decide) rfl rfl ge (Or.inl rfl) ?_
  intro h_7 W_8
  have szh_7 := Wr.size W_8
  have F_9 : Fld Z h_7 x "java/lang/String" "coder" "B" (.int 0) := Fld.same W_8 F_5
  have F_10 : Fld Z h_7 x "java/lang/String" "value" "[B" (.ref b) := (Fld.other W_8 F_4 (Or.inr (slot_ne (Or.inr (wd34 hw)) (Or.inr (wd32 hw)) (by decide) (t := (.array .byte)) (t' := .byte) (by decide) (by decide))))
  have A_11 : Exa Z h_7 x "java/lang/String" := (Exa.wr W_8 A_6)
  exact r_return d46_14 rfl ⟨rfl, (Keep.wr (Keep.wr (Keep.refl _ _) W_3 (Or.inl (by simp))) W_8 (Or.inl (by simp))), A_11, F_9, F_10⟩ (by simp) (by decide) (by decide)
set_option maxRecDepth 65536 in
set_option maxHeartbeats 40000000 in
theorem ok_bb1 {l : Launch} {Z : State} {a0 : Array Value} (hw : ∀ d ∈ tables_1, d.before a0 Z = true) {n0 : Nat} (x b : Addr) {h0 : Heap} (E : Exa Z h0 x "java/lang/String") (V : Fld Z h0 x "java/lang/String" "value" "[B" .null) (C : Fld Z h0 x "java/lang/String" "coder" "B" (.int 0)) (ge : n0 ≤ x) :
    Ok false l Z [] n0 [] (⟨"java/lang/String", "<init>", "([BB)V"⟩ : MethodName) jdk_42_method_151_code 3 (Option.none : Option Jvm.ClassFile.FieldType) ({ frames := 1, cells := 0, slots := 0, locals := 12 } : Room) #[(.ref x), (.ref b), (.int (1 : Int32))] h0 (fun v h => v = none ∧ Keep h0 h [x] ∧ Exa Z h x "java/lang/String" ∧ Fld Z h x "java/lang/String" "coder" "B" (.int 1) ∧ Fld Z h x "java/lang/String" "value" "[B" (.ref b)) (fun _ => []) := by
  refine Ok.of_run (ls0 := #[.val (.ref x), .val (.ref b), .val (.int (1 : Int32))]) (plainFor_of_name (by first | (simp [plainName, overriddenIn]; done) | decide +kernel)) (fun m => by first | (simp [entryFrame, mkF, argsToLocals, Value.category]; done) | rfl) rfl ?_
  refine Run.old fun hO => ?_
  have hn0 : n0 ≤ h0.size := hO.1 ▸ hO.2.1
  have lt_1 : @LT.lt Nat instLTNat x (Array.size h0) := E.lt
  refine r_aloadN d46_0 rfl rfl rfl ?_
  refine r_initO (W := 0) d46_1 rfl (wd16 hw) (wd17 hw) (wd18 hw) (by decide) (Nat.le_of_ble_eq_true rfl) (by decide) ?_
  refine r_aloadN d46_4 rfl rfl rfl ?_
  refine r_aloadN d46_5 rfl rfl rfl ?_
  refine r_putfield (ty := (.array .byte)) (v' := (.ref b)) d46_6 rfl (wd33 hw) Via.refl V E (Or.inr ⟨(wd34 hw), rfl, rfl⟩) (wd5 hw) (by decide) rfl rfl ge (Or.inl rfl) ?_
  intro h_2 W_3
  have szh_2 := Wr.size W_3
  have F_4 : Fld Z h_2 x "java/lang/String" "value" "[B" (.ref b) := Fld.same W_3 V
  refine r_aloadN d46_9 rfl rfl rfl ?_
  refine r_iloadN d46_10 rfl rfl ?_
  have F_5 : Fld Z h_2 x "java/lang/String" "coder" "B" (.int (0 : Int32)) := (Fld.other W_3 C (Or.inr (slot_ne (Or.inr (wd32 hw)) (Or.inr (wd34 hw)) (by decide) (t := .byte) (t' := (.array .byte)) (by decide) (by decide))))
  have A_6 : Exa Z h_2 x "java/lang/String" := (Exa.wr W_3 E)
  refine r_putfield (ty := .byte) (v' := (.int 1)) d46_11 rfl (wd31 hw) Via.refl F_5 A_6 (Or.inr ⟨(wd32 hw), rfl, rfl⟩) (wd5 hw) (by decide) rfl rfl ge (Or.inl rfl) ?_
  intro h_7 W_8
  have szh_7 := Wr.size W_8
  have F_9 : Fld Z h_7 x "java/lang/String" "coder" "B" (.int 1) := Fld.same W_8 F_5
  have F_10 : Fld Z h_7 x "java/lang/String" "value" "[B" (.ref b) := (Fld.other W_8 F_4 (Or.inr (slot_ne (Or.inr (wd34 hw)) (Or.inr (wd32 hw)) (by decide) (t := (.array .byte)) (t' := .byte) (by decide) (by decide))))
  have A_11 : Exa Z h_7 x "java/lang/String" := (Exa.wr W_8 A_6)
  exact r_return d46_14 rfl ⟨rfl, (Keep.wr (Keep.wr (Keep.refl _ _) W_3 (Or.inl (by simp))) W_8 (Or.inl (by simp))), A_11, F_9, F_10⟩ (by simp) (by decide) (by decide)
set_option maxRecDepth 65536 in
set_option maxHeartbeats 40000000 in
theorem ok_canc {l : Launch} {Z : State} {a0 : Array Value} (hw : ∀ d ∈ tables_1, d.before a0 Z = true) {n0 : Nat} (c : Int32) {h0 : Heap} :
    Ok false l Z [] n0 [] (⟨"java/lang/StringLatin1", "canEncode", "(C)Z"⟩ : MethodName) jdk_43_method_3_code 1 (Option.some Jvm.ClassFile.FieldType.boolean) ({ frames := 0, cells := 0, slots := 0, locals := 0 } : Room) #[(.int c)] h0 (fun v h => v = some (.int (if (255 : Int32) < c then 0 else 1)) ∧ h = h0) (fun _ => []) := by
  refine Ok.of_run (ls0 := #[.val (.int c)]) (plainFor_of_name (by first | (simp [plainName, overriddenIn]; done) | decide +kernel)) (fun m => by first | (simp [entryFrame, mkF, argsToLocals, Value.category]; done) | rfl) rfl ?_
  refine Run.old fun hO => ?_
  have hn0 : n0 ≤ h0.size := hO.1 ▸ hO.2.1
  refine r_iloadN d43_0 rfl rfl ?_
  refine r_sipush (v := 255) d43_1 rfl rfl ?_
  refine r_icmpgt (pc2 := 11) d43_4 rfl rfl (fun c_1 => ?_) (fun c_1 => ?_)
  · refine r_iconst (v := 0) d43_11 rfl rfl ?_
    exact r_ireturnN (t := .boolean) d43_12 rfl (by simp) ⟨by rw [if_pos c_1]; rfl, rfl⟩ (by simp) (by decide) (by decide)
  · refine r_iconst (v := 1) d43_7 rfl rfl ?_
    refine r_goto (pc' := 12) d43_8 rfl ?_
    exact r_ireturnN (t := .boolean) d43_12 rfl (by simp) ⟨by rw [if_neg c_1]; rfl, rfl⟩ (by simp) (by decide) (by decide)
set_option maxRecDepth 65536 in
set_option maxHeartbeats 40000000 in
theorem ok_ltobc {l : Launch} {Z : State} {a0 : Array Value} (hw : ∀ d ∈ tables_1, d.before a0 Z = true) {n0 : Nat} (c : Int32) {h0 : Heap} :
    Ok false l Z [] n0 [] (⟨"java/lang/StringLatin1", "toBytes", "(C)[B"⟩ : MethodName) jdk_43_method_46_code 1 (Option.some (Jvm.ClassFile.FieldType.array Jvm.ClassFile.FieldType.byte)) ({ frames := 0, cells := 1, slots := 1, locals := 0 } : Room) #[(.int c)] h0 (fun v h => ∃ (b2 : Addr) (k2 : ClassId), v = some (.ref b2) ∧ Keep h0 h [] ∧ @LE.le Nat instLENat h0.size b2 ∧ Arv Z h b2 k2 .byte (Int32.ofNat [c].length) (bv [c]) (.int 0) ∧ Exa Z h b2 "[B") (fun _ => []) := by
  refine Ok.of_run (ls0 := #[.val (.int c)]) (plainFor_of_name (by first | (simp [plainName, overriddenIn]; done) | decide +kernel)) (fun m => by first | (simp [entryFrame, mkF, argsToLocals, Value.category]; done) | rfl) rfl ?_
  refine Run.old fun hO => ?_
  have hn0 : n0 ≤ h0.size := hO.1 ▸ hO.2.1
  refine r_iconst (v := 1) d59_0 rfl rfl ?_
  refine r_newP (cap := 1) (ad := "[B") d59_1 rfl (wd24 hw) (by decide) (by decide) (by decide) (by decide) (by decide) (by decide) ?_
  intro h_2 b_1 k_6 gb_1 ltb_1 E_3 A_4 K_5
  have szh_2 := E_3.1
  have geb_1 : n0 ≤ b_1 := by omega
  have K_7 : Arv Z h_2 b_1 k_6 .byte (1 : Int32) [(.int 0)] (.int 0) := Arv.pad K_5 (pad_rep [] (.int 0) 1)
  refine r_dup d59_3 rfl rfl ?_
  refine r_iconst (v := 0) d59_4 rfl rfl ?_
  refine r_iloadN d59_5 rfl rfl ?_
  refine r_i2b d59_6 rfl ?_
  refine r_bastore 0 d59_7 rfl K_7 ⟨by decide, by decide⟩ rfl (Nat.le_of_ble_eq_true rfl) geb_1 (Or.inl rfl) ?_
  intro h_8 W_9 K_10
  have szh_8 := Wr.size W_9
  have K_11 : Arv Z h_8 b_1 k_6 .byte (1 : Int32) [(.int (nar .byte (c.toInt8.toInt32)))] (.int 0) := K_10
  have A_12 : Exa Z h_8 b_1 "[B" := (Exa.wr W_9 A_4)
  exact r_areturn d59_8 rfl rfl rfl rfl ⟨b_1, k_6, rfl, (Keep.wr (Keep.ext (Keep.refl _ _) E_3) W_9 (Or.inr (by omega))), by omega, by have q := K_11; rw [nar_i2b] at q; exact q, A_12⟩ (by simp) (by decide) (by decide)
set_option maxRecDepth 65536 in
set_option maxHeartbeats 40000000 in
theorem ok_tobc {l : Launch} {Z : State} {a0 : Array Value} (hw : ∀ d ∈ tables_1, d.before a0 Z = true) {n0 : Nat} (c : Int32) {h0 : Heap} (SA : Sta Z Z.heap "java/lang/StringUTF16" "$assertionsDisabled" "Z" (.int 1)) (SH : Sta Z Z.heap "java/lang/StringUTF16" "HI_BYTE_SHIFT" "I" (.int 0)) (SL8 : Sta Z Z.heap "java/lang/StringUTF16" "LO_BYTE_SHIFT" "I" (.int 8)) :
    Ok false l Z [] n0 [] (⟨"java/lang/StringUTF16", "toBytes", "(C)[B"⟩ : MethodName) jdk_52_method_24_code 2 (Option.some (Jvm.ClassFile.FieldType.array Jvm.ClassFile.FieldType.byte)) ({ frames := 1, cells := 1, slots := 2, locals := 14 } : Room) #[(.int c)] h0 (fun v h => ∃ (b2 : Addr) (k2 : ClassId), v = some (.ref b2) ∧ Keep h0 h [] ∧ @LE.le Nat instLENat h0.size b2 ∧ Arv Z h b2 k2 .byte (Int32.ofNat (2 * [c].length)) (ubv [c]) (.int 0) ∧ Exa Z h b2 "[B") (fun _ => []) := by
  refine Ok.of_run (ls0 := #[.val (.int c), .unset]) (plainFor_of_name (by first | (simp [plainName, overriddenIn]; done) | decide +kernel)) (fun m => by first | (simp [entryFrame, mkF, argsToLocals, Value.category]; done) | rfl) rfl ?_
  refine Run.old fun hO => ?_
  have hn0 : n0 ≤ h0.size := hO.1 ▸ hO.2.1
  refine r_iconst (v := 2) d44_0 rfl rfl ?_
  refine r_newP (cap := 2) (ad := "[B") d44_1 rfl (wd24 hw) (by decide) (by decide) (by decide) (by decide) (by decide) (by decide) ?_
  intro h_2 b_1 k_6 gb_1 ltb_1 E_3 A_4 K_5
  have szh_2 := E_3.1
  have geb_1 : n0 ≤ b_1 := by omega
  have K_7 : Arv Z h_2 b_1 k_6 .byte (2 : Int32) [(.int 0), (.int 0)] (.int 0) := Arv.pad K_5 (pad_rep [] (.int 0) 2)
  refine r_astoreN (l' := #[.val (.int c), .val (.ref b_1)]) d44_3 rfl rfl rfl ?_
  refine r_aloadN d44_4 rfl rfl rfl ?_
  refine r_iconst (v := 0) d44_5 rfl rfl ?_
  refine r_iloadN d44_6 rfl rfl ?_
  have gb_ := geb_1
  have K_8 : Arv Z h_2 b_1 k_6 .byte (Int32.ofNat 2) (ubv [] ++ List.replicate (0 + 2) (.int 0)) (.int 0) := K_7
  refine Run.cast (st' := [(.int c), (.int (Int32.ofNat ([] : List Int32).length)), (.ref b_1)]) rfl ?_
  refine r_static (y := (⟨"java/lang/StringUTF16", "putChar", "([BII)V"⟩ : MethodName)) (argsL := [(.ref b_1), (.int (Int32.ofNat ([] : List Int32).length)), (.int c)]) (rest := []) (W := 0) (kc := 0) (ks := 0) (wl := [b_1]) d44_7 rfl (wd255 hw) (wd256 hw) (wd22 hw) (wd257 hw) (by decide) (lenOf pd_8 rfl) rfl rfl (Nat.le_of_ble_eq_true rfl) (Ok.pays (ok_upc hw b_1 (cs := []) c (by decide) (by decide) geb_1 SA SH SL8 K_8) (wd257 hw) (wd22 hw) (by decide) (by decide)) (fun v h' q => q.2.1) (allS ⟨geb_1, (Or.inl rfl)⟩ all0) (by decide) (by decide) ?_
  rintro _ h_9 ⟨rfl, KK, K2⟩
  refine Run.cast (st' := []) rfl ?_
  have szh_9 := KK.1
  refine r_aloadN d44_10 rfl rfl rfl ?_
  have A_10 : Exa Z h_9 b_1 "[B" := (Exa.keep A_4 KK)
  exact r_areturn d44_11 rfl rfl rfl rfl ⟨b_1, k_6, rfl, (Keep.trans (Keep.ext (Keep.refl _ _) E_3) KK (allS (Or.inr (by omega)) all0)), by omega, K2, A_10⟩ (by simp) (by decide) (by decide)
set_option maxRecDepth 65536 in
set_option maxHeartbeats 40000000 in
theorem ok_valc {l : Launch} {Z : State} {a0 : Array Value} (hw : ∀ d ∈ tables_1, d.before a0 Z = true) {n0 : Nat} (c : Int32) (hu : Uni [c]) {zC : Int32} {h0 : Heap} (SC : Sta Z Z.heap "java/lang/String" "COMPACT_STRINGS" "Z" (.int zC)) (nC : ¬ zC = 0) (SA : Sta Z Z.heap "java/lang/StringUTF16" "$assertionsDisabled" "Z" (.int 1)) (SH : Sta Z Z.heap "java/lang/StringUTF16" "HI_BYTE_SHIFT" "I" (.int 0)) (SL8 : Sta Z Z.heap "java/lang/StringUTF16" "LO_BYTE_SHIFT" "I" (.int 8)) :
    Ok false l Z [] n0 [] (⟨"java/lang/String", "valueOf", "(C)Ljava/lang/String;"⟩ : MethodName) jdk_42_method_139_code 1 (Option.some (Jvm.ClassFile.FieldType.object "java/lang/String")) ({ frames := 2, cells := 2, slots := 6, locals := 29 } : Room) #[(.int c)] h0 (fun v h => ∃ a t : Addr, v = some (.ref a) ∧ Keep h0 h [] ∧ @LE.le Nat instLENat h0.size a ∧ StrG Z h a t [c]) (fun _ => []) := by
  refine Ok.of_run (ls0 := #[.val (.int c)]) (plainFor_of_name (by first | (simp [plainName, overriddenIn]; done) | decide +kernel)) (fun m => by first | (simp [entryFrame, mkF, argsToLocals, Value.category]; done) | rfl) rfl ?_
  refine Run.old fun hO => ?_
  have hn0 : n0 ≤ h0.size := hO.1 ▸ hO.2.1
  refine r_getstatic (host := "") d42_0 rfl (Or.inl (wd19 hw)) Via.refl SC ?_
  refine r_ifeq (pc2 := 26) d42_3 rfl rfl (fun cc => absurd cc nC) (fun _ => ?_)
  refine r_iloadN d42_6 rfl rfl ?_
  refine r_static (y := (⟨"java/lang/StringLatin1", "canEncode", "(C)Z"⟩ : MethodName)) (argsL := [(.int c)]) (rest := []) (W := 0) (kc := 0) (ks := 0) (wl := []) d42_7 rfl (wd248 hw) (wd249 hw) (wd230 hw) (wd250 hw) (by decide) (lenOf pd_14 rfl) rfl rfl (Nat.le_of_ble_eq_true rfl) (Ok.pays (ok_canc hw c) (wd250 hw) (wd230 hw) (by decide) (by decide)) (fun v h' q => q.2 ▸ Keep.refl _ _) all0 (by decide) (by decide) ?_
  rintro _ h_1 ⟨rfl, eqh⟩
  subst h_1
  refine Run.cast (st' := [(.int (if (255 : Int32) < c then 0 else 1))]) rfl ?_
  refine r_ifeq (pc2 := 26) d42_10 rfl rfl (fun c_2 => ?_) (fun c_2 => ?_)
  · refine r_new d42_26 rfl (wd251 hw) (wd5 hw) (wd6 hw) (by decide) (by decide) ?_
    intro h_4 b_3 gb_3 ltb_3 E_5 A_6 D_7 U_8
    have szh_4 := E_5.1
    have geb_3 : n0 ≤ b_3 := by omega
    have F_9 : Fld Z h_4 b_3 "java/lang/String" "coder" "B" (.int (0 : Int32)) := D_7 (Or.inr (wd32 hw)) (ty := .byte) (by decide)
    have F_10 : Fld Z h_4 b_3 "java/lang/String" "value" "[B" .null := D_7 (Or.inr (wd34 hw)) (ty := (.array .byte)) (by decide)
    refine r_dup d42_29 rfl rfl ?_
    refine r_iloadN d42_30 rfl rfl ?_
    refine r_static (y := (⟨"java/lang/StringUTF16", "toBytes", "(C)[B"⟩ : MethodName)) (argsL := [(.int c)]) (rest := [(.ref b_3), (.ref b_3)]) (W := 2) (kc := 1) (ks := 2) (wl := []) d42_31 rfl (wd252 hw) (wd253 hw) (wd22 hw) (wd254 hw) (by decide) (lenOf pd_15 rfl) rfl rfl (Nat.le_of_ble_eq_true rfl) (Ok.pays (ok_tobc hw c SA SH SL8) (wd254 hw) (wd22 hw) (by decide) (by decide)) (fun v h' q => by obtain ⟨_, _, _, K, _⟩ := q; exact K) all0 (by decide) (by decide) ?_
    rintro _ h_17 ⟨b_11, k_12, rfl, KK_13, hge_14, K_15, E_16⟩
    refine Run.cast (st' := [(.ref b_11), (.ref b_3), (.ref b_3)]) rfl ?_
    have szh_17 := KK_13.1
    have lt_18 : @LT.lt Nat instLTNat b_11 (Array.size h_17) := K_15.lt
    have gb_11 : n0 ≤ b_11 := by omega
    refine r_iconst (v := 1) d42_34 rfl rfl ?_
    have A_19 : Exa Z h_17 b_3 "java/lang/String" := (Exa.keep A_6 KK_13)
    have F_20 : Fld Z h_17 b_3 "java/lang/String" "value" "[B" .null := (Fld.keep F_10 KK_13 nin0)
    have F_21 : Fld Z h_17 b_3 "java/lang/String" "coder" "B" (.int (0 : Int32)) := (Fld.keep F_9 KK_13 nin0)
    refine r_special (y := (⟨"java/lang/String", "<init>", "([BB)V"⟩ : MethodName)) (argsL := [(.ref b_11), (.int (1 : Int32))]) (rest := [(.ref b_3)]) (W := 1) (kc := 0) (ks := 0) (wl := [b_3]) d42_35 rfl rfl (wd261 hw) (wd262 hw) (wd263 hw) (by decide) (lenOf pd_16 rfl) rfl rfl (Nat.le_of_ble_eq_true rfl) (Ok.pays (ok_bb1 hw b_3 b_11 A_19 F_20 F_21 geb_3) (wd263 hw) (wd6 hw) (by decide) (by decide)) (fun v h' q => q.2.1) (allS ⟨geb_3, (Or.inl rfl)⟩ all0) (by decide) (by decide) ?_
    rintro _ h_22 ⟨rfl, KK2, E3, C3, V3⟩
    refine Run.cast (st' := [(.ref b_3)]) rfl ?_
    have szh_22 := KK2.1
    have ne_23 : @Ne Nat b_11 b_3 := by omega
    have K_24 : Arv Z h_22 b_11 k_12 .byte (Int32.ofNat (2 * [c].length)) (ubv [c]) (.int 0) := (Arv.keep K_15 KK2 (ninS ne_23 nin0))
    have A_25 : Exa Z h_22 b_11 "[B" := (Exa.keep E_16 KK2)
    exact r_areturn d42_38 rfl rfl rfl rfl ⟨b_3, b_11, rfl, (Keep.trans (Keep.trans (Keep.ext (Keep.refl _ _) E_5) KK_13 all0) KK2 (allS (Or.inr (by omega)) all0)), by omega, Or.inr ⟨hu, ⟨E3, C3, V3, ⟨_, K_24⟩, A_25⟩⟩⟩ (by simp) (by decide) (by decide)
  · have hlt : ¬ (255 : Int32) < c := fun z => by rw [if_pos z] at c_2; exact c_2 rfl
    refine r_new d42_13 rfl (wd251 hw) (wd5 hw) (wd6 hw) (by decide) (by decide) ?_
    intro h_27 b_26 gb_26 ltb_26 E_28 A_29 D_30 U_31
    have szh_27 := E_28.1
    have geb_26 : n0 ≤ b_26 := by omega
    have F_32 : Fld Z h_27 b_26 "java/lang/String" "coder" "B" (.int (0 : Int32)) := D_30 (Or.inr (wd32 hw)) (ty := .byte) (by decide)
    have F_33 : Fld Z h_27 b_26 "java/lang/String" "value" "[B" .null := D_30 (Or.inr (wd34 hw)) (ty := (.array .byte)) (by decide)
    refine r_dup d42_16 rfl rfl ?_
    refine r_iloadN d42_17 rfl rfl ?_
    refine r_static (y := (⟨"java/lang/StringLatin1", "toBytes", "(C)[B"⟩ : MethodName)) (argsL := [(.int c)]) (rest := [(.ref b_26), (.ref b_26)]) (W := 2) (kc := 1) (ks := 1) (wl := []) d42_18 rfl (wd308 hw) (wd309 hw) (wd230 hw) (wd310 hw) (by decide) (lenOf pd_15 rfl) rfl rfl (Nat.le_of_ble_eq_true rfl) (Ok.pays (ok_ltobc hw c) (wd310 hw) (wd230 hw) (by decide) (by decide)) (fun v h' q => by obtain ⟨_, _, _, K, _⟩ := q; exact K) all0 (by decide) (by decide) ?_
    rintro _ h_40 ⟨b_34, k_35, rfl, KK_36, hge_37, K_38, E_39⟩
    refine Run.cast (st' := [(.ref b_34), (.ref b_26), (.ref b_26)]) rfl ?_
    have szh_40 := KK_36.1
    have lt_41 : @LT.lt Nat instLTNat b_34 (Array.size h_40) := K_38.lt
    have gb_34 : n0 ≤ b_34 := by omega
    refine r_iconst (v := 0) d42_21 rfl rfl ?_
    have A_42 : Exa Z h_40 b_26 "java/lang/String" := (Exa.keep A_29 KK_36)
    have F_43 : Fld Z h_40 b_26 "java/lang/String" "value" "[B" .null := (Fld.keep F_33 KK_36 nin0)
    have F_44 : Fld Z h_40 b_26 "java/lang/String" "coder" "B" (.int (0 : Int32)) := (Fld.keep F_32 KK_36 nin0)
    refine r_special (y := (⟨"java/lang/String", "<init>", "([BB)V"⟩ : MethodName)) (argsL := [(.ref b_34), (.int (0 : Int32))]) (rest := [(.ref b_26)]) (W := 1) (kc := 0) (ks := 0) (wl := [b_26]) d42_22 rfl rfl (wd261 hw) (wd262 hw) (wd263 hw) (by decide) (lenOf pd_16 rfl) rfl rfl (Nat.le_of_ble_eq_true rfl) (Ok.pays (ok_bb0 hw b_26 b_34 A_42 F_43 F_44 geb_26) (wd263 hw) (wd6 hw) (by decide) (by decide)) (fun v h' q => q.2.1) (allS ⟨geb_26, (Or.inl rfl)⟩ all0) (by decide) (by decide) ?_
    rintro _ h_45 ⟨rfl, KK2, E3, C3, V3⟩
    refine Run.cast (st' := [(.ref b_26)]) rfl ?_
    have szh_45 := KK2.1
    have ne_46 : @Ne Nat b_34 b_26 := by omega
    have K_47 : Arv Z h_45 b_34 k_35 .byte (Int32.ofNat [c].length) (bv [c]) (.int 0) := (Arv.keep K_38 KK2 (ninS ne_46 nin0))
    have A_48 : Exa Z h_45 b_34 "[B" := (Exa.keep E_39 KK2)
    exact r_areturn d42_25 rfl rfl rfl rfl ⟨b_26, b_34, rfl, (Keep.trans (Keep.trans (Keep.ext (Keep.refl _ _) E_28) KK_36 all0) KK2 (allS (Or.inr (by omega)) all0)), by omega, Or.inl ⟨fun q hq => ⟨(hu q hq).1, by rw [List.mem_singleton] at hq; rw [hq]; exact hlt⟩, ⟨E3, C3, V3, ⟨_, K_47⟩⟩⟩⟩ (by simp) (by decide) (by decide)
def SB0 (Z : State) (h : Heap) (n0 : Nat) (x t : Addr) (cs : List Int32) (cap : Nat) : Prop :=
  Exa Z h x "java/lang/StringBuilder" ∧ Fld Z h x "java/lang/AbstractStringBuilder" "value" "[B" (.ref t) ∧ Fld Z h x "java/lang/AbstractStringBuilder" "coder" "B" (.int 0) ∧ Fld Z h x "java/lang/AbstractStringBuilder" "count" "I" (.int (Int32.ofNat cs.length)) ∧ Fld Z h x "java/lang/AbstractStringBuilder" "maybeLatin1" "Z" (.int 0) ∧ (∃ k, Arv Z h t k .byte (Int32.ofNat cap) (bv cs) (.int 0)) ∧ @LE.le Nat instLENat n0 x ∧ @LE.le Nat instLENat n0 t ∧ Lat cs ∧ cs.length ≤ cap
theorem SB0.keep {Z : State} {h h' : Heap} {n0 : Nat} {x t : Addr} {cs : List Int32} {cap : Nat} {ws : List Addr} (F : SB0 Z h n0 x t cs cap) (K : Keep h h' ws) (q1 : x ∉ ws) (q2 : t ∉ ws) : SB0 Z h' n0 x t cs cap := by
  obtain ⟨f1, f2, f3, f4, f5, ⟨k, f6⟩, f8⟩ := F
  exact ⟨f1.keep K, f2.keep K q1, f3.keep K q1, f4.keep K q1, f5.keep K q1, ⟨k, f6.keep K q2⟩, f8⟩
theorem SB0.ext {Z : State} {h h' : Heap} {n0 : Nat} {x t : Addr} {cs : List Int32} {cap : Nat} (E : Ext h h') (F : SB0 Z h n0 x t cs cap) : SB0 Z h' n0 x t cs cap := by
  obtain ⟨f1, f2, f3, f4, f5, ⟨k, f6⟩, f8⟩ := F
  exact ⟨f1.ext E, f2.ext E, f3.ext E, f4.ext E, f5.ext E, ⟨k, f6.ext E⟩, f8⟩
theorem SB0.exa {Z : State} {h : Heap} {n0 : Nat} {x t : Addr} {cs : List Int32} {cap : Nat} (F : SB0 Z h n0 x t cs cap) : Exa Z h x "java/lang/StringBuilder" := F.1
theorem SB0.gx {Z : State} {h : Heap} {n0 : Nat} {x t : Addr} {cs : List Int32} {cap : Nat} (F : SB0 Z h n0 x t cs cap) : n0 ≤ x := by
  obtain ⟨-, -, -, -, -, -, q, -⟩ := F; exact q
theorem SB0.gt {Z : State} {h : Heap} {n0 : Nat} {x t : Addr} {cs : List Int32} {cap : Nat} (F : SB0 Z h n0 x t cs cap) : n0 ≤ t := by
  obtain ⟨-, -, -, -, -, -, -, q, -⟩ := F; exact q
theorem SB0.lt {Z : State} {h : Heap} {n0 : Nat} {x t : Addr} {cs : List Int32} {cap : Nat} (F : SB0 Z h n0 x t cs cap) : x < h.size := F.1.lt
theorem SB0.ltB {Z : State} {h : Heap} {n0 : Nat} {x t : Addr} {cs : List Int32} {cap : Nat} (F : SB0 Z h n0 x t cs cap) : t < h.size := by
  obtain ⟨-, -, -, -, -, ⟨k, K⟩, -⟩ := F; exact K.lt
def SB1 (Z : State) (h : Heap) (n0 : Nat) (x t : Addr) (cs : List Int32) (cap : Nat) : Prop :=
  Exa Z h x "java/lang/StringBuilder" ∧ Fld Z h x "java/lang/AbstractStringBuilder" "value" "[B" (.ref t) ∧ Fld Z h x "java/lang/AbstractStringBuilder" "coder" "B" (.int 1) ∧ Fld Z h x "java/lang/AbstractStringBuilder" "count" "I" (.int (Int32.ofNat cs.length)) ∧ Fld Z h x "java/lang/AbstractStringBuilder" "maybeLatin1" "Z" (.int 0) ∧ (∃ k, Arv Z h t k .byte (Int32.ofNat (2 * cap)) (ubv cs) (.int 0)) ∧ @LE.le Nat instLENat n0 x ∧ @LE.le Nat instLENat n0 t ∧ Uni cs ∧ cs.length ≤ cap
theorem SB1.keep {Z : State} {h h' : Heap} {n0 : Nat} {x t : Addr} {cs : List Int32} {cap : Nat} {ws : List Addr} (F : SB1 Z h n0 x t cs cap) (K : Keep h h' ws) (q1 : x ∉ ws) (q2 : t ∉ ws) : SB1 Z h' n0 x t cs cap := by
  obtain ⟨f1, f2, f3, f4, f5, ⟨k, f6⟩, f8⟩ := F
  exact ⟨f1.keep K, f2.keep K q1, f3.keep K q1, f4.keep K q1, f5.keep K q1, ⟨k, f6.keep K q2⟩, f8⟩
theorem SB1.ext {Z : State} {h h' : Heap} {n0 : Nat} {x t : Addr} {cs : List Int32} {cap : Nat} (E : Ext h h') (F : SB1 Z h n0 x t cs cap) : SB1 Z h' n0 x t cs cap := by
  obtain ⟨f1, f2, f3, f4, f5, ⟨k, f6⟩, f8⟩ := F
  exact ⟨f1.ext E, f2.ext E, f3.ext E, f4.ext E, f5.ext E, ⟨k, f6.ext E⟩, f8⟩
theorem SB1.exa {Z : State} {h : Heap} {n0 : Nat} {x t : Addr} {cs : List Int32} {cap : Nat} (F : SB1 Z h n0 x t cs cap) : Exa Z h x "java/lang/StringBuilder" := F.1
theorem SB1.gx {Z : State} {h : Heap} {n0 : Nat} {x t : Addr} {cs : List Int32} {cap : Nat} (F : SB1 Z h n0 x t cs cap) : n0 ≤ x := by
  obtain ⟨-, -, -, -, -, -, q, -⟩ := F; exact q
theorem SB1.gt {Z : State} {h : Heap} {n0 : Nat} {x t : Addr} {cs : List Int32} {cap : Nat} (F : SB1 Z h n0 x t cs cap) : n0 ≤ t := by
  obtain ⟨-, -, -, -, -, -, -, q, -⟩ := F; exact q
theorem SB1.lt {Z : State} {h : Heap} {n0 : Nat} {x t : Addr} {cs : List Int32} {cap : Nat} (F : SB1 Z h n0 x t cs cap) : x < h.size := F.1.lt
theorem SB1.ltB {Z : State} {h : Heap} {n0 : Nat} {x t : Addr} {cs : List Int32} {cap : Nat} (F : SB1 Z h n0 x t cs cap) : t < h.size := by
  obtain ⟨-, -, -, -, -, ⟨k, K⟩, -⟩ := F; exact K.lt
theorem ofNat_sub_le {m c : Nat} (h : m ≤ c) (hc : c < 2 ^ 30) : ¬ (0 : Int32) < Int32.ofNat m - Int32.ofNat c := by
  have a := c_isub (Int32.ofNat m) (Int32.ofNat c)
  have e1 : (Int32.ofNat m).toInt = m := Int32.toInt_ofNat_of_lt (by omega)
  have e2 : (Int32.ofNat c).toInt = c := Int32.toInt_ofNat_of_lt (by omega)
  have e3 : (0 : Int32).toInt = 0 := rfl
  have r := rng32 (Int32.ofNat m - Int32.ofNat c)
  rw [Int32.lt_iff_toInt_lt, e3]
  omega
theorem shl0 (x : Int32) : x <<< ((0 : Int32) &&& 31) = x := by
  have a := c_ishl x 0 0 rfl
  have p0 : ((2 ^ 0 : Nat) : Int) = 1 := rfl
  have r := rng32 (x <<< ((0 : Int32) &&& 31))
  have r2 := rng32 x
  rw [p0] at a
  apply Int32.toInt_inj.mp
  omega
theorem padr {Z : State} {h : Heap} {a : Addr} {k : ClassId} {n : Int32} {vs : List Value} (F : Arv Z h a k .byte n vs (.int 0)) (m : Nat) : Arv Z h a k .byte n (vs ++ List.replicate m (.int 0)) (.int 0) := Arv.pad F (pad_rep vs (.int 0) m)
theorem cp_res (vs us : List Value) (n m : Nat) (h1 : vs.length = n) (h2 : us.length = m) : (vs ++ List.replicate m (Value.int 0)).take n ++ us ++ (vs ++ List.replicate m (Value.int 0)).drop (n + m) = vs ++ us := by
  subst h1 h2
  rw [List.take_append_of_le_length (Nat.le_refl _), List.take_length, List.drop_eq_nil_of_le (by rw [List.length_append, List.length_replicate]; exact Nat.le_refl _), List.append_nil]
theorem rng_all (vs : List Value) (d : Value) (n : Nat) (h : vs.length = n) : vs = (List.range n).map fun q => vs.getD (0 + q) d := by
  subst h
  apply List.ext_getElem
  · simp
  · intro q h1 h2
    simp only [List.getElem_map, List.getElem_range, Nat.zero_add]
    rw [List.getD_eq_getElem?_getD, List.getElem?_eq_getElem h1]; rfl
theorem bv_len (cs : List Int32) : (bv cs).length = cs.length := by simp [bv]
theorem bv_app (cs ds : List Int32) : bv (cs ++ ds) = bv cs ++ bv ds := by simp [bv]
theorem Lat.app {cs ds : List Int32} (h : Lat cs) (g : Lat ds) : Lat (cs ++ ds) := fun c hc => by
  rcases List.mem_append.mp hc with q | q; exact h c q; exact g c q
theorem Uni.app {cs ds : List Int32} (h : Uni cs) (g : Uni ds) : Uni (cs ++ ds) := fun c hc => by
  rcases List.mem_append.mp hc with q | q; exact h c q; exact g c q
theorem lat_and {c : Int32} (h : ¬ c < 0 ∧ ¬ (255 : Int32) < c) : c.toInt8.toInt32 &&& (255 : Int32) = c := by
  obtain ⟨k, rfl⟩ := lat_ofNat h
  exact (by decide +kernel : ∀ k : Fin 256, (Int32.ofNat k.val).toInt8.toInt32 &&& (255 : Int32) = Int32.ofNat k.val) k
theorem ior_nneg {a b : Int32} (ha : ¬ a < 0) (hb : ¬ b < 0) : ¬ (a ||| b) < 0 := by
  have key : ∀ x : Int32, (x < 0) ↔ x.toBitVec.msb = true := fun x => by
    rw [Int32.lt_iff_toInt_lt, BitVec.msb_eq_toInt]
    show x.toBitVec.toInt < 0 ↔ _
    simp
  rw [key] at ha hb ⊢
  rw [Int32.toBitVec_or, BitVec.msb_or]
  simp at ha hb ⊢
  exact ⟨ha, hb⟩
set_option maxRecDepth 65536 in
set_option maxHeartbeats 40000000 in
theorem ok_cfis {l : Launch} {Z : State} {a0 : Array Value} (hw : ∀ d ∈ tables_1, d.before a0 Z = true) {n0 : Nat} (o c m : Nat) (hoc : o + c ≤ m) (hm : m ≤ 4000) {vF : Value} {h0 : Heap} (rF : vF.isRef = true) :
    Ok false l Z [] n0 [] (⟨"jdk/internal/util/Preconditions", "checkFromIndexSize", "(IIILjava/util/function/BiFunction;)I"⟩ : MethodName) jdk_41_method_13_code 4 (Option.some Jvm.ClassFile.FieldType.int) ({ frames := 0, cells := 0, slots := 0, locals := 0 } : Room) #[(.int (Int32.ofNat o)), (.int (Int32.ofNat c)), (.int (Int32.ofNat m)), vF] h0 (fun v h => v = some (.int (Int32.ofNat o)) ∧ h = h0) (fun _ => []) := by
  refine Ok.of_run (ls0 := #[.val (.int (Int32.ofNat o)), .val (.int (Int32.ofNat c)), .val (.int (Int32.ofNat m)), .val vF]) (plainFor_of_name (by first | (simp [plainName, overriddenIn]; done) | decide +kernel)) (fun m => by rcases ref_cases rF with rfl | ⟨q, rfl⟩ <;> first | (simp [entryFrame, mkF, argsToLocals, Value.category]; done) | rfl) rfl ?_
  refine Run.old fun hO => ?_
  have hn0 : n0 ≤ h0.size := hO.1 ▸ hO.2.1
  refine r_iloadN d55_0 rfl rfl ?_
  refine r_iloadN d55_1 rfl rfl ?_
  refine r_ior d55_2 rfl ?_
  refine r_iloadN d55_3 rfl rfl ?_
  refine r_ior d55_4 rfl ?_
  refine r_iflt (pc2 := 15) d55_5 rfl rfl (fun cc => absurd cc (ior_nneg (ior_nneg (ofNat_in (n := 4001) (by omega) (by omega)).1 (ofNat_in (n := 4001) (by omega) (by omega)).1) (ofNat_in (n := 4001) (by omega) (by omega)).1)) (fun _ => ?_)
  refine r_iloadN d55_8 rfl rfl ?_
  refine r_iloadN d55_9 rfl rfl ?_
  refine r_iloadN d55_10 rfl rfl ?_
  refine r_isub d55_11 rfl ?_
  refine r_icmple (pc2 := 23) d55_12 rfl rfl (fun _ => ?_) (fun cc => absurd cc (by rw [ofNat_sub (by omega)]; exact ofNat_nlt (by omega) (by omega)))
  refine r_iloadN d55_23 rfl rfl ?_
  exact r_ireturn d55_24 rfl ⟨rfl, rfl⟩ (by simp) (by decide) (by decide)
set_option maxRecDepth 65536 in
set_option maxHeartbeats 40000000 in
theorem ok_cboc {l : Launch} {Z : State} {a0 : Array Value} (hw : ∀ d ∈ tables_1, d.before a0 Z = true) {n0 : Nat} (o c m : Nat) (hoc : o + c ≤ m) (hm : m ≤ 4000) {vF : Value} {h0 : Heap} (SF : Sta Z Z.heap "jdk/internal/util/Preconditions" "SIOOBE_FORMATTER" "Ljava/util/function/BiFunction;" vF) (rF : vF.isRef = true) :
    Ok false l Z [] n0 [] (⟨"java/lang/String", "checkBoundsOffCount", "(III)I"⟩ : MethodName) jdk_42_method_157_code 3 (Option.some Jvm.ClassFile.FieldType.int) ({ frames := 1, cells := 0, slots := 0, locals := 15 } : Room) #[(.int (Int32.ofNat o)), (.int (Int32.ofNat c)), (.int (Int32.ofNat m))] h0 (fun v h => v = some (.int (Int32.ofNat o)) ∧ h = h0) (fun _ => []) := by
  refine Ok.of_run (ls0 := #[.val (.int (Int32.ofNat o)), .val (.int (Int32.ofNat c)), .val (.int (Int32.ofNat m))]) (plainFor_of_name (by first | (simp [plainName, overriddenIn]; done) | decide +kernel)) (fun m => by first | (simp [entryFrame, mkF, argsToLocals, Value.category]; done) | rfl) rfl ?_
  refine Run.old fun hO => ?_
  have hn0 : n0 ≤ h0.size := hO.1 ▸ hO.2.1
  refine r_iloadN d54_0 rfl rfl ?_
  refine r_iloadN d54_1 rfl rfl ?_
  refine r_iloadN d54_2 rfl rfl ?_
  refine r_getstatic (host := "") d54_3 rfl (Or.inl (wd235 hw)) Via.refl SF ?_
  refine r_static (y := (⟨"jdk/internal/util/Preconditions", "checkFromIndexSize", "(IIILjava/util/function/BiFunction;)I"⟩ : MethodName)) (argsL := [(.int (Int32.ofNat o)), (.int (Int32.ofNat c)), (.int (Int32.ofNat m)), vF]) (rest := []) (W := 0) (kc := 0) (ks := 0) (wl := []) d54_6 rfl (wd292 hw) (wd293 hw) (wd236 hw) (wd294 hw) (by decide) (lenOf pd_17 rfl) rfl rfl (Nat.le_of_ble_eq_true rfl) (Ok.pays (ok_cfis hw o c m hoc hm rF) (wd294 hw) (wd236 hw) (by decide) (by decide)) (fun v h' q => q.2 ▸ Keep.refl _ _) all0 (by decide) (by decide) ?_
  rintro _ h_1 ⟨rfl, eqh⟩
  subst h_1
  refine Run.cast (st' := [(.int (Int32.ofNat o))]) rfl ?_
  exact r_ireturn d54_9 rfl ⟨rfl, rfl⟩ (by simp) (by decide) (by decide)
set_option maxRecDepth 65536 in
set_option maxHeartbeats 40000000 in
theorem ok_ucboc {l : Launch} {Z : State} {a0 : Array Value} (hw : ∀ d ∈ tables_1, d.before a0 Z = true) {n0 : Nat} (o c m : Nat) (hoc : o + c ≤ m) (hm : m ≤ 4000) (b : Addr) {k : ClassId} {vs : List Value} {vF : Value} {h0 : Heap} (SF : Sta Z Z.heap "jdk/internal/util/Preconditions" "SIOOBE_FORMATTER" "Ljava/util/function/BiFunction;" vF) (rF : vF.isRef = true) (K : Arv Z h0 b k .byte (Int32.ofNat (2 * m)) vs (.int 0)) :
    Ok false l Z [] n0 [] (⟨"java/lang/StringUTF16", "checkBoundsOffCount", "(II[B)V"⟩ : MethodName) jdk_52_method_94_code 3 (Option.none : Option Jvm.ClassFile.FieldType) ({ frames := 2, cells := 0, slots := 0, locals := 29 } : Room) #[(.int (Int32.ofNat o)), (.int (Int32.ofNat c)), (.ref b)] h0 (fun v h => v = none ∧ h = h0) (fun _ => []) := by
  refine Ok.of_run (ls0 := #[.val (.int (Int32.ofNat o)), .val (.int (Int32.ofNat c)), .val (.ref b)]) (plainFor_of_name (by first | (simp [plainName, overriddenIn]; done) | decide +kernel)) (fun m => by first | (simp [entryFrame, mkF, argsToLocals, Value.category]; done) | rfl) rfl ?_
  refine Run.old fun hO => ?_
  have hn0 : n0 ≤ h0.size := hO.1 ▸ hO.2.1
  refine r_iloadN d52_0 rfl rfl ?_
  refine r_iloadN d52_1 rfl rfl ?_
  refine r_aloadN d52_2 rfl rfl rfl ?_
  refine r_static (y := (⟨"java/lang/StringUTF16", "length", "([B)I"⟩ : MethodName)) (argsL := [(.ref b)]) (rest := [(.int (Int32.ofNat c)), (.int (Int32.ofNat o))]) (W := 2) (kc := 0) (ks := 0) (wl := []) d52_3 rfl (wd286 hw) (wd287 hw) (wd22 hw) (wd288 hw) (by decide) (lenOf pd_6 rfl) rfl rfl (Nat.le_of_ble_eq_true rfl) (Ok.pays (ok_ul hw b m hm K) (wd288 hw) (wd22 hw) (by decide) (by decide)) (fun v h' q => q.2 ▸ Keep.refl _ _) all0 (by decide) (by decide) ?_
  rintro _ h_1 ⟨rfl, eqh⟩
  subst h_1
  refine Run.cast (st' := [(.int (Int32.ofNat m)), (.int (Int32.ofNat c)), (.int (Int32.ofNat o))]) rfl ?_
  refine r_static (y := (⟨"java/lang/String", "checkBoundsOffCount", "(III)I"⟩ : MethodName)) (argsL := [(.int (Int32.ofNat o)), (.int (Int32.ofNat c)), (.int (Int32.ofNat m))]) (rest := []) (W := 0) (kc := 0) (ks := 0) (wl := []) d52_6 rfl (wd289 hw) (wd290 hw) (wd6 hw) (wd291 hw) (by decide) (lenOf pd_18 rfl) rfl rfl (Nat.le_of_ble_eq_true rfl) (Ok.pays (ok_cboc hw o c m hoc hm SF rF) (wd291 hw) (wd6 hw) (by decide) (by decide)) (fun v h' q => q.2 ▸ Keep.refl _ _) all0 (by decide) (by decide) ?_
  rintro _ h_2 ⟨rfl, eqh⟩
  subst h_2
  refine Run.cast (st' := [(.int (Int32.ofNat o))]) rfl ?_
  refine r_pop d52_9 rfl rfl ?_
  exact r_return d52_10 rfl ⟨rfl, rfl⟩ (by simp) (by decide) (by decide)
set_option maxRecDepth 65536 in
theorem loop_inf {l : Launch} {Z : State} {a0 : Array Value} (hw : ∀ d ∈ tables_1, d.before a0 Z = true) {n0 : Nat} {ka kb : ClassId} {cs ds : List Int32} {M cap : Nat} (a b : Addr) (hab : a ≠ b) (hd : Lat ds) (hM : ds.length ≤ M) (hM2 : M ≤ 4000) (hc : cs.length + ds.length ≤ cap) (hc2 : cap ≤ 4000) (gb : n0 ≤ b) (SA : Sta Z Z.heap "java/lang/StringUTF16" "$assertionsDisabled" "Z" (.int 1)) (SH : Sta Z Z.heap "java/lang/StringUTF16" "HI_BYTE_SHIFT" "I" (.int 0)) (SL8 : Sta Z Z.heap "java/lang/StringUTF16" "LO_BYTE_SHIFT" "I" (.int 8)) {R : Room} (hR1 : 1 ≤ R.frames) (hR2 : 17 ≤ R.locals) {Q : Option Value → Heap → Prop} {h0 : Heap} (hfin : ∀ h, Keep h0 h [b] → Arv Z h b kb .byte (Int32.ofNat (2 * cap)) (ubv (cs ++ ds)) (.int 0) → Q none h) :
    ∀ (m i : Nat) (h : Heap), i + m = ds.length → Keep h0 h [b] → Arv Z h a ka .byte (Int32.ofNat M) (bv ds) (.int 0) → Arv Z h b kb .byte (Int32.ofNat (2 * cap)) (ubv (cs ++ ds.take i)) (.int 0) →
      Run false l Z [] n0 "java/lang/StringUTF16" "inflate" jdk_52_method_86_code none R Q (fun _ => []) [] h 0 0 10 #[.val (.ref a), .val (.int (Int32.ofNat i)), .val (.ref b), .val (.int (Int32.ofNat (cs.length + i))), .val (.int (Int32.ofNat ds.length)), .val (.int (Int32.ofNat i))] [] := by
  intro m
  induction m with
  | zero =>
    intro i h hi K AA AB
    have hi' : i = ds.length := by omega
    subst hi'
    refine r_iload d51_10 rfl rfl ?_
    refine r_iload d51_12 rfl rfl ?_
    refine r_icmpge (pc2 := 41) d51_14 rfl rfl (fun _ => ?_) (fun cc => absurd cc (ofNat_nlt (Nat.le_refl _) (by omega)))
    exact r_return d51_41 rfl (hfin _ K (by rw [List.take_length] at AB; exact AB)) (by simp) (Nat.zero_le _) (Nat.zero_le _)
  | succ m ih =>
    intro i h hi K AA AB
    have hlt : i < ds.length := by omega
    have tl : (cs ++ ds.take i).length = cs.length + i := by rw [List.length_append, List.length_take]; omega
    refine r_iload d51_10 rfl rfl ?_
    refine r_iload d51_12 rfl rfl ?_
    refine r_icmpge (pc2 := 41) d51_14 rfl rfl (fun cc => absurd (ofNat_in hlt (by omega)).2 cc) (fun _ => ?_)
    refine r_aloadN d51_17 rfl rfl rfl ?_
    refine r_iloadN d51_18 rfl rfl ?_
    refine r_iinc (l' := #[.val (.ref a), .val (.int (Int32.ofNat i)), .val (.ref b), .val (.int ((Int32.ofNat (cs.length + i)) + (1 : Int32))), .val (.int (Int32.ofNat ds.length)), .val (.int (Int32.ofNat i))]) d51_19 rfl rfl rfl ?_
    refine r_aloadN d51_22 rfl rfl rfl ?_
    refine r_iloadN d51_23 rfl rfl ?_
    refine r_iinc (l' := #[.val (.ref a), .val (.int ((Int32.ofNat i) + (1 : Int32))), .val (.ref b), .val (.int ((Int32.ofNat (cs.length + i)) + (1 : Int32))), .val (.int (Int32.ofNat ds.length)), .val (.int (Int32.ofNat i))]) d51_24 rfl rfl rfl ?_
    refine r_baload (v := (.int (ds.getD i 0).toInt8.toInt32)) d51_27 rfl AA (ofNat_in (by omega) (by omega)) (by rw [ofNat_cl (by omega)]; exact bytes_at ds i) ?_
    refine r_sipush (v := 255) d51_28 rfl rfl ?_
    refine r_iand d51_31 rfl ?_
    rw [show ((ds.getD i 0).toInt8.toInt32 &&& (255 : Int32)) = (ds.getD i 0) from (lat_and (lat_at hd hlt))]
    refine Run.cast (st' := [(.int (ds.getD i 0)), (.int (Int32.ofNat (cs ++ ds.take i).length)), (.ref b)]) (by rw [tl]) ?_
    refine r_static (y := (⟨"java/lang/StringUTF16", "putChar", "([BII)V"⟩ : MethodName)) (argsL := [(.ref b), (.int (Int32.ofNat (cs ++ ds.take i).length)), (.int (ds.getD i 0))]) (rest := []) (W := 0) (kc := 0) (ks := 0) (wl := [b]) d51_32 rfl (wd255 hw) (wd256 hw) (wd22 hw) (wd257 hw) (by decide) (lenOf pd_8 rfl) rfl rfl (Nat.le_of_ble_eq_true rfl) (Ok.pays (ok_upc hw b (ds.getD i 0) (m := 0) (by rw [tl]; omega) (by omega) gb SA SH SL8 (padr AB 2)) (wd257 hw) (wd22 hw) (by show 0 + 1 ≤ R.frames; omega) (by show 0 + (3 + 11) + 0 ≤ R.locals; omega)) (fun v h' q => q.2.1) (allS ⟨gb, (Or.inl rfl)⟩ all0) (Nat.zero_le _) (Nat.zero_le _) ?_
    rintro _ h_1 ⟨rfl, KK, K2⟩
    refine Run.cast (st' := []) rfl ?_
    have szh_1 := KK.1
    rw [List.replicate_zero, List.append_nil, List.append_assoc, take_snoc hlt] at K2
    have K_2 : Arv Z h_1 a ka .byte (Int32.ofNat M) (bv ds) (.int 0) := (Arv.keep AA KK (ninS hab nin0))
    refine r_iinc (l' := #[.val (.ref a), .val (.int ((Int32.ofNat i) + (1 : Int32))), .val (.ref b), .val (.int ((Int32.ofNat (cs.length + i)) + (1 : Int32))), .val (.int (Int32.ofNat ds.length)), .val (.int ((Int32.ofNat i) + (1 : Int32)))]) d51_35 rfl rfl rfl ?_
    refine r_goto (pc' := 10) d51_38 rfl ?_
    refine Run.castL (ls' := #[.val (.ref a), .val (.int (Int32.ofNat (i + 1))), .val (.ref b), .val (.int (Int32.ofNat (cs.length + (i + 1)))), .val (.int (Int32.ofNat ds.length)), .val (.int (Int32.ofNat (i + 1)))]) (by rw [← Nat.add_assoc, inc_ofNat, inc_ofNat]) ?_
    exact ih (i + 1) h_1 (by omega) (K.trans KK (allS (Or.inl (by simp)) all0)) K_2 K2
set_option maxRecDepth 65536 in
set_option maxHeartbeats 40000000 in
theorem ok_uinf {l : Launch} {Z : State} {a0 : Array Value} (hw : ∀ d ∈ tables_1, d.before a0 Z = true) {n0 : Nat} {ka kb : ClassId} {cs ds : List Int32} {M cap : Nat} (a b : Addr) (hab : a ≠ b) (hd : Lat ds) (hM : ds.length ≤ M) (hM2 : M ≤ 4000) (hc : cs.length + ds.length ≤ cap) (hc2 : cap ≤ 4000) (gb : n0 ≤ b) {vF : Value} {h0 : Heap} (SF : Sta Z Z.heap "jdk/internal/util/Preconditions" "SIOOBE_FORMATTER" "Ljava/util/function/BiFunction;" vF) (rF : vF.isRef = true) (SA : Sta Z Z.heap "java/lang/StringUTF16" "$assertionsDisabled" "Z" (.int 1)) (SH : Sta Z Z.heap "java/lang/StringUTF16" "HI_BYTE_SHIFT" "I" (.int 0)) (SL8 : Sta Z Z.heap "java/lang/StringUTF16" "LO_BYTE_SHIFT" "I" (.int 8)) (AA : Arv Z h0 a ka .byte (Int32.ofNat M) (bv ds) (.int 0)) (AB : Arv Z h0 b kb .byte (Int32.ofNat (2 * cap)) (ubv cs) (.int 0)) :
    Ok false l Z [] n0 [] (⟨"java/lang/StringUTF16", "inflate", "([BI[BII)V"⟩ : MethodName) jdk_52_method_86_code 6 (Option.none : Option Jvm.ClassFile.FieldType) ({ frames := 3, cells := 0, slots := 0, locals := 43 } : Room) #[(.ref a), (.int (0 : Int32)), (.ref b), (.int (Int32.ofNat cs.length)), (.int (Int32.ofNat ds.length))] h0 (fun v h => v = none ∧ Keep h0 h [b] ∧ Arv Z h b kb .byte (Int32.ofNat (2 * cap)) (ubv (cs ++ ds)) (.int 0)) (fun _ => []) := by
  refine Ok.of_run (ls0 := #[.val (.ref a), .val (.int (0 : Int32)), .val (.ref b), .val (.int (Int32.ofNat cs.length)), .val (.int (Int32.ofNat ds.length)), .unset]) (plainFor_of_name (by first | (simp [plainName, overriddenIn]; done) | decide +kernel)) (fun m => by first | (simp [entryFrame, mkF, argsToLocals, Value.category]; done) | rfl) rfl ?_
  refine Run.old fun hO => ?_
  have hn0 : n0 ≤ h0.size := hO.1 ▸ hO.2.1
  refine r_iloadN d51_0 rfl rfl ?_
  refine r_iload d51_1 rfl rfl ?_
  refine r_aloadN d51_3 rfl rfl rfl ?_
  refine r_static (y := (⟨"java/lang/StringUTF16", "checkBoundsOffCount", "(II[B)V"⟩ : MethodName)) (argsL := [(.int (Int32.ofNat cs.length)), (.int (Int32.ofNat ds.length)), (.ref b)]) (rest := []) (W := 0) (kc := 0) (ks := 0) (wl := []) d51_4 rfl (wd283 hw) (wd284 hw) (wd22 hw) (wd285 hw) (by decide) (lenOf pd_19 rfl) rfl rfl (Nat.le_of_ble_eq_true rfl) (Ok.pays (ok_ucboc hw cs.length ds.length cap hc hc2 b SF rF AB) (wd285 hw) (wd22 hw) (by decide) (by decide)) (fun v h' q => q.2 ▸ Keep.refl _ _) all0 (by decide) (by decide) ?_
  rintro _ h_1 ⟨rfl, eqh⟩
  subst h_1
  refine Run.cast (st' := []) rfl ?_
  refine r_iconst (v := 0) d51_7 rfl rfl ?_
  refine r_istore (l' := #[.val (.ref a), .val (.int (0 : Int32)), .val (.ref b), .val (.int (Int32.ofNat cs.length)), .val (.int (Int32.ofNat ds.length)), .val (.int (0 : Int32))]) d51_8 rfl rfl ?_
  refine Run.castL (ls' := #[.val (.ref a), .val (.int (Int32.ofNat 0)), .val (.ref b), .val (.int (Int32.ofNat (cs.length + 0))), .val (.int (Int32.ofNat ds.length)), .val (.int (Int32.ofNat 0))]) rfl ?_
  exact loop_inf hw a b hab hd hM hM2 hc hc2 gb SA SH SL8 (by decide) (by decide) (fun h k q => ⟨rfl, k, q⟩) ds.length 0 _ (by omega) (Keep.refl _ _) AA (by rw [List.take_zero, List.append_nil]; exact AB)
set_option maxRecDepth 65536 in
set_option maxHeartbeats 40000000 in
theorem ok_linf {l : Launch} {Z : State} {a0 : Array Value} (hw : ∀ d ∈ tables_1, d.before a0 Z = true) {n0 : Nat} {ka kb : ClassId} {cs ds : List Int32} {M cap : Nat} (a b : Addr) (hab : a ≠ b) (hd : Lat ds) (hM : ds.length ≤ M) (hM2 : M ≤ 4000) (hc : cs.length + ds.length ≤ cap) (hc2 : cap ≤ 4000) (gb : n0 ≤ b) {vF : Value} {h0 : Heap} (SF : Sta Z Z.heap "jdk/internal/util/Preconditions" "SIOOBE_FORMATTER" "Ljava/util/function/BiFunction;" vF) (rF : vF.isRef = true) (SA : Sta Z Z.heap "java/lang/StringUTF16" "$assertionsDisabled" "Z" (.int 1)) (SH : Sta Z Z.heap "java/lang/StringUTF16" "HI_BYTE_SHIFT" "I" (.int 0)) (SL8 : Sta Z Z.heap "java/lang/StringUTF16" "LO_BYTE_SHIFT" "I" (.int 8)) (AA : Arv Z h0 a ka .byte (Int32.ofNat M) (bv ds) (.int 0)) (AB : Arv Z h0 b kb .byte (Int32.ofNat (2 * cap)) (ubv cs) (.int 0)) :
    Ok false l Z [] n0 [] (⟨"java/lang/StringLatin1", "inflate", "([BI[BII)V"⟩ : MethodName) jdk_43_method_50_code 5 (Option.none : Option Jvm.ClassFile.FieldType) ({ frames := 4, cells := 0, slots := 0, locals := 60 } : Room) #[(.ref a), (.int (0 : Int32)), (.ref b), (.int (Int32.ofNat cs.length)), (.int (Int32.ofNat ds.length))] h0 (fun v h => v = none ∧ Keep h0 h [b] ∧ Arv Z h b kb .byte (Int32.ofNat (2 * cap)) (ubv (cs ++ ds)) (.int 0)) (fun _ => []) := by
  refine Ok.of_run (ls0 := #[.val (.ref a), .val (.int (0 : Int32)), .val (.ref b), .val (.int (Int32.ofNat cs.length)), .val (.int (Int32.ofNat ds.length))]) (plainFor_of_name (by first | (simp [plainName, overriddenIn]; done) | decide +kernel)) (fun m => by first | (simp [entryFrame, mkF, argsToLocals, Value.category]; done) | rfl) rfl ?_
  refine Run.old fun hO => ?_
  have hn0 : n0 ≤ h0.size := hO.1 ▸ hO.2.1
  refine r_aloadN d50_0 rfl rfl rfl ?_
  refine r_iloadN d50_1 rfl rfl ?_
  refine r_aloadN d50_2 rfl rfl rfl ?_
  refine r_iloadN d50_3 rfl rfl ?_
  refine r_iload d50_4 rfl rfl ?_
  refine r_static (y := (⟨"java/lang/StringUTF16", "inflate", "([BI[BII)V"⟩ : MethodName)) (argsL := [(.ref a), (.int (0 : Int32)), (.ref b), (.int (Int32.ofNat cs.length)), (.int (Int32.ofNat ds.length))]) (rest := []) (W := 0) (kc := 0) (ks := 0) (wl := [b]) d50_6 rfl (wd280 hw) (wd281 hw) (wd22 hw) (wd282 hw) (by decide) (lenOf pd_20 rfl) rfl rfl (Nat.le_of_ble_eq_true rfl) (Ok.pays (ok_uinf hw a b hab hd hM hM2 hc hc2 gb SF rF SA SH SL8 AA AB) (wd282 hw) (wd22 hw) (by decide) (by decide)) (fun v h' q => q.2.1) (allS ⟨gb, (Or.inl rfl)⟩ all0) (by decide) (by decide) ?_
  rintro _ h_1 ⟨rfl, q⟩
  refine Run.cast (st' := []) rfl ?_
  exact r_return d50_9 rfl ⟨rfl, q⟩ (by simp) (by decide) (by decide)
set_option maxRecDepth 65536 in
set_option maxHeartbeats 40000000 in
theorem ok_asbi {l : Launch} {Z : State} {a0 : Array Value} (hw : ∀ d ∈ tables_1, d.before a0 Z = true) {n0 : Nat} (x : Addr) (cap : Nat) (hcap : cap ≤ 16) {zC : Int32} {h0 : Heap} (SC : Sta Z Z.heap "java/lang/String" "COMPACT_STRINGS" "Z" (.int zC)) (nC : ¬ zC = 0) (E : Exa Z h0 x "java/lang/StringBuilder") (F1 : Fld Z h0 x "java/lang/AbstractStringBuilder" "value" "[B" .null) (F2 : Fld Z h0 x "java/lang/AbstractStringBuilder" "coder" "B" (.int 0)) (F3 : Fld Z h0 x "java/lang/AbstractStringBuilder" "count" "I" (.int 0)) (F4 : Fld Z h0 x "java/lang/AbstractStringBuilder" "maybeLatin1" "Z" (.int 0)) (ge : n0 ≤ x) :
    Ok false l Z [] n0 [] (⟨"java/lang/AbstractStringBuilder", "<init>", "(I)V"⟩ : MethodName) jdk_68_method_2_code 2 (Option.none : Option Jvm.ClassFile.FieldType) ({ frames := 1, cells := 1, slots := 16, locals := 12 } : Room) #[(.ref x), (.int (Int32.ofNat cap))] h0 (fun v h => v = none ∧ Keep h0 h [x] ∧ ∃ t : Addr, @LE.le Nat instLENat h0.size t ∧ SB0 Z h n0 x t [] cap) (fun _ => []) := by
  refine Ok.of_run (ls0 := #[.val (.ref x), .val (.int (Int32.ofNat cap))]) (plainFor_of_name (by first | (simp [plainName, overriddenIn]; done) | decide +kernel)) (fun m => by first | (simp [entryFrame, mkF, argsToLocals, Value.category]; done) | rfl) rfl ?_
  refine Run.old fun hO => ?_
  have hn0 : n0 ≤ h0.size := hO.1 ▸ hO.2.1
  have lt_1 : @LT.lt Nat instLTNat x (Array.size h0) := E.lt
  refine r_aloadN d15_0 rfl rfl rfl ?_
  refine r_initO (W := 0) d15_1 rfl (wd110 hw) (wd17 hw) (wd18 hw) (by decide) (Nat.le_of_ble_eq_true rfl) (by decide) ?_
  refine r_getstatic (host := "") d15_4 rfl (Or.inl (wd111 hw)) Via.refl SC ?_
  refine r_ifeq (pc2 := 25) d15_7 rfl rfl (fun cc => absurd cc nC) (fun _ => ?_)
  refine r_aloadN d15_10 rfl rfl rfl ?_
  refine r_iloadN d15_11 rfl rfl ?_
  refine r_newP (cap := 16) (ad := "[B") d15_12 rfl (wd24 hw) (ofNat_in (n := 4001) (by omega) (by omega)).1 (by rw [ofNat_cl (by omega)]; omega) (by decide) (by decide) (by decide) (by decide) ?_
  intro h_3 b_2 k_7 gb_2 ltb_2 E_4 A_5 K_6
  have szh_3 := E_4.1
  have geb_2 : n0 ≤ b_2 := by omega
  have F_8 : Fld Z h_3 x "java/lang/AbstractStringBuilder" "value" "[B" .null := (Fld.ext E_4 F1)
  have A_9 : Exa Z h_3 x "java/lang/StringBuilder" := (Exa.ext E_4 E)
  refine r_putfield (ty := (.array .byte)) (v' := (.ref b_2)) d15_14 rfl (wd112 hw) Via.refl F_8 A_9 (Or.inl (wd113 hw)) (wd99 hw) (by decide) rfl rfl ge (Or.inl rfl) ?_
  intro h_10 W_11
  have szh_10 := Wr.size W_11
  have F_12 : Fld Z h_10 x "java/lang/AbstractStringBuilder" "value" "[B" (.ref b_2) := Fld.same W_11 F_8
  refine r_aloadN d15_17 rfl rfl rfl ?_
  refine r_iconst (v := 0) d15_18 rfl rfl ?_
  have F_13 : Fld Z h_10 x "java/lang/AbstractStringBuilder" "coder" "B" (.int (0 : Int32)) := (Fld.other W_11 (Fld.ext E_4 F2) (Or.inr (slot_ne (Or.inl (wd115 hw)) (Or.inl (wd113 hw)) (by decide) (t := .byte) (t' := (.array .byte)) (by decide) (by decide))))
  have A_14 : Exa Z h_10 x "java/lang/StringBuilder" := (Exa.wr W_11 A_9)
  refine r_putfield (ty := .byte) (v' := (.int 0)) d15_19 rfl (wd114 hw) Via.refl F_13 A_14 (Or.inl (wd115 hw)) (wd99 hw) (by decide) rfl rfl ge (Or.inl rfl) ?_
  intro h_15 W_16
  have szh_15 := Wr.size W_16
  have F_17 : Fld Z h_15 x "java/lang/AbstractStringBuilder" "coder" "B" (.int 0) := Fld.same W_16 F_13
  refine r_goto (pc' := 38) d15_22 rfl ?_
  have A_18 : Exa Z h_15 x "java/lang/StringBuilder" := (Exa.wr W_16 A_14)
  have F_19 : Fld Z h_15 x "java/lang/AbstractStringBuilder" "value" "[B" (.ref b_2) := (Fld.other W_16 F_12 (Or.inr (slot_ne (Or.inl (wd113 hw)) (Or.inl (wd115 hw)) (by decide) (t := (.array .byte)) (t' := .byte) (by decide) (by decide))))
  have F_20 : Fld Z h_15 x "java/lang/AbstractStringBuilder" "count" "I" (.int (0 : Int32)) := (Fld.other W_16 (Fld.other W_11 (Fld.ext E_4 F3) (Or.inr (slot_ne (Or.inl (wd137 hw)) (Or.inl (wd113 hw)) (by decide) (t := .int) (t' := (.array .byte)) (by decide) (by decide)))) (Or.inr (slot_ne (Or.inl (wd137 hw)) (Or.inl (wd115 hw)) (by decide) (t := .int) (t' := .byte) (by decide) (by decide))))
  have F_21 : Fld Z h_15 x "java/lang/AbstractStringBuilder" "maybeLatin1" "Z" (.int (0 : Int32)) := (Fld.other W_16 (Fld.other W_11 (Fld.ext E_4 F4) (Or.inr (slot_ne (Or.inl (wd297 hw)) (Or.inl (wd113 hw)) (by decide) (t := .boolean) (t' := (.array .byte)) (by decide) (by decide)))) (Or.inr (slot_ne (Or.inl (wd297 hw)) (Or.inl (wd115 hw)) (by decide) (t := .boolean) (t' := .byte) (by decide) (by decide))))
  have ne_22 : @Ne Nat b_2 x := by omega
  have K_23 : Arv Z h_15 b_2 k_7 .byte (Int32.ofNat cap) [] (.int 0) := (Arv.other (Arv.other K_6 W_11 ne_22) W_16 ne_22)
  exact r_return d15_38 rfl ⟨rfl, (Keep.wr (Keep.wr (Keep.ext (Keep.refl _ _) E_4) W_11 (Or.inl (by simp))) W_16 (Or.inl (by simp))), b_2, by omega, ⟨A_18, F_19, F_17, F_20, F_21, ⟨_, K_23⟩, ge, geb_2, fun c hc => absurd hc List.not_mem_nil, Nat.zero_le _⟩⟩ (by simp) (by decide) (by decide)
set_option maxRecDepth 65536 in
set_option maxHeartbeats 40000000 in
theorem ok_sbi {l : Launch} {Z : State} {a0 : Array Value} (hw : ∀ d ∈ tables_1, d.before a0 Z = true) {n0 : Nat} (x : Addr) {zC : Int32} {h0 : Heap} (SC : Sta Z Z.heap "java/lang/String" "COMPACT_STRINGS" "Z" (.int zC)) (nC : ¬ zC = 0) (E : Exa Z h0 x "java/lang/StringBuilder") (F1 : Fld Z h0 x "java/lang/AbstractStringBuilder" "value" "[B" .null) (F2 : Fld Z h0 x "java/lang/AbstractStringBuilder" "coder" "B" (.int 0)) (F3 : Fld Z h0 x "java/lang/AbstractStringBuilder" "count" "I" (.int 0)) (F4 : Fld Z h0 x "java/lang/AbstractStringBuilder" "maybeLatin1" "Z" (.int 0)) (ge : n0 ≤ x) :
    Ok false l Z [] n0 [] (⟨"java/lang/StringBuilder", "<init>", "()V"⟩ : MethodName) jdk_67_method_1_code 1 (Option.none : Option Jvm.ClassFile.FieldType) ({ frames := 2, cells := 1, slots := 16, locals := 25 } : Room) #[(.ref x)] h0 (fun v h => v = none ∧ Keep h0 h [x] ∧ ∃ t : Addr, @LE.le Nat instLENat h0.size t ∧ SB0 Z h n0 x t [] 16) (fun _ => []) := by
  refine Ok.of_run (ls0 := #[.val (.ref x)]) (plainFor_of_name (by first | (simp [plainName, overriddenIn]; done) | decide +kernel)) (fun m => by first | (simp [entryFrame, mkF, argsToLocals, Value.category]; done) | rfl) rfl ?_
  refine Run.old fun hO => ?_
  have hn0 : n0 ≤ h0.size := hO.1 ▸ hO.2.1
  refine r_aloadN d14_0 rfl rfl rfl ?_
  refine r_bipush (v := 16) d14_1 rfl rfl ?_
  rw [show (16 : Int32) = (Int32.ofNat 16) from rfl]
  refine r_special (y := (⟨"java/lang/AbstractStringBuilder", "<init>", "(I)V"⟩ : MethodName)) (argsL := [(.int (Int32.ofNat 16))]) (rest := []) (W := 0) (kc := 1) (ks := 16) (wl := [x]) d14_3 rfl rfl (wd104 hw) (wd105 hw) (wd109 hw) (by decide) (lenOf pd_21 rfl) rfl rfl (Nat.le_of_ble_eq_true rfl) (Ok.pays (ok_asbi hw x 16 (by decide) SC nC E F1 F2 F3 F4 ge) (wd109 hw) (wd108 hw) (by decide) (by decide)) (fun v h' q => q.2.1) (allS ⟨ge, (Or.inl rfl)⟩ all0) (by decide) (by decide) ?_
  rintro _ h_1 ⟨rfl, q⟩
  refine Run.cast (st' := []) rfl ?_
  exact r_return d14_6 rfl ⟨rfl, q⟩ (by simp) (by decide) (by decide)
set_option maxRecDepth 65536 in
set_option maxHeartbeats 40000000 in
theorem ok_ens0 {l : Launch} {Z : State} {a0 : Array Value} (hw : ∀ d ∈ tables_1, d.before a0 Z = true) {n0 : Nat} (x t : Addr) {cs : List Int32} {cap : Nat} (hcp : cap ≤ 4000) (m : Nat) (hm : m ≤ cap) {h0 : Heap} (F : SB0 Z h0 n0 x t cs cap) :
    Ok false l Z [] n0 [] (⟨"java/lang/AbstractStringBuilder", "ensureCapacityInternal", "(I)V"⟩ : MethodName) jdk_68_method_9_code 3 (Option.none : Option Jvm.ClassFile.FieldType) ({ frames := 0, cells := 0, slots := 0, locals := 0 } : Room) #[(.ref x), (.int (Int32.ofNat m))] h0 (fun v h => v = none ∧ h = h0) (fun _ => []) := by
  refine Ok.of_run (ls0 := #[.val (.ref x), .val (.int (Int32.ofNat m)), .unset]) (plainFor_of_name (by first | (simp [plainName, overriddenIn]; done) | decide +kernel)) (fun m => by first | (simp [entryFrame, mkF, argsToLocals, Value.category]; done) | rfl) rfl ?_
  refine Run.old fun hO => ?_
  have hn0 : n0 ≤ h0.size := hO.1 ▸ hO.2.1
  obtain ⟨q_1, q_2, q_3, q_4, q_5, ⟨k_11, q_6⟩, q_7, q_8, q_9, q_10⟩ := F
  have ne_12 : x ≠ t := Exa.neArv q_1 q_6 (wd99 hw)
  have lt_13 : @LT.lt Nat instLTNat x (Array.size h0) := Exa.lt q_1
  have lt_14 : @LT.lt Nat instLTNat t (Array.size h0) := Arv.lt q_6
  refine r_aloadN d20_0 rfl rfl rfl ?_
  refine r_getfield (host := "") d20_1 rfl (Or.inl (wd112 hw)) Via.refl q_2 ?_
  refine r_arraylength d20_4 rfl q_6 ?_
  refine r_aloadN d20_5 rfl rfl rfl ?_
  refine r_getfield (host := "") d20_6 rfl (Or.inl (wd114 hw)) Via.refl q_3 ?_
  refine r_ishr d20_9 rfl ?_
  rw [show ((Int32.ofNat cap) >>> ((0 : Int32) &&& 31)) = (Int32.ofNat cap) from (shr0 _)]
  refine r_istoreN (l' := #[.val (.ref x), .val (.int (Int32.ofNat m)), .val (.int (Int32.ofNat cap))]) d20_10 rfl rfl ?_
  refine r_iloadN d20_11 rfl rfl ?_
  refine r_iloadN d20_12 rfl rfl ?_
  refine r_isub d20_13 rfl ?_
  refine r_ifle (pc2 := 38) d20_14 rfl rfl (fun _ => ?_) (fun cc => absurd cc (ofNat_sub_le hm (by omega)))
  exact r_return d20_38 rfl ⟨rfl, rfl⟩ (by simp) (by decide) (by decide)
set_option maxRecDepth 65536 in
set_option maxHeartbeats 40000000 in
theorem ok_alat0 {l : Launch} {Z : State} {a0 : Array Value} (hw : ∀ d ∈ tables_1, d.before a0 Z = true) {n0 : Nat} (x t : Addr) {cs : List Int32} {cap : Nat} {zC : Int32} {h0 : Heap} (SC : Sta Z Z.heap "java/lang/String" "COMPACT_STRINGS" "Z" (.int zC)) (nC : ¬ zC = 0) (F : SB0 Z h0 n0 x t cs cap) :
    Ok false l Z [] n0 [] (⟨"java/lang/AbstractStringBuilder", "isLatin1", "()Z"⟩ : MethodName) jdk_68_method_68_code 1 (Option.some Jvm.ClassFile.FieldType.boolean) ({ frames := 0, cells := 0, slots := 0, locals := 0 } : Room) #[(.ref x)] h0 (fun v h => v = some (.int 1) ∧ h = h0) (fun _ => []) := by
  refine Ok.of_run (ls0 := #[.val (.ref x)]) (plainFor_of_name (by first | (simp [plainName, overriddenIn]; done) | decide +kernel)) (fun m => by first | (simp [entryFrame, mkF, argsToLocals, Value.category]; done) | rfl) rfl ?_
  refine Run.old fun hO => ?_
  have hn0 : n0 ≤ h0.size := hO.1 ▸ hO.2.1
  obtain ⟨q_1, q_2, q_3, q_4, q_5, ⟨k_11, q_6⟩, q_7, q_8, q_9, q_10⟩ := F
  have ne_12 : x ≠ t := Exa.neArv q_1 q_6 (wd99 hw)
  have lt_13 : @LT.lt Nat instLTNat x (Array.size h0) := Exa.lt q_1
  have lt_14 : @LT.lt Nat instLTNat t (Array.size h0) := Arv.lt q_6
  refine r_getstatic (host := "") d31_0 rfl (Or.inl (wd111 hw)) Via.refl SC ?_
  refine r_ifeq (pc2 := 17) d31_3 rfl rfl (fun cc => absurd cc nC) (fun _ => ?_)
  refine r_aloadN d31_6 rfl rfl rfl ?_
  refine r_getfield (host := "") d31_7 rfl (Or.inl (wd114 hw)) Via.refl q_3 ?_
  refine r_ifne (pc2 := 17) d31_10 rfl rfl (fun cc => absurd rfl cc) (fun _ => ?_)
  refine r_iconst (v := 1) d31_13 rfl rfl ?_
  refine r_goto (pc' := 18) d31_14 rfl ?_
  exact r_ireturnN (t := .boolean) d31_18 rfl (by simp) ⟨rfl, rfl⟩ (by simp) (by decide) (by decide)
set_option maxRecDepth 65536 in
set_option maxHeartbeats 40000000 in
theorem ok_ens1 {l : Launch} {Z : State} {a0 : Array Value} (hw : ∀ d ∈ tables_1, d.before a0 Z = true) {n0 : Nat} (x t : Addr) {cs : List Int32} {cap : Nat} (hcp : cap ≤ 4000) (m : Nat) (hm : m ≤ cap) {h0 : Heap} (F : SB1 Z h0 n0 x t cs cap) :
    Ok false l Z [] n0 [] (⟨"java/lang/AbstractStringBuilder", "ensureCapacityInternal", "(I)V"⟩ : MethodName) jdk_68_method_9_code 3 (Option.none : Option Jvm.ClassFile.FieldType) ({ frames := 0, cells := 0, slots := 0, locals := 0 } : Room) #[(.ref x), (.int (Int32.ofNat m))] h0 (fun v h => v = none ∧ h = h0) (fun _ => []) := by
  refine Ok.of_run (ls0 := #[.val (.ref x), .val (.int (Int32.ofNat m)), .unset]) (plainFor_of_name (by first | (simp [plainName, overriddenIn]; done) | decide +kernel)) (fun m => by first | (simp [entryFrame, mkF, argsToLocals, Value.category]; done) | rfl) rfl ?_
  refine Run.old fun hO => ?_
  have hn0 : n0 ≤ h0.size := hO.1 ▸ hO.2.1
  obtain ⟨q_1, q_2, q_3, q_4, q_5, ⟨k_11, q_6⟩, q_7, q_8, q_9, q_10⟩ := F
  have ne_12 : x ≠ t := Exa.neArv q_1 q_6 (wd99 hw)
  have lt_13 : @LT.lt Nat instLTNat x (Array.size h0) := Exa.lt q_1
  have lt_14 : @LT.lt Nat instLTNat t (Array.size h0) := Arv.lt q_6
  refine r_aloadN d20_0 rfl rfl rfl ?_
  refine r_getfield (host := "") d20_1 rfl (Or.inl (wd112 hw)) Via.refl q_2 ?_
  refine r_arraylength d20_4 rfl q_6 ?_
  refine r_aloadN d20_5 rfl rfl rfl ?_
  refine r_getfield (host := "") d20_6 rfl (Or.inl (wd114 hw)) Via.refl q_3 ?_
  refine r_ishr d20_9 rfl ?_
  rw [show ((Int32.ofNat (2 * cap)) >>> ((1 : Int32) &&& 31)) = (Int32.ofNat cap) from (shr1 (by omega))]
  refine r_istoreN (l' := #[.val (.ref x), .val (.int (Int32.ofNat m)), .val (.int (Int32.ofNat cap))]) d20_10 rfl rfl ?_
  refine r_iloadN d20_11 rfl rfl ?_
  refine r_iloadN d20_12 rfl rfl ?_
  refine r_isub d20_13 rfl ?_
  refine r_ifle (pc2 := 38) d20_14 rfl rfl (fun _ => ?_) (fun cc => absurd cc (ofNat_sub_le hm (by omega)))
  exact r_return d20_38 rfl ⟨rfl, rfl⟩ (by simp) (by decide) (by decide)
set_option maxRecDepth 65536 in
set_option maxHeartbeats 40000000 in
theorem ok_alat1 {l : Launch} {Z : State} {a0 : Array Value} (hw : ∀ d ∈ tables_1, d.before a0 Z = true) {n0 : Nat} (x t : Addr) {cs : List Int32} {cap : Nat} {zC : Int32} {h0 : Heap} (SC : Sta Z Z.heap "java/lang/String" "COMPACT_STRINGS" "Z" (.int zC)) (nC : ¬ zC = 0) (F : SB1 Z h0 n0 x t cs cap) :
    Ok false l Z [] n0 [] (⟨"java/lang/AbstractStringBuilder", "isLatin1", "()Z"⟩ : MethodName) jdk_68_method_68_code 1 (Option.some Jvm.ClassFile.FieldType.boolean) ({ frames := 0, cells := 0, slots := 0, locals := 0 } : Room) #[(.ref x)] h0 (fun v h => v = some (.int 0) ∧ h = h0) (fun _ => []) := by
  refine Ok.of_run (ls0 := #[.val (.ref x)]) (plainFor_of_name (by first | (simp [plainName, overriddenIn]; done) | decide +kernel)) (fun m => by first | (simp [entryFrame, mkF, argsToLocals, Value.category]; done) | rfl) rfl ?_
  refine Run.old fun hO => ?_
  have hn0 : n0 ≤ h0.size := hO.1 ▸ hO.2.1
  obtain ⟨q_1, q_2, q_3, q_4, q_5, ⟨k_11, q_6⟩, q_7, q_8, q_9, q_10⟩ := F
  have ne_12 : x ≠ t := Exa.neArv q_1 q_6 (wd99 hw)
  have lt_13 : @LT.lt Nat instLTNat x (Array.size h0) := Exa.lt q_1
  have lt_14 : @LT.lt Nat instLTNat t (Array.size h0) := Arv.lt q_6
  refine r_getstatic (host := "") d31_0 rfl (Or.inl (wd111 hw)) Via.refl SC ?_
  refine r_ifeq (pc2 := 17) d31_3 rfl rfl (fun cc => absurd cc nC) (fun _ => ?_)
  refine r_aloadN d31_6 rfl rfl rfl ?_
  refine r_getfield (host := "") d31_7 rfl (Or.inl (wd114 hw)) Via.refl q_3 ?_
  refine r_ifne (pc2 := 17) d31_10 rfl rfl (fun _ => ?_) (fun cc => absurd cc (by decide))
  refine r_iconst (v := 0) d31_17 rfl rfl ?_
  exact r_ireturnN (t := .boolean) d31_18 rfl (by simp) ⟨rfl, rfl⟩ (by simp) (by decide) (by decide)
set_option maxRecDepth 65536 in
set_option maxHeartbeats 40000000 in
theorem ok_infl1 {l : Launch} {Z : State} {a0 : Array Value} (hw : ∀ d ∈ tables_1, d.before a0 Z = true) {n0 : Nat} (x t : Addr) {cs : List Int32} {cap : Nat} {zC : Int32} {h0 : Heap} (SC : Sta Z Z.heap "java/lang/String" "COMPACT_STRINGS" "Z" (.int zC)) (nC : ¬ zC = 0) (F : SB1 Z h0 n0 x t cs cap) :
    Ok false l Z [] n0 [] (⟨"java/lang/AbstractStringBuilder", "inflate", "()V"⟩ : MethodName) jdk_68_method_11_code 2 (Option.none : Option Jvm.ClassFile.FieldType) ({ frames := 1, cells := 0, slots := 0, locals := 12 } : Room) #[(.ref x)] h0 (fun v h => v = none ∧ h = h0) (fun _ => []) := by
  refine Ok.of_run (ls0 := #[.val (.ref x), .unset]) (plainFor_of_name (by first | (simp [plainName, overriddenIn]; done) | decide +kernel)) (fun m => by first | (simp [entryFrame, mkF, argsToLocals, Value.category]; done) | rfl) rfl ?_
  refine Run.old fun hO => ?_
  have hn0 : n0 ≤ h0.size := hO.1 ▸ hO.2.1
  obtain ⟨q_1, q_2, q_3, q_4, q_5, ⟨k_11, q_6⟩, q_7, q_8, q_9, q_10⟩ := (id F)
  have ne_12 : x ≠ t := Exa.neArv q_1 q_6 (wd99 hw)
  have lt_13 : @LT.lt Nat instLTNat x (Array.size h0) := Exa.lt q_1
  have lt_14 : @LT.lt Nat instLTNat t (Array.size h0) := Arv.lt q_6
  refine r_aloadN d47_0 rfl rfl rfl ?_
  refine r_virtualN (y := (⟨"java/lang/AbstractStringBuilder", "isLatin1", "()Z"⟩ : MethodName)) (argsL := []) (rest := []) (W := 0) (kc := 0) (ks := 0) (wl := []) d47_1 rfl (wd269 hw) (wd196 hw) (wd198 hw) (wd197 hw) (by decide) ⟨(wd141 hw), rfl⟩ q_1 (lenOf pd_3 rfl) rfl rfl (Nat.le_of_ble_eq_true rfl) (Ok.pays (ok_alat1 hw x t SC nC F) (wd199 hw) (wd108 hw) (by decide) (by decide)) (fun v h' q => q.2 ▸ Keep.refl _ _) all0 (by decide) (by decide) ?_
  rintro _ h_15 ⟨rfl, eqh⟩
  subst h_15
  refine Run.cast (st' := [(.int (0 : Int32))]) rfl ?_
  refine r_ifne (pc2 := 8) d47_4 rfl rfl (fun cc => absurd rfl cc) (fun _ => ?_)
  exact r_return d47_7 rfl ⟨rfl, rfl⟩ (by simp) (by decide) (by decide)
set_option maxRecDepth 65536 in
set_option maxHeartbeats 40000000 in
theorem ok_infl0 {l : Launch} {Z : State} {a0 : Array Value} (hw : ∀ d ∈ tables_1, d.before a0 Z = true) {n0 : Nat} (x t : Addr) {cs : List Int32} {cap : Nat} (hcap : cap ≤ 16) {zC : Int32} {vF : Value} {h0 : Heap} (SC : Sta Z Z.heap "java/lang/String" "COMPACT_STRINGS" "Z" (.int zC)) (nC : ¬ zC = 0) (SF : Sta Z Z.heap "jdk/internal/util/Preconditions" "SIOOBE_FORMATTER" "Ljava/util/function/BiFunction;" vF) (rF : vF.isRef = true) (SA : Sta Z Z.heap "java/lang/StringUTF16" "$assertionsDisabled" "Z" (.int 1)) (SH : Sta Z Z.heap "java/lang/StringUTF16" "HI_BYTE_SHIFT" "I" (.int 0)) (SL8 : Sta Z Z.heap "java/lang/StringUTF16" "LO_BYTE_SHIFT" "I" (.int 8)) (F : SB0 Z h0 n0 x t cs cap) :
    Ok false l Z [] n0 [] (⟨"java/lang/AbstractStringBuilder", "inflate", "()V"⟩ : MethodName) jdk_68_method_11_code 2 (Option.none : Option Jvm.ClassFile.FieldType) ({ frames := 5, cells := 1, slots := 32, locals := 76 } : Room) #[(.ref x)] h0 (fun v h => v = none ∧ Keep h0 h [x] ∧ ∃ b : Addr, @LE.le Nat instLENat h0.size b ∧ SB1 Z h n0 x b cs cap) (fun _ => []) := by
  refine Ok.of_run (ls0 := #[.val (.ref x), .unset]) (plainFor_of_name (by first | (simp [plainName, overriddenIn]; done) | decide +kernel)) (fun m => by first | (simp [entryFrame, mkF, argsToLocals, Value.category]; done) | rfl) rfl ?_
  refine Run.old fun hO => ?_
  have hn0 : n0 ≤ h0.size := hO.1 ▸ hO.2.1
  obtain ⟨q_1, q_2, q_3, q_4, q_5, ⟨k_11, q_6⟩, q_7, q_8, q_9, q_10⟩ := (id F)
  have ne_12 : x ≠ t := Exa.neArv q_1 q_6 (wd99 hw)
  have lt_13 : @LT.lt Nat instLTNat x (Array.size h0) := Exa.lt q_1
  have lt_14 : @LT.lt Nat instLTNat t (Array.size h0) := Arv.lt q_6
  refine r_aloadN d47_0 rfl rfl rfl ?_
  refine r_virtualN (y := (⟨"java/lang/AbstractStringBuilder", "isLatin1", "()Z"⟩ : MethodName)) (argsL := []) (rest := []) (W := 0) (kc := 0) (ks := 0) (wl := []) d47_1 rfl (wd269 hw) (wd196 hw) (wd198 hw) (wd197 hw) (by decide) ⟨(wd141 hw), rfl⟩ q_1 (lenOf pd_3 rfl) rfl rfl (Nat.le_of_ble_eq_true rfl) (Ok.pays (ok_alat0 hw x t SC nC F) (wd199 hw) (wd108 hw) (by decide) (by decide)) (fun v h' q => q.2 ▸ Keep.refl _ _) all0 (by decide) (by decide) ?_
  rintro _ h_15 ⟨rfl, eqh⟩
  subst h_15
  refine Run.cast (st' := [(.int (1 : Int32))]) rfl ?_
  refine r_ifne (pc2 := 8) d47_4 rfl rfl (fun _ => ?_) (fun cc => absurd cc (by decide))
  refine r_aloadN d47_8 rfl rfl rfl ?_
  refine r_getfield (host := "") d47_9 rfl (Or.inl (wd112 hw)) Via.refl q_2 ?_
  refine r_arraylength d47_12 rfl q_6 ?_
  refine r_static (y := (⟨"java/lang/StringUTF16", "newBytesFor", "(I)[B"⟩ : MethodName)) (argsL := [(.int (Int32.ofNat cap))]) (rest := []) (W := 0) (kc := 1) (ks := 32) (wl := []) d47_13 rfl (wd270 hw) (wd271 hw) (wd22 hw) (wd272 hw) (by decide) (lenOf pd_9 rfl) rfl rfl (Nat.le_of_ble_eq_true rfl) (Ok.pays (ok_nbf hw cap hcap) (wd272 hw) (wd22 hw) (by decide) (by decide)) (fun v h' q => by obtain ⟨_, _, _, K, _⟩ := q; exact K) all0 (by decide) (by decide) ?_
  rintro _ h_22 ⟨b_16, k_17, rfl, KK_18, hge_19, K_20, E_21⟩
  refine Run.cast (st' := [(.ref b_16)]) rfl ?_
  have szh_22 := KK_18.1
  have lt_23 : @LT.lt Nat instLTNat b_16 (Array.size h_22) := K_20.lt
  have gb_16 : n0 ≤ b_16 := by omega
  have ne_24 : @Ne Nat t b_16 := by omega
  have ne_25 : @Ne Nat x b_16 := by omega
  refine r_astoreN (l' := #[.val (.ref x), .val (.ref b_16)]) d47_16 rfl rfl rfl ?_
  refine r_aloadN d47_17 rfl rfl rfl ?_
  have F_26 : Fld Z h_22 x "java/lang/AbstractStringBuilder" "value" "[B" (.ref t) := (Fld.keep q_2 KK_18 nin0)
  refine r_getfield (host := "") d47_18 rfl (Or.inl (wd112 hw)) Via.refl F_26 ?_
  refine r_iconst (v := 0) d47_21 rfl rfl ?_
  refine r_aloadN d47_22 rfl rfl rfl ?_
  refine r_iconst (v := 0) d47_23 rfl rfl ?_
  refine r_aloadN d47_24 rfl rfl rfl ?_
  have F_27 : Fld Z h_22 x "java/lang/AbstractStringBuilder" "count" "I" (.int (Int32.ofNat cs.length)) := (Fld.keep q_4 KK_18 nin0)
  refine r_getfield (host := "") d47_25 rfl (Or.inl (wd136 hw)) Via.refl F_27 ?_
  have K_28 : Arv Z h_22 b_16 k_17 .byte (Int32.ofNat (2 * cap)) (ubv []) (.int 0) := Arv.pad K_20 (by intro q; have e := pad_rep [] (.int 0) (2 * cap) q; rw [List.nil_append] at e; exact e.symm)
  refine Run.cast (st' := [(.int (Int32.ofNat cs.length)), (.int (Int32.ofNat ([] : List Int32).length)), (.ref b_16), (.int (0 : Int32)), (.ref t)]) rfl ?_
  have K_29 : Arv Z h_22 t k_11 .byte (Int32.ofNat cap) (bv cs) (.int 0) := (Arv.keep q_6 KK_18 nin0)
  refine r_static (y := (⟨"java/lang/StringLatin1", "inflate", "([BI[BII)V"⟩ : MethodName)) (argsL := [(.ref t), (.int (0 : Int32)), (.ref b_16), (.int (Int32.ofNat ([] : List Int32).length)), (.int (Int32.ofNat cs.length))]) (rest := []) (W := 0) (kc := 0) (ks := 0) (wl := [b_16]) d47_28 rfl (wd277 hw) (wd278 hw) (wd230 hw) (wd279 hw) (by decide) (lenOf pd_20 rfl) rfl rfl (Nat.le_of_ble_eq_true rfl) (Ok.pays (ok_linf hw t b_16 (cs := []) ne_24 q_9 q_10 (by omega) (by rw [List.length_nil]; omega) (by omega) gb_16 SF rF SA SH SL8 K_29 K_28) (wd279 hw) (wd230 hw) (by decide) (by decide)) (fun v h' q => q.2.1) (allS ⟨gb_16, (Or.inl rfl)⟩ all0) (by decide) (by decide) ?_
  rintro _ h_30 ⟨rfl, KK_, K_⟩
  refine Run.cast (st' := []) rfl ?_
  have szh_30 := KK_.1
  refine r_aloadN d47_31 rfl rfl rfl ?_
  refine r_aloadN d47_32 rfl rfl rfl ?_
  have F_31 : Fld Z h_30 x "java/lang/AbstractStringBuilder" "value" "[B" (.ref t) := (Fld.keep F_26 KK_ (ninS ne_25 nin0))
  have A_32 : Exa Z h_30 x "java/lang/StringBuilder" := (Exa.keep (Exa.keep q_1 KK_18) KK_)
  refine r_putfield (ty := (.array .byte)) (v' := (.ref b_16)) d47_33 rfl (wd112 hw) Via.refl F_31 A_32 (Or.inl (wd113 hw)) (wd99 hw) (by decide) rfl rfl q_7 (Or.inl rfl) ?_
  intro h_33 W_34
  have szh_33 := Wr.size W_34
  have F_35 : Fld Z h_33 x "java/lang/AbstractStringBuilder" "value" "[B" (.ref b_16) := Fld.same W_34 F_31
  refine r_aloadN d47_36 rfl rfl rfl ?_
  refine r_iconst (v := 1) d47_37 rfl rfl ?_
  have F_36 : Fld Z h_33 x "java/lang/AbstractStringBuilder" "coder" "B" (.int (0 : Int32)) := (Fld.other W_34 (Fld.keep (Fld.keep q_3 KK_18 nin0) KK_ (ninS ne_25 nin0)) (Or.inr (slot_ne (Or.inl (wd115 hw)) (Or.inl (wd113 hw)) (by decide) (t := .byte) (t' := (.array .byte)) (by decide) (by decide))))
  have A_37 : Exa Z h_33 x "java/lang/StringBuilder" := (Exa.wr W_34 A_32)
  refine r_putfield (ty := .byte) (v' := (.int 1)) d47_38 rfl (wd114 hw) Via.refl F_36 A_37 (Or.inl (wd115 hw)) (wd99 hw) (by decide) rfl rfl q_7 (Or.inl rfl) ?_
  intro h_38 W_39
  have szh_38 := Wr.size W_39
  have F_40 : Fld Z h_38 x "java/lang/AbstractStringBuilder" "coder" "B" (.int 1) := Fld.same W_39 F_36
  have A_41 : Exa Z h_38 x "java/lang/StringBuilder" := (Exa.wr W_39 A_37)
  have F_42 : Fld Z h_38 x "java/lang/AbstractStringBuilder" "value" "[B" (.ref b_16) := (Fld.other W_39 F_35 (Or.inr (slot_ne (Or.inl (wd113 hw)) (Or.inl (wd115 hw)) (by decide) (t := (.array .byte)) (t' := .byte) (by decide) (by decide))))
  have F_43 : Fld Z h_38 x "java/lang/AbstractStringBuilder" "count" "I" (.int (Int32.ofNat cs.length)) := (Fld.other W_39 (Fld.other W_34 (Fld.keep F_27 KK_ (ninS ne_25 nin0)) (Or.inr (slot_ne (Or.inl (wd137 hw)) (Or.inl (wd113 hw)) (by decide) (t := .int) (t' := (.array .byte)) (by decide) (by decide)))) (Or.inr (slot_ne (Or.inl (wd137 hw)) (Or.inl (wd115 hw)) (by decide) (t := .int) (t' := .byte) (by decide) (by decide))))
  have F_44 : Fld Z h_38 x "java/lang/AbstractStringBuilder" "maybeLatin1" "Z" (.int (0 : Int32)) := (Fld.other W_39 (Fld.other W_34 (Fld.keep (Fld.keep q_5 KK_18 nin0) KK_ (ninS ne_25 nin0)) (Or.inr (slot_ne (Or.inl (wd297 hw)) (Or.inl (wd113 hw)) (by decide) (t := .boolean) (t' := (.array .byte)) (by decide) (by decide)))) (Or.inr (slot_ne (Or.inl (wd297 hw)) (Or.inl (wd115 hw)) (by decide) (t := .boolean) (t' := .byte) (by decide) (by decide))))
  have K_45 : Arv Z h_38 b_16 k_17 .byte (Int32.ofNat (2 * cap)) (ubv cs) (.int 0) := (Arv.other (Arv.other K_ W_34 (Ne.symm ne_25)) W_39 (Ne.symm ne_25))
  exact r_return d47_41 rfl ⟨rfl, (Keep.wr (Keep.wr (Keep.trans (Keep.trans (Keep.refl _ _) KK_18 all0) KK_ (allS (Or.inr (by omega)) all0)) W_34 (Or.inl (by simp))) W_39 (Or.inl (by simp))), b_16, by omega, ⟨A_41, F_42, F_40, F_43, F_44, ⟨_, K_45⟩, q_7, gb_16, Lat.uni q_9, q_10⟩⟩ (by simp) (by decide) (by decide)
set_option maxRecDepth 65536 in
set_option maxHeartbeats 40000000 in
theorem ok_iin00 {l : Launch} {Z : State} {a0 : Array Value} (hw : ∀ d ∈ tables_1, d.before a0 Z = true) {n0 : Nat} (x t a ta : Addr) {cs ds : List Int32} {cap : Nat} (hcap : cap ≤ 16) {zC : Int32} {vF : Value} {h0 : Heap} (SC : Sta Z Z.heap "java/lang/String" "COMPACT_STRINGS" "Z" (.int zC)) (nC : ¬ zC = 0) (SF : Sta Z Z.heap "jdk/internal/util/Preconditions" "SIOOBE_FORMATTER" "Ljava/util/function/BiFunction;" vF) (rF : vF.isRef = true) (SA : Sta Z Z.heap "java/lang/StringUTF16" "$assertionsDisabled" "Z" (.int 1)) (SH : Sta Z Z.heap "java/lang/StringUTF16" "HI_BYTE_SHIFT" "I" (.int 0)) (SL8 : Sta Z Z.heap "java/lang/StringUTF16" "LO_BYTE_SHIFT" "I" (.int 8)) (F : SB0 Z h0 n0 x t cs cap) (G : StrL Z h0 a ta ds) :
    Ok false l Z [] n0 [] (⟨"java/lang/AbstractStringBuilder", "inflateIfNeededFor", "(Ljava/lang/String;)V"⟩ : MethodName) jdk_68_method_71_code 2 (Option.none : Option Jvm.ClassFile.FieldType) ({ frames := 1, cells := 0, slots := 0, locals := 13 } : Room) #[(.ref x), (.ref a)] h0 (fun v h => v = none ∧ h = h0) (fun _ => []) := by
  refine Ok.of_run (ls0 := #[.val (.ref x), .val (.ref a)]) (plainFor_of_name (by first | (simp [plainName, overriddenIn]; done) | decide +kernel)) (fun m => by first | (simp [entryFrame, mkF, argsToLocals, Value.category]; done) | rfl) rfl ?_
  refine Run.old fun hO => ?_
  have hn0 : n0 ≤ h0.size := hO.1 ▸ hO.2.1
  obtain ⟨q_1, q_2, q_3, q_4, q_5, ⟨k_11, q_6⟩, q_7, q_8, q_9, q_10⟩ := (id F)
  have ne_12 : x ≠ t := Exa.neArv q_1 q_6 (wd99 hw)
  have lt_13 : @LT.lt Nat instLTNat x (Array.size h0) := Exa.lt q_1
  have lt_14 : @LT.lt Nat instLTNat t (Array.size h0) := Arv.lt q_6
  have lt_15 : @LT.lt Nat instLTNat a (Array.size h0) := (StrL.lt G)
  have lt_16 : @LT.lt Nat instLTNat ta (Array.size h0) := (StrL.ltB G)
  refine r_getstatic (host := "") d22_0 rfl (Or.inl (wd111 hw)) Via.refl SC ?_
  refine r_ifeq (pc2 := 21) d22_3 rfl rfl (fun cc => absurd cc nC) (fun _ => ?_)
  refine r_aloadN d22_6 rfl rfl rfl ?_
  refine r_getfield (host := "") d22_7 rfl (Or.inl (wd114 hw)) Via.refl q_3 ?_
  refine r_aloadN d22_10 rfl rfl rfl ?_
  refine r_virtual (y := (⟨"java/lang/String", "coder", "()B"⟩ : MethodName)) (argsL := []) (rest := [(.int (0 : Int32))]) (W := 1) (kc := 0) (ks := 0) (wl := []) d22_11 rfl (wd153 hw) (wd132 hw) (wd134 hw) (wd133 hw) (by decide) ⟨rfl, rfl⟩ (StrL.exa G) (lenOf pd_0 rfl) rfl rfl (Nat.le_of_ble_eq_true rfl) (Ok.pays (ok_coder hw a SC nC G.coder) (wd135 hw) (wd6 hw) (by decide) (by decide)) (fun v h' q => q.2 ▸ Keep.refl _ _) all0 (by decide) (by decide) ?_
  rintro _ h_17 ⟨rfl, eqh⟩
  subst h_17
  refine Run.cast (st' := [(.int (0 : Int32)), (.int (0 : Int32))]) rfl ?_
  refine r_icmpeq (pc2 := 21) d22_14 rfl rfl (fun _ => ?_) (fun cc => absurd rfl cc)
  exact r_return d22_21 rfl ⟨rfl, rfl⟩ (by simp) (by decide) (by decide)
set_option maxRecDepth 65536 in
set_option maxHeartbeats 40000000 in
theorem ok_iin01 {l : Launch} {Z : State} {a0 : Array Value} (hw : ∀ d ∈ tables_1, d.before a0 Z = true) {n0 : Nat} (x t a ta : Addr) {cs ds : List Int32} {cap : Nat} (hcap : cap ≤ 16) {zC : Int32} {vF : Value} {h0 : Heap} (SC : Sta Z Z.heap "java/lang/String" "COMPACT_STRINGS" "Z" (.int zC)) (nC : ¬ zC = 0) (SF : Sta Z Z.heap "jdk/internal/util/Preconditions" "SIOOBE_FORMATTER" "Ljava/util/function/BiFunction;" vF) (rF : vF.isRef = true) (SA : Sta Z Z.heap "java/lang/StringUTF16" "$assertionsDisabled" "Z" (.int 1)) (SH : Sta Z Z.heap "java/lang/StringUTF16" "HI_BYTE_SHIFT" "I" (.int 0)) (SL8 : Sta Z Z.heap "java/lang/StringUTF16" "LO_BYTE_SHIFT" "I" (.int 8)) (F : SB0 Z h0 n0 x t cs cap) (G : StrU Z h0 a ta ds) :
    Ok false l Z [] n0 [] (⟨"java/lang/AbstractStringBuilder", "inflateIfNeededFor", "(Ljava/lang/String;)V"⟩ : MethodName) jdk_68_method_71_code 2 (Option.none : Option Jvm.ClassFile.FieldType) ({ frames := 6, cells := 1, slots := 32, locals := 89 } : Room) #[(.ref x), (.ref a)] h0 (fun v h => v = none ∧ Keep h0 h [x] ∧ ∃ b : Addr, @LE.le Nat instLENat h0.size b ∧ SB1 Z h n0 x b cs cap) (fun _ => []) := by
  refine Ok.of_run (ls0 := #[.val (.ref x), .val (.ref a)]) (plainFor_of_name (by first | (simp [plainName, overriddenIn]; done) | decide +kernel)) (fun m => by first | (simp [entryFrame, mkF, argsToLocals, Value.category]; done) | rfl) rfl ?_
  refine Run.old fun hO => ?_
  have hn0 : n0 ≤ h0.size := hO.1 ▸ hO.2.1
  obtain ⟨q_1, q_2, q_3, q_4, q_5, ⟨k_11, q_6⟩, q_7, q_8, q_9, q_10⟩ := (id F)
  have ne_12 : x ≠ t := Exa.neArv q_1 q_6 (wd99 hw)
  have lt_13 : @LT.lt Nat instLTNat x (Array.size h0) := Exa.lt q_1
  have lt_14 : @LT.lt Nat instLTNat t (Array.size h0) := Arv.lt q_6
  have lt_15 : @LT.lt Nat instLTNat a (Array.size h0) := (StrU.lt G)
  have lt_16 : @LT.lt Nat instLTNat ta (Array.size h0) := (StrU.ltB G)
  refine r_getstatic (host := "") d22_0 rfl (Or.inl (wd111 hw)) Via.refl SC ?_
  refine r_ifeq (pc2 := 21) d22_3 rfl rfl (fun cc => absurd cc nC) (fun _ => ?_)
  refine r_aloadN d22_6 rfl rfl rfl ?_
  refine r_getfield (host := "") d22_7 rfl (Or.inl (wd114 hw)) Via.refl q_3 ?_
  refine r_aloadN d22_10 rfl rfl rfl ?_
  refine r_virtual (y := (⟨"java/lang/String", "coder", "()B"⟩ : MethodName)) (argsL := []) (rest := [(.int (0 : Int32))]) (W := 1) (kc := 0) (ks := 0) (wl := []) d22_11 rfl (wd153 hw) (wd132 hw) (wd134 hw) (wd133 hw) (by decide) ⟨rfl, rfl⟩ (StrU.exa G) (lenOf pd_0 rfl) rfl rfl (Nat.le_of_ble_eq_true rfl) (Ok.pays (ok_coder1 hw a SC nC G.coder) (wd135 hw) (wd6 hw) (by decide) (by decide)) (fun v h' q => q.2 ▸ Keep.refl _ _) all0 (by decide) (by decide) ?_
  rintro _ h_17 ⟨rfl, eqh⟩
  subst h_17
  refine Run.cast (st' := [(.int (1 : Int32)), (.int (0 : Int32))]) rfl ?_
  refine r_icmpeq (pc2 := 21) d22_14 rfl rfl (fun cc => absurd cc (by decide)) (fun _ => ?_)
  refine r_aloadN d22_17 rfl rfl rfl ?_
  refine r_private (y := (⟨"java/lang/AbstractStringBuilder", "inflate", "()V"⟩ : MethodName)) (argsL := []) (rest := []) (W := 0) (kc := 1) (ks := 32) (wl := [x]) d22_18 rfl (wd264 hw) (wd265 hw) (selP2 (wd266 hw) (wd265 hw) (wd267 hw) (by decide)) (wd266 hw) (wd268 hw) (by decide) q_1 (lenOf pd_22 rfl) rfl rfl (Nat.le_of_ble_eq_true rfl) (Ok.pays (ok_infl0 hw x t hcap SC nC SF rF SA SH SL8 F) (wd268 hw) (wd108 hw) (by decide) (by decide)) (fun v h' q => q.2.1) (allS ⟨q_7, (Or.inl rfl)⟩ all0) (by decide) (by decide) ?_
  rintro _ h_18 ⟨rfl, q⟩
  refine Run.cast (st' := []) rfl ?_
  exact r_return d22_21 rfl ⟨rfl, q⟩ (by simp) (by decide) (by decide)
set_option maxRecDepth 65536 in
set_option maxHeartbeats 40000000 in
theorem ok_iin10 {l : Launch} {Z : State} {a0 : Array Value} (hw : ∀ d ∈ tables_1, d.before a0 Z = true) {n0 : Nat} (x t a ta : Addr) {cs ds : List Int32} {cap : Nat} (hcap : cap ≤ 16) {zC : Int32} {vF : Value} {h0 : Heap} (SC : Sta Z Z.heap "java/lang/String" "COMPACT_STRINGS" "Z" (.int zC)) (nC : ¬ zC = 0) (SF : Sta Z Z.heap "jdk/internal/util/Preconditions" "SIOOBE_FORMATTER" "Ljava/util/function/BiFunction;" vF) (rF : vF.isRef = true) (SA : Sta Z Z.heap "java/lang/StringUTF16" "$assertionsDisabled" "Z" (.int 1)) (SH : Sta Z Z.heap "java/lang/StringUTF16" "HI_BYTE_SHIFT" "I" (.int 0)) (SL8 : Sta Z Z.heap "java/lang/StringUTF16" "LO_BYTE_SHIFT" "I" (.int 8)) (F : SB1 Z h0 n0 x t cs cap) (G : StrL Z h0 a ta ds) :
    Ok false l Z [] n0 [] (⟨"java/lang/AbstractStringBuilder", "inflateIfNeededFor", "(Ljava/lang/String;)V"⟩ : MethodName) jdk_68_method_71_code 2 (Option.none : Option Jvm.ClassFile.FieldType) ({ frames := 2, cells := 0, slots := 0, locals := 25 } : Room) #[(.ref x), (.ref a)] h0 (fun v h => v = none ∧ h = h0) (fun _ => []) := by
  refine Ok.of_run (ls0 := #[.val (.ref x), .val (.ref a)]) (plainFor_of_name (by first | (simp [plainName, overriddenIn]; done) | decide +kernel)) (fun m => by first | (simp [entryFrame, mkF, argsToLocals, Value.category]; done) | rfl) rfl ?_
  refine Run.old fun hO => ?_
  have hn0 : n0 ≤ h0.size := hO.1 ▸ hO.2.1
  obtain ⟨q_1, q_2, q_3, q_4, q_5, ⟨k_11, q_6⟩, q_7, q_8, q_9, q_10⟩ := (id F)
  have ne_12 : x ≠ t := Exa.neArv q_1 q_6 (wd99 hw)
  have lt_13 : @LT.lt Nat instLTNat x (Array.size h0) := Exa.lt q_1
  have lt_14 : @LT.lt Nat instLTNat t (Array.size h0) := Arv.lt q_6
  have lt_15 : @LT.lt Nat instLTNat a (Array.size h0) := (StrL.lt G)
  have lt_16 : @LT.lt Nat instLTNat ta (Array.size h0) := (StrL.ltB G)
  refine r_getstatic (host := "") d22_0 rfl (Or.inl (wd111 hw)) Via.refl SC ?_
  refine r_ifeq (pc2 := 21) d22_3 rfl rfl (fun cc => absurd cc nC) (fun _ => ?_)
  refine r_aloadN d22_6 rfl rfl rfl ?_
  refine r_getfield (host := "") d22_7 rfl (Or.inl (wd114 hw)) Via.refl q_3 ?_
  refine r_aloadN d22_10 rfl rfl rfl ?_
  refine r_virtual (y := (⟨"java/lang/String", "coder", "()B"⟩ : MethodName)) (argsL := []) (rest := [(.int (1 : Int32))]) (W := 1) (kc := 0) (ks := 0) (wl := []) d22_11 rfl (wd153 hw) (wd132 hw) (wd134 hw) (wd133 hw) (by decide) ⟨rfl, rfl⟩ (StrL.exa G) (lenOf pd_0 rfl) rfl rfl (Nat.le_of_ble_eq_true rfl) (Ok.pays (ok_coder hw a SC nC G.coder) (wd135 hw) (wd6 hw) (by decide) (by decide)) (fun v h' q => q.2 ▸ Keep.refl _ _) all0 (by decide) (by decide) ?_
  rintro _ h_17 ⟨rfl, eqh⟩
  subst h_17
  refine Run.cast (st' := [(.int (0 : Int32)), (.int (1 : Int32))]) rfl ?_
  refine r_icmpeq (pc2 := 21) d22_14 rfl rfl (fun cc => absurd cc (by decide)) (fun _ => ?_)
  refine r_aloadN d22_17 rfl rfl rfl ?_
  refine r_private (y := (⟨"java/lang/AbstractStringBuilder", "inflate", "()V"⟩ : MethodName)) (argsL := []) (rest := []) (W := 0) (kc := 0) (ks := 0) (wl := []) d22_18 rfl (wd264 hw) (wd265 hw) (selP2 (wd266 hw) (wd265 hw) (wd267 hw) (by decide)) (wd266 hw) (wd268 hw) (by decide) q_1 (lenOf pd_22 rfl) rfl rfl (Nat.le_of_ble_eq_true rfl) (Ok.pays (ok_infl1 hw x t SC nC F) (wd268 hw) (wd108 hw) (by decide) (by decide)) (fun v h' q => q.2 ▸ Keep.refl _ _) all0 (by decide) (by decide) ?_
  rintro _ h_18 ⟨rfl, eqh⟩
  subst h_18
  refine Run.cast (st' := []) rfl ?_
  exact r_return d22_21 rfl ⟨rfl, rfl⟩ (by simp) (by decide) (by decide)
set_option maxRecDepth 65536 in
set_option maxHeartbeats 40000000 in
theorem ok_iin11 {l : Launch} {Z : State} {a0 : Array Value} (hw : ∀ d ∈ tables_1, d.before a0 Z = true) {n0 : Nat} (x t a ta : Addr) {cs ds : List Int32} {cap : Nat} (hcap : cap ≤ 16) {zC : Int32} {vF : Value} {h0 : Heap} (SC : Sta Z Z.heap "java/lang/String" "COMPACT_STRINGS" "Z" (.int zC)) (nC : ¬ zC = 0) (SF : Sta Z Z.heap "jdk/internal/util/Preconditions" "SIOOBE_FORMATTER" "Ljava/util/function/BiFunction;" vF) (rF : vF.isRef = true) (SA : Sta Z Z.heap "java/lang/StringUTF16" "$assertionsDisabled" "Z" (.int 1)) (SH : Sta Z Z.heap "java/lang/StringUTF16" "HI_BYTE_SHIFT" "I" (.int 0)) (SL8 : Sta Z Z.heap "java/lang/StringUTF16" "LO_BYTE_SHIFT" "I" (.int 8)) (F : SB1 Z h0 n0 x t cs cap) (G : StrU Z h0 a ta ds) :
    Ok false l Z [] n0 [] (⟨"java/lang/AbstractStringBuilder", "inflateIfNeededFor", "(Ljava/lang/String;)V"⟩ : MethodName) jdk_68_method_71_code 2 (Option.none : Option Jvm.ClassFile.FieldType) ({ frames := 1, cells := 0, slots := 0, locals := 13 } : Room) #[(.ref x), (.ref a)] h0 (fun v h => v = none ∧ h = h0) (fun _ => []) := by
  refine Ok.of_run (ls0 := #[.val (.ref x), .val (.ref a)]) (plainFor_of_name (by first | (simp [plainName, overriddenIn]; done) | decide +kernel)) (fun m => by first | (simp [entryFrame, mkF, argsToLocals, Value.category]; done) | rfl) rfl ?_
  refine Run.old fun hO => ?_
  have hn0 : n0 ≤ h0.size := hO.1 ▸ hO.2.1
  obtain ⟨q_1, q_2, q_3, q_4, q_5, ⟨k_11, q_6⟩, q_7, q_8, q_9, q_10⟩ := (id F)
  have ne_12 : x ≠ t := Exa.neArv q_1 q_6 (wd99 hw)
  have lt_13 : @LT.lt Nat instLTNat x (Array.size h0) := Exa.lt q_1
  have lt_14 : @LT.lt Nat instLTNat t (Array.size h0) := Arv.lt q_6
  have lt_15 : @LT.lt Nat instLTNat a (Array.size h0) := (StrU.lt G)
  have lt_16 : @LT.lt Nat instLTNat ta (Array.size h0) := (StrU.ltB G)
  refine r_getstatic (host := "") d22_0 rfl (Or.inl (wd111 hw)) Via.refl SC ?_
  refine r_ifeq (pc2 := 21) d22_3 rfl rfl (fun cc => absurd cc nC) (fun _ => ?_)
  refine r_aloadN d22_6 rfl rfl rfl ?_
  refine r_getfield (host := "") d22_7 rfl (Or.inl (wd114 hw)) Via.refl q_3 ?_
  refine r_aloadN d22_10 rfl rfl rfl ?_
  refine r_virtual (y := (⟨"java/lang/String", "coder", "()B"⟩ : MethodName)) (argsL := []) (rest := [(.int (1 : Int32))]) (W := 1) (kc := 0) (ks := 0) (wl := []) d22_11 rfl (wd153 hw) (wd132 hw) (wd134 hw) (wd133 hw) (by decide) ⟨rfl, rfl⟩ (StrU.exa G) (lenOf pd_0 rfl) rfl rfl (Nat.le_of_ble_eq_true rfl) (Ok.pays (ok_coder1 hw a SC nC G.coder) (wd135 hw) (wd6 hw) (by decide) (by decide)) (fun v h' q => q.2 ▸ Keep.refl _ _) all0 (by decide) (by decide) ?_
  rintro _ h_17 ⟨rfl, eqh⟩
  subst h_17
  refine Run.cast (st' := [(.int (1 : Int32)), (.int (1 : Int32))]) rfl ?_
  refine r_icmpeq (pc2 := 21) d22_14 rfl rfl (fun _ => ?_) (fun cc => absurd rfl cc)
  exact r_return d22_21 rfl ⟨rfl, rfl⟩ (by simp) (by decide) (by decide)
set_option maxRecDepth 65536 in
set_option maxHeartbeats 40000000 in
theorem ok_gb00 {l : Launch} {Z : State} {a0 : Array Value} (hw : ∀ d ∈ tables_1, d.before a0 Z = true) {n0 : Nat} (a ta t : Addr) {k : ClassId} {cs ds : List Int32} {cap : Nat} (hcap : cap ≤ 4000) (hc : cs.length + ds.length ≤ cap) (hd : Lat ds) (hne : t ≠ ta) (gt : n0 ≤ t) {zC : Int32} {vF : Value} {h0 : Heap} (SC : Sta Z Z.heap "java/lang/String" "COMPACT_STRINGS" "Z" (.int zC)) (nC : ¬ zC = 0) (SF : Sta Z Z.heap "jdk/internal/util/Preconditions" "SIOOBE_FORMATTER" "Ljava/util/function/BiFunction;" vF) (rF : vF.isRef = true) (SA : Sta Z Z.heap "java/lang/StringUTF16" "$assertionsDisabled" "Z" (.int 1)) (SH : Sta Z Z.heap "java/lang/StringUTF16" "HI_BYTE_SHIFT" "I" (.int 0)) (SL8 : Sta Z Z.heap "java/lang/StringUTF16" "LO_BYTE_SHIFT" "I" (.int 8)) (G : StrL Z h0 a ta ds) (K : Arv Z h0 t k .byte (Int32.ofNat cap) (bv cs) (.int 0)) :
    Ok false l Z [] n0 [] (⟨"java/lang/String", "getBytes", "([BIB)V"⟩ : MethodName) jdk_42_method_147_code 4 (Option.none : Option Jvm.ClassFile.FieldType) ({ frames := 1, cells := 0, slots := 0, locals := 20 } : Room) #[(.ref a), (.ref t), (.int (Int32.ofNat cs.length)), (.int (0 : Int32))] h0 (fun v h => v = none ∧ Keep h0 h [t] ∧ Arv Z h t k .byte (Int32.ofNat cap) (bv (cs ++ ds)) (.int 0)) (fun _ => []) := by
  refine Ok.of_run (ls0 := #[.val (.ref a), .val (.ref t), .val (.int (Int32.ofNat cs.length)), .val (.int (0 : Int32))]) (plainFor_of_name (by first | (simp [plainName, overriddenIn]; done) | decide +kernel)) (fun m => by first | (simp [entryFrame, mkF, argsToLocals, Value.category]; done) | rfl) rfl ?_
  refine Run.old fun hO => ?_
  have hn0 : n0 ≤ h0.size := hO.1 ▸ hO.2.1
  obtain ⟨ka, KA⟩ := G.arv
  have lt_1 : @LT.lt Nat instLTNat a (Array.size h0) := (StrL.lt G)
  have lt_2 : @LT.lt Nat instLTNat ta (Array.size h0) := (StrL.ltB G)
  refine r_aloadN d23_0 rfl rfl rfl ?_
  refine r_virtual (y := (⟨"java/lang/String", "coder", "()B"⟩ : MethodName)) (argsL := []) (rest := []) (W := 0) (kc := 0) (ks := 0) (wl := []) d23_1 rfl (wd131 hw) (wd132 hw) (wd134 hw) (wd133 hw) (by decide) ⟨rfl, rfl⟩ (StrL.exa G) (lenOf pd_0 rfl) rfl rfl (Nat.le_of_ble_eq_true rfl) (Ok.pays (ok_coder hw a SC nC G.coder) (wd135 hw) (wd6 hw) (by decide) (by decide)) (fun v h' q => q.2 ▸ Keep.refl _ _) all0 (by decide) (by decide) ?_
  rintro _ h_3 ⟨rfl, eqh⟩
  subst h_3
  refine Run.cast (st' := [(.int (0 : Int32))]) rfl ?_
  refine r_iloadN d23_4 rfl rfl ?_
  refine r_icmpne (pc2 := 28) d23_5 rfl rfl (fun cc => absurd rfl cc) (fun _ => ?_)
  refine r_aloadN d23_8 rfl rfl rfl ?_
  refine r_getfield (host := "") d23_9 rfl (Or.inl (wd33 hw)) Via.refl (StrL.value G) ?_
  refine r_iconst (v := 0) d23_12 rfl rfl ?_
  refine r_aloadN d23_13 rfl rfl rfl ?_
  refine r_iloadN d23_14 rfl rfl ?_
  refine r_iloadN d23_15 rfl rfl ?_
  refine r_ishl d23_16 rfl ?_
  rw [show ((Int32.ofNat cs.length) <<< ((0 : Int32) &&& 31)) = (Int32.ofNat cs.length) from (shl0 _)]
  refine r_aloadN d23_17 rfl rfl rfl ?_
  refine r_getfield (host := "") d23_18 rfl (Or.inl (wd33 hw)) Via.refl (StrL.value G) ?_
  refine r_arraylength d23_21 rfl KA ?_
  have la := bv_len cs
  have lb := bv_len ds
  refine r_arraycopy (us := bv ds) (W := 0) d23_22 rfl (wd159 hw) (wd162 hw) (wd160 hw) (wd161 hw) KA (padr K ds.length) (Or.inl ⟨rfl, rfl⟩) (by decide) (ofNat_in (n := 8001) (by omega) (by omega)).1 (ofNat_in (n := 8001) (by omega) (by omega)).1 (by rw [ofNat_cl (by omega)]; simp) (by rw [ofNat_cl (by omega), ofNat_cl (by omega), ofNat_cl (by omega)]; omega) (by rw [ofNat_cl (by omega)]; exact rng_all _ _ _ (bv_len ds)) (by rw [ofNat_cl (by omega), ofNat_cl (by omega), List.length_append, List.length_replicate, bv_len]; exact Nat.le_refl _) gt (Or.inl rfl) (by decide) (Nat.le_of_ble_eq_true rfl) (by decide) ?_
  intro h_4 KC K2
  rw [ofNat_cl (by omega), ofNat_cl (by omega), cp_res _ _ _ _ la lb, ← bv_app] at K2
  refine r_goto (pc' := 43) d23_25 rfl ?_
  exact r_return d23_43 rfl ⟨rfl, KC, K2⟩ (by simp) (by decide) (by decide)
set_option maxRecDepth 65536 in
set_option maxHeartbeats 40000000 in
theorem ok_gb11 {l : Launch} {Z : State} {a0 : Array Value} (hw : ∀ d ∈ tables_1, d.before a0 Z = true) {n0 : Nat} (a ta t : Addr) {k : ClassId} {cs ds : List Int32} {cap : Nat} (hcap : cap ≤ 4000) (hc : cs.length + ds.length ≤ cap) (hd : Uni ds) (hne : t ≠ ta) (gt : n0 ≤ t) {zC : Int32} {vF : Value} {h0 : Heap} (SC : Sta Z Z.heap "java/lang/String" "COMPACT_STRINGS" "Z" (.int zC)) (nC : ¬ zC = 0) (SF : Sta Z Z.heap "jdk/internal/util/Preconditions" "SIOOBE_FORMATTER" "Ljava/util/function/BiFunction;" vF) (rF : vF.isRef = true) (SA : Sta Z Z.heap "java/lang/StringUTF16" "$assertionsDisabled" "Z" (.int 1)) (SH : Sta Z Z.heap "java/lang/StringUTF16" "HI_BYTE_SHIFT" "I" (.int 0)) (SL8 : Sta Z Z.heap "java/lang/StringUTF16" "LO_BYTE_SHIFT" "I" (.int 8)) (G : StrU Z h0 a ta ds) (K : Arv Z h0 t k .byte (Int32.ofNat (2 * cap)) (ubv cs) (.int 0)) :
    Ok false l Z [] n0 [] (⟨"java/lang/String", "getBytes", "([BIB)V"⟩ : MethodName) jdk_42_method_147_code 4 (Option.none : Option Jvm.ClassFile.FieldType) ({ frames := 1, cells := 0, slots := 0, locals := 20 } : Room) #[(.ref a), (.ref t), (.int (Int32.ofNat cs.length)), (.int (1 : Int32))] h0 (fun v h => v = none ∧ Keep h0 h [t] ∧ Arv Z h t k .byte (Int32.ofNat (2 * cap)) (ubv (cs ++ ds)) (.int 0)) (fun _ => []) := by
  refine Ok.of_run (ls0 := #[.val (.ref a), .val (.ref t), .val (.int (Int32.ofNat cs.length)), .val (.int (1 : Int32))]) (plainFor_of_name (by first | (simp [plainName, overriddenIn]; done) | decide +kernel)) (fun m => by first | (simp [entryFrame, mkF, argsToLocals, Value.category]; done) | rfl) rfl ?_
  refine Run.old fun hO => ?_
  have hn0 : n0 ≤ h0.size := hO.1 ▸ hO.2.1
  obtain ⟨ka, KA⟩ := G.arv
  have lt_1 : @LT.lt Nat instLTNat a (Array.size h0) := (StrU.lt G)
  have lt_2 : @LT.lt Nat instLTNat ta (Array.size h0) := (StrU.ltB G)
  refine r_aloadN d23_0 rfl rfl rfl ?_
  refine r_virtual (y := (⟨"java/lang/String", "coder", "()B"⟩ : MethodName)) (argsL := []) (rest := []) (W := 0) (kc := 0) (ks := 0) (wl := []) d23_1 rfl (wd131 hw) (wd132 hw) (wd134 hw) (wd133 hw) (by decide) ⟨rfl, rfl⟩ (StrU.exa G) (lenOf pd_0 rfl) rfl rfl (Nat.le_of_ble_eq_true rfl) (Ok.pays (ok_coder1 hw a SC nC G.coder) (wd135 hw) (wd6 hw) (by decide) (by decide)) (fun v h' q => q.2 ▸ Keep.refl _ _) all0 (by decide) (by decide) ?_
  rintro _ h_3 ⟨rfl, eqh⟩
  subst h_3
  refine Run.cast (st' := [(.int (1 : Int32))]) rfl ?_
  refine r_iloadN d23_4 rfl rfl ?_
  refine r_icmpne (pc2 := 28) d23_5 rfl rfl (fun cc => absurd rfl cc) (fun _ => ?_)
  refine r_aloadN d23_8 rfl rfl rfl ?_
  refine r_getfield (host := "") d23_9 rfl (Or.inl (wd33 hw)) Via.refl (StrU.value G) ?_
  refine r_iconst (v := 0) d23_12 rfl rfl ?_
  refine r_aloadN d23_13 rfl rfl rfl ?_
  refine r_iloadN d23_14 rfl rfl ?_
  refine r_iloadN d23_15 rfl rfl ?_
  refine r_ishl d23_16 rfl ?_
  rw [show ((Int32.ofNat cs.length) <<< ((1 : Int32) &&& 31)) = (Int32.ofNat (2 * cs.length)) from (shl1 (by omega))]
  refine r_aloadN d23_17 rfl rfl rfl ?_
  refine r_getfield (host := "") d23_18 rfl (Or.inl (wd33 hw)) Via.refl (StrU.value G) ?_
  refine r_arraylength d23_21 rfl KA ?_
  have la := ub_len cs
  have lb := ub_len ds
  refine r_arraycopy (us := ubv ds) (W := 0) d23_22 rfl (wd159 hw) (wd162 hw) (wd160 hw) (wd161 hw) KA (padr K (2 * ds.length)) (Or.inl ⟨rfl, rfl⟩) (by decide) (ofNat_in (n := 8001) (by omega) (by omega)).1 (ofNat_in (n := 8001) (by omega) (by omega)).1 (by rw [ofNat_cl (by omega)]; simp) (by rw [ofNat_cl (by omega), ofNat_cl (by omega), ofNat_cl (by omega)]; omega) (by rw [ofNat_cl (by omega)]; exact rng_all _ _ _ (ub_len ds)) (by rw [ofNat_cl (by omega), ofNat_cl (by omega), List.length_append, List.length_replicate, ub_len]; exact Nat.le_refl _) gt (Or.inl rfl) (by decide) (Nat.le_of_ble_eq_true rfl) (by decide) ?_
  intro h_4 KC K2
  rw [ofNat_cl (by omega), ofNat_cl (by omega), cp_res _ _ _ _ la lb, ← ub_app] at K2
  refine r_goto (pc' := 43) d23_25 rfl ?_
  exact r_return d23_43 rfl ⟨rfl, KC, K2⟩ (by simp) (by decide) (by decide)
set_option maxRecDepth 65536 in
set_option maxHeartbeats 40000000 in
theorem ok_gb10 {l : Launch} {Z : State} {a0 : Array Value} (hw : ∀ d ∈ tables_1, d.before a0 Z = true) {n0 : Nat} (a ta t : Addr) {k : ClassId} {cs ds : List Int32} {cap : Nat} (hcap : cap ≤ 4000) (hc : cs.length + ds.length ≤ cap) (hd : Lat ds) (hne : t ≠ ta) (gt : n0 ≤ t) {zC : Int32} {vF : Value} {h0 : Heap} (SC : Sta Z Z.heap "java/lang/String" "COMPACT_STRINGS" "Z" (.int zC)) (nC : ¬ zC = 0) (SF : Sta Z Z.heap "jdk/internal/util/Preconditions" "SIOOBE_FORMATTER" "Ljava/util/function/BiFunction;" vF) (rF : vF.isRef = true) (SA : Sta Z Z.heap "java/lang/StringUTF16" "$assertionsDisabled" "Z" (.int 1)) (SH : Sta Z Z.heap "java/lang/StringUTF16" "HI_BYTE_SHIFT" "I" (.int 0)) (SL8 : Sta Z Z.heap "java/lang/StringUTF16" "LO_BYTE_SHIFT" "I" (.int 8)) (G : StrL Z h0 a ta ds) (K : Arv Z h0 t k .byte (Int32.ofNat (2 * cap)) (ubv cs) (.int 0)) :
    Ok false l Z [] n0 [] (⟨"java/lang/String", "getBytes", "([BIB)V"⟩ : MethodName) jdk_42_method_147_code 4 (Option.none : Option Jvm.ClassFile.FieldType) ({ frames := 5, cells := 0, slots := 0, locals := 76 } : Room) #[(.ref a), (.ref t), (.int (Int32.ofNat cs.length)), (.int (1 : Int32))] h0 (fun v h => v = none ∧ Keep h0 h [t] ∧ Arv Z h t k .byte (Int32.ofNat (2 * cap)) (ubv (cs ++ ds)) (.int 0)) (fun _ => []) := by
  refine Ok.of_run (ls0 := #[.val (.ref a), .val (.ref t), .val (.int (Int32.ofNat cs.length)), .val (.int (1 : Int32))]) (plainFor_of_name (by first | (simp [plainName, overriddenIn]; done) | decide +kernel)) (fun m => by first | (simp [entryFrame, mkF, argsToLocals, Value.category]; done) | rfl) rfl ?_
  refine Run.old fun hO => ?_
  have hn0 : n0 ≤ h0.size := hO.1 ▸ hO.2.1
  obtain ⟨ka, KA⟩ := G.arv
  have lt_1 : @LT.lt Nat instLTNat a (Array.size h0) := (StrL.lt G)
  have lt_2 : @LT.lt Nat instLTNat ta (Array.size h0) := (StrL.ltB G)
  refine r_aloadN d23_0 rfl rfl rfl ?_
  refine r_virtual (y := (⟨"java/lang/String", "coder", "()B"⟩ : MethodName)) (argsL := []) (rest := []) (W := 0) (kc := 0) (ks := 0) (wl := []) d23_1 rfl (wd131 hw) (wd132 hw) (wd134 hw) (wd133 hw) (by decide) ⟨rfl, rfl⟩ (StrL.exa G) (lenOf pd_0 rfl) rfl rfl (Nat.le_of_ble_eq_true rfl) (Ok.pays (ok_coder hw a SC nC G.coder) (wd135 hw) (wd6 hw) (by decide) (by decide)) (fun v h' q => q.2 ▸ Keep.refl _ _) all0 (by decide) (by decide) ?_
  rintro _ h_3 ⟨rfl, eqh⟩
  subst h_3
  refine Run.cast (st' := [(.int (0 : Int32))]) rfl ?_
  refine r_iloadN d23_4 rfl rfl ?_
  refine r_icmpne (pc2 := 28) d23_5 rfl rfl (fun _ => ?_) (fun cc => absurd cc (by decide))
  refine r_aloadN d23_28 rfl rfl rfl ?_
  refine r_getfield (host := "") d23_29 rfl (Or.inl (wd33 hw)) Via.refl (StrL.value G) ?_
  refine r_iconst (v := 0) d23_32 rfl rfl ?_
  refine r_aloadN d23_33 rfl rfl rfl ?_
  refine r_iloadN d23_34 rfl rfl ?_
  refine r_aloadN d23_35 rfl rfl rfl ?_
  refine r_getfield (host := "") d23_36 rfl (Or.inl (wd33 hw)) Via.refl (StrL.value G) ?_
  refine r_arraylength d23_39 rfl KA ?_
  refine r_static (y := (⟨"java/lang/StringLatin1", "inflate", "([BI[BII)V"⟩ : MethodName)) (argsL := [(.ref ta), (.int (0 : Int32)), (.ref t), (.int (Int32.ofNat cs.length)), (.int (Int32.ofNat ds.length))]) (rest := []) (W := 0) (kc := 0) (ks := 0) (wl := [t]) d23_40 rfl (wd295 hw) (wd278 hw) (wd230 hw) (wd279 hw) (by decide) (lenOf pd_20 rfl) rfl rfl (Nat.le_of_ble_eq_true rfl) (Ok.pays (ok_linf hw ta t (Ne.symm hne) hd (Nat.le_refl _) (by omega) hc hcap gt SF rF SA SH SL8 KA K) (wd279 hw) (wd230 hw) (by decide) (by decide)) (fun v h' q => q.2.1) (allS ⟨gt, (Or.inl rfl)⟩ all0) (by decide) (by decide) ?_
  rintro _ h_4 ⟨rfl, q⟩
  refine Run.cast (st' := []) rfl ?_
  exact r_return d23_43 rfl ⟨rfl, q⟩ (by simp) (by decide) (by decide)
set_option maxRecDepth 65536 in
set_option maxHeartbeats 40000000 in
theorem ok_psa00 {l : Launch} {Z : State} {a0 : Array Value} (hw : ∀ d ∈ tables_1, d.before a0 Z = true) {n0 : Nat} (x t a ta : Addr) {cs ds : List Int32} {cap : Nat} (hcap : cap ≤ 16) (hc : cs.length + ds.length ≤ cap) (hd : Lat ds) (hxa : @Ne Nat x a) (hta : @Ne Nat t ta) {zC : Int32} {vF : Value} {h0 : Heap} (SC : Sta Z Z.heap "java/lang/String" "COMPACT_STRINGS" "Z" (.int zC)) (nC : ¬ zC = 0) (SF : Sta Z Z.heap "jdk/internal/util/Preconditions" "SIOOBE_FORMATTER" "Ljava/util/function/BiFunction;" vF) (rF : vF.isRef = true) (SA : Sta Z Z.heap "java/lang/StringUTF16" "$assertionsDisabled" "Z" (.int 1)) (SH : Sta Z Z.heap "java/lang/StringUTF16" "HI_BYTE_SHIFT" "I" (.int 0)) (SL8 : Sta Z Z.heap "java/lang/StringUTF16" "LO_BYTE_SHIFT" "I" (.int 8)) (F : SB0 Z h0 n0 x t cs cap) (G : StrL Z h0 a ta ds) :
    Ok false l Z [] n0 [] (⟨"java/lang/AbstractStringBuilder", "putStringAt", "(ILjava/lang/String;)V"⟩ : MethodName) jdk_68_method_73_code 3 (Option.none : Option Jvm.ClassFile.FieldType) ({ frames := 2, cells := 0, slots := 0, locals := 35 } : Room) #[(.ref x), (.int (Int32.ofNat cs.length)), (.ref a)] h0 (fun v h => v = none ∧ Keep h0 h [x, t] ∧ ∃ t' : Addr, (t' = t ∨ @LE.le Nat instLENat h0.size t') ∧ @LE.le Nat instLENat n0 t' ∧ Exa Z h x "java/lang/StringBuilder" ∧ Fld Z h x "java/lang/AbstractStringBuilder" "value" "[B" (.ref t') ∧ Fld Z h x "java/lang/AbstractStringBuilder" "coder" "B" (.int 0) ∧ Fld Z h x "java/lang/AbstractStringBuilder" "count" "I" (.int (Int32.ofNat cs.length)) ∧ Fld Z h x "java/lang/AbstractStringBuilder" "maybeLatin1" "Z" (.int 0) ∧ (∃ k, Arv Z h t' k .byte (Int32.ofNat cap) (bv (cs ++ ds)) (.int 0))) (fun _ => []) := by
  refine Ok.of_run (ls0 := #[.val (.ref x), .val (.int (Int32.ofNat cs.length)), .val (.ref a)]) (plainFor_of_name (by first | (simp [plainName, overriddenIn]; done) | decide +kernel)) (fun m => by first | (simp [entryFrame, mkF, argsToLocals, Value.category]; done) | rfl) rfl ?_
  refine Run.old fun hO => ?_
  have hn0 : n0 ≤ h0.size := hO.1 ▸ hO.2.1
  obtain ⟨q_1, q_2, q_3, q_4, q_5, ⟨k_11, q_6⟩, q_7, q_8, q_9, q_10⟩ := (id F)
  have ne_12 : x ≠ t := Exa.neArv q_1 q_6 (wd99 hw)
  have lt_13 : @LT.lt Nat instLTNat x (Array.size h0) := Exa.lt q_1
  have lt_14 : @LT.lt Nat instLTNat t (Array.size h0) := Arv.lt q_6
  have lt_15 : @LT.lt Nat instLTNat a (Array.size h0) := (StrL.lt G)
  have lt_16 : @LT.lt Nat instLTNat ta (Array.size h0) := (StrL.ltB G)
  refine r_aloadN d21_0 rfl rfl rfl ?_
  refine r_aloadN d21_1 rfl rfl rfl ?_
  refine r_private (y := (⟨"java/lang/AbstractStringBuilder", "inflateIfNeededFor", "(Ljava/lang/String;)V"⟩ : MethodName)) (argsL := [(.ref a)]) (rest := []) (W := 0) (kc := 0) (ks := 0) (wl := []) d21_2 rfl (wd148 hw) (wd149 hw) (selP2 (wd150 hw) (wd149 hw) (wd151 hw) (by decide)) (wd150 hw) (wd152 hw) (by decide) q_1 (lenOf pd_23 rfl) rfl rfl (Nat.le_of_ble_eq_true rfl) (Ok.pays (ok_iin00 hw x t a ta hcap SC nC SF rF SA SH SL8 F G) (wd152 hw) (wd108 hw) (by decide) (by decide)) (fun v h' q => q.2 ▸ Keep.refl _ _) all0 (by decide) (by decide) ?_
  rintro _ h_17 ⟨rfl, eqh⟩
  subst h_17
  refine Run.cast (st' := []) rfl ?_
  refine r_aloadN d21_5 rfl rfl rfl ?_
  refine r_aloadN d21_6 rfl rfl rfl ?_
  refine r_getfield (host := "") d21_7 rfl (Or.inl (wd112 hw)) Via.refl q_2 ?_
  refine r_iloadN d21_10 rfl rfl ?_
  refine r_aloadN d21_11 rfl rfl rfl ?_
  refine r_getfield (host := "") d21_12 rfl (Or.inl (wd114 hw)) Via.refl q_3 ?_
  refine r_virtual (y := (⟨"java/lang/String", "getBytes", "([BIB)V"⟩ : MethodName)) (argsL := [(.ref t), (.int (Int32.ofNat cs.length)), (.int (0 : Int32))]) (rest := []) (W := 0) (kc := 0) (ks := 0) (wl := [t]) d21_15 rfl (wd154 hw) (wd155 hw) (wd157 hw) (wd156 hw) (by decide) ⟨rfl, rfl⟩ (StrL.exa G) (lenOf pd_24 rfl) rfl rfl (Nat.le_of_ble_eq_true rfl) (Ok.pays (ok_gb00 hw a ta t (by omega) hc hd hta q_8 SC nC SF rF SA SH SL8 G q_6) (wd158 hw) (wd6 hw) (by decide) (by decide)) (fun v h' q => q.2.1) (allS ⟨q_8, (Or.inl rfl)⟩ all0) (by decide) (by decide) ?_
  rintro _ h_18 ⟨rfl, KG, K2⟩
  refine Run.cast (st' := []) rfl ?_
  have szh_18 := KG.1
  have A_19 : Exa Z h_18 x "java/lang/StringBuilder" := (Exa.keep q_1 KG)
  have F_20 : Fld Z h_18 x "java/lang/AbstractStringBuilder" "value" "[B" (.ref t) := (Fld.keep q_2 KG (ninS ne_12 nin0))
  have F_21 : Fld Z h_18 x "java/lang/AbstractStringBuilder" "coder" "B" (.int (0 : Int32)) := (Fld.keep q_3 KG (ninS ne_12 nin0))
  have F_22 : Fld Z h_18 x "java/lang/AbstractStringBuilder" "count" "I" (.int (Int32.ofNat cs.length)) := (Fld.keep q_4 KG (ninS ne_12 nin0))
  have F_23 : Fld Z h_18 x "java/lang/AbstractStringBuilder" "maybeLatin1" "Z" (.int (0 : Int32)) := (Fld.keep q_5 KG (ninS ne_12 nin0))
  exact r_return d21_18 rfl ⟨rfl, (Keep.trans (Keep.refl _ _) KG (allS (Or.inl (by simp)) all0)), t, Or.inl rfl, q_8, A_19, F_20, F_21, F_22, F_23, ⟨_, K2⟩⟩ (by simp) (by decide) (by decide)
set_option maxRecDepth 65536 in
set_option maxHeartbeats 40000000 in
theorem ok_aapp00 {l : Launch} {Z : State} {a0 : Array Value} (hw : ∀ d ∈ tables_1, d.before a0 Z = true) {n0 : Nat} (x t a ta : Addr) {cs ds : List Int32} {cap : Nat} (hcap : cap ≤ 16) (hc : cs.length + ds.length ≤ cap) (hd : Lat ds) (hxa : @Ne Nat x a) (hta : @Ne Nat t ta) {zC : Int32} {vF : Value} {h0 : Heap} (SC : Sta Z Z.heap "java/lang/String" "COMPACT_STRINGS" "Z" (.int zC)) (nC : ¬ zC = 0) (SF : Sta Z Z.heap "jdk/internal/util/Preconditions" "SIOOBE_FORMATTER" "Ljava/util/function/BiFunction;" vF) (rF : vF.isRef = true) (SA : Sta Z Z.heap "java/lang/StringUTF16" "$assertionsDisabled" "Z" (.int 1)) (SH : Sta Z Z.heap "java/lang/StringUTF16" "HI_BYTE_SHIFT" "I" (.int 0)) (SL8 : Sta Z Z.heap "java/lang/StringUTF16" "LO_BYTE_SHIFT" "I" (.int 8)) (F : SB0 Z h0 n0 x t cs cap) (G : StrL Z h0 a ta ds) :
    Ok false l Z [] n0 [] (⟨"java/lang/AbstractStringBuilder", "append", "(Ljava/lang/String;)Ljava/lang/AbstractStringBuilder;"⟩ : MethodName) jdk_68_method_22_code 3 (Option.some (Jvm.ClassFile.FieldType.object "java/lang/AbstractStringBuilder")) ({ frames := 3, cells := 0, slots := 0, locals := 49 } : Room) #[(.ref x), (.ref a)] h0 (fun v h => v = some (.ref x) ∧ Keep h0 h [x, t] ∧ ∃ t' : Addr, (t' = t ∨ @LE.le Nat instLENat h0.size t') ∧ SB0 Z h n0 x t' (cs ++ ds) cap) (fun _ => []) := by
  refine Ok.of_run (ls0 := #[.val (.ref x), .val (.ref a), .unset]) (plainFor_of_name (by first | (simp [plainName, overriddenIn]; done) | decide +kernel)) (fun m => by first | (simp [entryFrame, mkF, argsToLocals, Value.category]; done) | rfl) rfl ?_
  refine Run.old fun hO => ?_
  have hn0 : n0 ≤ h0.size := hO.1 ▸ hO.2.1
  obtain ⟨q_1, q_2, q_3, q_4, q_5, ⟨k_11, q_6⟩, q_7, q_8, q_9, q_10⟩ := (id F)
  have ne_12 : x ≠ t := Exa.neArv q_1 q_6 (wd99 hw)
  have lt_13 : @LT.lt Nat instLTNat x (Array.size h0) := Exa.lt q_1
  have lt_14 : @LT.lt Nat instLTNat t (Array.size h0) := Arv.lt q_6
  have lt_15 : @LT.lt Nat instLTNat a (Array.size h0) := (StrL.lt G)
  have lt_16 : @LT.lt Nat instLTNat ta (Array.size h0) := (StrL.ltB G)
  refine r_aloadN d17_0 rfl rfl rfl ?_
  refine r_ifnonnullY (pc2 := 9) d17_1 rfl ?_
  refine r_aloadN d17_9 rfl rfl rfl ?_
  have GG : StrG Z h0 a ta ds := Or.inl ⟨hd, G⟩
  refine r_virtual (y := (⟨"java/lang/String", "length", "()I"⟩ : MethodName)) (argsL := []) (rest := []) (W := 0) (kc := 0) (ks := 0) (wl := []) d17_10 rfl (wd126 hw) (wd127 hw) (wd129 hw) (wd128 hw) (by decide) ⟨rfl, rfl⟩ (StrL.exa G) (lenOf pd_25 rfl) rfl rfl (Nat.le_of_ble_eq_true rfl) (Ok.pays (ok_glen hw a ta (by omega) SC nC GG) (wd130 hw) (wd6 hw) (by decide) (by decide)) (fun v h' q => q.2 ▸ Keep.refl _ _) all0 (by decide) (by decide) ?_
  rintro _ h_17 ⟨rfl, eqh⟩
  subst h_17
  refine Run.cast (st' := [(.int (Int32.ofNat ds.length))]) rfl ?_
  refine r_istoreN (l' := #[.val (.ref x), .val (.ref a), .val (.int (Int32.ofNat ds.length))]) d17_13 rfl rfl ?_
  refine r_aloadN d17_14 rfl rfl rfl ?_
  refine r_aloadN d17_15 rfl rfl rfl ?_
  refine r_getfield (host := "") d17_16 rfl (Or.inl (wd136 hw)) Via.refl q_4 ?_
  refine r_iloadN d17_19 rfl rfl ?_
  refine r_iadd d17_20 rfl ?_
  rw [show ((Int32.ofNat cs.length) + (Int32.ofNat ds.length)) = (Int32.ofNat (cs.length + ds.length)) from (ofNat_add' _ _)]
  refine r_private (y := (⟨"java/lang/AbstractStringBuilder", "ensureCapacityInternal", "(I)V"⟩ : MethodName)) (argsL := [(.int (Int32.ofNat (cs.length + ds.length)))]) (rest := []) (W := 0) (kc := 0) (ks := 0) (wl := []) d17_21 rfl (wd138 hw) (wd139 hw) (selP2 (wd140 hw) (wd139 hw) (wd141 hw) (by decide)) (wd140 hw) (wd142 hw) (by decide) q_1 (lenOf pd_21 rfl) rfl rfl (Nat.le_of_ble_eq_true rfl) (Ok.pays (ok_ens0 hw x t (by omega) (cs.length + ds.length) hc F) (wd142 hw) (wd108 hw) (by decide) (by decide)) (fun v h' q => q.2 ▸ Keep.refl _ _) all0 (by decide) (by decide) ?_
  rintro _ h_18 ⟨rfl, eqh⟩
  subst h_18
  refine Run.cast (st' := []) rfl ?_
  refine r_aloadN d17_24 rfl rfl rfl ?_
  refine r_aloadN d17_25 rfl rfl rfl ?_
  refine r_getfield (host := "") d17_26 rfl (Or.inl (wd136 hw)) Via.refl q_4 ?_
  refine r_aloadN d17_29 rfl rfl rfl ?_
  refine r_private (y := (⟨"java/lang/AbstractStringBuilder", "putStringAt", "(ILjava/lang/String;)V"⟩ : MethodName)) (argsL := [(.int (Int32.ofNat cs.length)), (.ref a)]) (rest := []) (W := 0) (kc := 0) (ks := 0) (wl := [x, t]) d17_30 rfl (wd143 hw) (wd144 hw) (selP2 (wd145 hw) (wd144 hw) (wd146 hw) (by decide)) (wd145 hw) (wd147 hw) (by decide) q_1 (lenOf pd_26 rfl) rfl rfl (Nat.le_of_ble_eq_true rfl) (Ok.pays (ok_psa00 hw x t a ta hcap hc hd hxa hta SC nC SF rF SA SH SL8 F G) (wd147 hw) (wd108 hw) (by decide) (by decide)) (fun v h' q => q.2.1) (allS ⟨q_7, (Or.inl rfl)⟩ (allS ⟨q_8, (Or.inl rfl)⟩ all0)) (by decide) (by decide) ?_
  rintro _ h_19 ⟨rfl, KP, t', hor, gt', E2, F1, F2, F3, F4, ⟨k2, K2⟩⟩
  refine Run.cast (st' := []) rfl ?_
  have szh_19 := KP.1
  have ne_20 : x ≠ t' := Exa.neArv E2 K2 (wd99 hw)
  refine r_aloadN d17_33 rfl rfl rfl ?_
  refine r_dup d17_34 rfl rfl ?_
  refine r_getfield (host := "") d17_35 rfl (Or.inl (wd136 hw)) Via.refl F3 ?_
  refine r_iloadN d17_38 rfl rfl ?_
  refine r_iadd d17_39 rfl ?_
  rw [show ((Int32.ofNat cs.length) + (Int32.ofNat ds.length)) = (Int32.ofNat (cs ++ ds).length) from (by rw [List.length_append]; exact ofNat_add' _ _)]
  refine r_putfield (ty := .int) (v' := (.int (Int32.ofNat (cs ++ ds).length))) d17_40 rfl (wd136 hw) Via.refl F3 E2 (Or.inl (wd137 hw)) (wd99 hw) (by decide) rfl rfl q_7 (Or.inl rfl) ?_
  intro h_21 W_22
  have szh_21 := Wr.size W_22
  have F_23 : Fld Z h_21 x "java/lang/AbstractStringBuilder" "count" "I" (.int (Int32.ofNat (cs ++ ds).length)) := Fld.same W_22 F3
  refine r_aloadN d17_43 rfl rfl rfl ?_
  have A_24 : Exa Z h_21 x "java/lang/StringBuilder" := (Exa.wr W_22 E2)
  have F_25 : Fld Z h_21 x "java/lang/AbstractStringBuilder" "value" "[B" (.ref t') := (Fld.other W_22 F1 (Or.inr (slot_ne (Or.inl (wd113 hw)) (Or.inl (wd137 hw)) (by decide) (t := (.array .byte)) (t' := .int) (by decide) (by decide))))
  have F_26 : Fld Z h_21 x "java/lang/AbstractStringBuilder" "coder" "B" (.int (0 : Int32)) := (Fld.other W_22 F2 (Or.inr (slot_ne (Or.inl (wd115 hw)) (Or.inl (wd137 hw)) (by decide) (t := .byte) (t' := .int) (by decide) (by decide))))
  have F_27 : Fld Z h_21 x "java/lang/AbstractStringBuilder" "maybeLatin1" "Z" (.int (0 : Int32)) := (Fld.other W_22 F4 (Or.inr (slot_ne (Or.inl (wd297 hw)) (Or.inl (wd137 hw)) (by decide) (t := .boolean) (t' := .int) (by decide) (by decide))))
  have K_28 : Arv Z h_21 t' k2 .byte (Int32.ofNat cap) (bv (cs ++ ds)) (.int 0) := (Arv.other K2 W_22 (Ne.symm ne_20))
  exact r_areturn d17_44 rfl rfl rfl rfl ⟨rfl, (Keep.wr (Keep.trans (Keep.refl _ _) KP (allS (Or.inl (by simp)) (allS (Or.inl (by simp)) all0))) W_22 (Or.inl (by simp))), t', hor, ⟨A_24, F_25, F_26, F_23, F_27, ⟨_, K_28⟩, q_7, gt', Lat.app q_9 hd, by rw [List.length_append]; exact hc⟩⟩ (by simp) (by decide) (by decide)
set_option maxRecDepth 65536 in
set_option maxHeartbeats 40000000 in
theorem ok_sapp00 {l : Launch} {Z : State} {a0 : Array Value} (hw : ∀ d ∈ tables_1, d.before a0 Z = true) {n0 : Nat} (x t a ta : Addr) {cs ds : List Int32} {cap : Nat} (hcap : cap ≤ 16) (hc : cs.length + ds.length ≤ cap) (hd : Lat ds) (hxa : @Ne Nat x a) (hta : @Ne Nat t ta) {zC : Int32} {vF : Value} {h0 : Heap} (SC : Sta Z Z.heap "java/lang/String" "COMPACT_STRINGS" "Z" (.int zC)) (nC : ¬ zC = 0) (SF : Sta Z Z.heap "jdk/internal/util/Preconditions" "SIOOBE_FORMATTER" "Ljava/util/function/BiFunction;" vF) (rF : vF.isRef = true) (SA : Sta Z Z.heap "java/lang/StringUTF16" "$assertionsDisabled" "Z" (.int 1)) (SH : Sta Z Z.heap "java/lang/StringUTF16" "HI_BYTE_SHIFT" "I" (.int 0)) (SL8 : Sta Z Z.heap "java/lang/StringUTF16" "LO_BYTE_SHIFT" "I" (.int 8)) (F : SB0 Z h0 n0 x t cs cap) (G : StrL Z h0 a ta ds) :
    Ok false l Z [] n0 [] (⟨"java/lang/StringBuilder", "append", "(Ljava/lang/String;)Ljava/lang/StringBuilder;"⟩ : MethodName) jdk_67_method_7_code 2 (Option.some (Jvm.ClassFile.FieldType.object "java/lang/StringBuilder")) ({ frames := 4, cells := 0, slots := 0, locals := 63 } : Room) #[(.ref x), (.ref a)] h0 (fun v h => v = some (.ref x) ∧ Keep h0 h [x, t] ∧ ∃ t' : Addr, (t' = t ∨ @LE.le Nat instLENat h0.size t') ∧ SB0 Z h n0 x t' (cs ++ ds) cap) (fun _ => []) := by
  refine Ok.of_run (ls0 := #[.val (.ref x), .val (.ref a)]) (plainFor_of_name (by first | (simp [plainName, overriddenIn]; done) | decide +kernel)) (fun m => by first | (simp [entryFrame, mkF, argsToLocals, Value.category]; done) | rfl) rfl ?_
  refine Run.old fun hO => ?_
  have hn0 : n0 ≤ h0.size := hO.1 ▸ hO.2.1
  obtain ⟨q_1, q_2, q_3, q_4, q_5, ⟨k_11, q_6⟩, q_7, q_8, q_9, q_10⟩ := (id F)
  have ne_12 : x ≠ t := Exa.neArv q_1 q_6 (wd99 hw)
  have lt_13 : @LT.lt Nat instLTNat x (Array.size h0) := Exa.lt q_1
  have lt_14 : @LT.lt Nat instLTNat t (Array.size h0) := Arv.lt q_6
  have lt_15 : @LT.lt Nat instLTNat a (Array.size h0) := (StrL.lt G)
  have lt_16 : @LT.lt Nat instLTNat ta (Array.size h0) := (StrL.ltB G)
  refine r_aloadN d16_0 rfl rfl rfl ?_
  refine r_aloadN d16_1 rfl rfl rfl ?_
  refine r_super (y := (⟨"java/lang/AbstractStringBuilder", "append", "(Ljava/lang/String;)Ljava/lang/AbstractStringBuilder;"⟩ : MethodName)) (argsL := [(.ref a)]) (rest := []) (W := 0) (kc := 0) (ks := 0) (wl := [x, t]) d16_2 rfl (by decide) (wd121 hw) (sameM (wd122 hw) (wd141 hw) rfl (by decide)) (wd122 hw) (wd123 hw) (wd125 hw) q_1 (lenOf pd_27 rfl) rfl rfl (Nat.le_of_ble_eq_true rfl) (Ok.pays (ok_aapp00 hw x t a ta hcap hc hd hxa hta SC nC SF rF SA SH SL8 F G) (wd125 hw) (wd108 hw) (by decide) (by decide)) (fun v h' q => q.2.1) (allS ⟨q_7, (Or.inl rfl)⟩ (allS ⟨q_8, (Or.inl rfl)⟩ all0)) (by decide) (by decide) ?_
  rintro _ h_17 ⟨rfl, q⟩
  refine Run.cast (st' := [(.ref x)]) rfl ?_
  refine r_pop d16_5 rfl rfl ?_
  refine r_aloadN d16_6 rfl rfl rfl ?_
  exact r_areturn d16_7 rfl rfl rfl rfl ⟨rfl, q⟩ (by simp) (by decide) (by decide)
set_option maxRecDepth 65536 in
set_option maxHeartbeats 40000000 in
theorem ok_psa01 {l : Launch} {Z : State} {a0 : Array Value} (hw : ∀ d ∈ tables_1, d.before a0 Z = true) {n0 : Nat} (x t a ta : Addr) {cs ds : List Int32} {cap : Nat} (hcap : cap ≤ 16) (hc : cs.length + ds.length ≤ cap) (hd : Uni ds) (hxa : @Ne Nat x a) (hta : @Ne Nat t ta) {zC : Int32} {vF : Value} {h0 : Heap} (SC : Sta Z Z.heap "java/lang/String" "COMPACT_STRINGS" "Z" (.int zC)) (nC : ¬ zC = 0) (SF : Sta Z Z.heap "jdk/internal/util/Preconditions" "SIOOBE_FORMATTER" "Ljava/util/function/BiFunction;" vF) (rF : vF.isRef = true) (SA : Sta Z Z.heap "java/lang/StringUTF16" "$assertionsDisabled" "Z" (.int 1)) (SH : Sta Z Z.heap "java/lang/StringUTF16" "HI_BYTE_SHIFT" "I" (.int 0)) (SL8 : Sta Z Z.heap "java/lang/StringUTF16" "LO_BYTE_SHIFT" "I" (.int 8)) (F : SB0 Z h0 n0 x t cs cap) (G : StrU Z h0 a ta ds) :
    Ok false l Z [] n0 [] (⟨"java/lang/AbstractStringBuilder", "putStringAt", "(ILjava/lang/String;)V"⟩ : MethodName) jdk_68_method_73_code 3 (Option.none : Option Jvm.ClassFile.FieldType) ({ frames := 7, cells := 1, slots := 32, locals := 102 } : Room) #[(.ref x), (.int (Int32.ofNat cs.length)), (.ref a)] h0 (fun v h => v = none ∧ Keep h0 h [x, t] ∧ ∃ t' : Addr, (t' = t ∨ @LE.le Nat instLENat h0.size t') ∧ @LE.le Nat instLENat n0 t' ∧ Exa Z h x "java/lang/StringBuilder" ∧ Fld Z h x "java/lang/AbstractStringBuilder" "value" "[B" (.ref t') ∧ Fld Z h x "java/lang/AbstractStringBuilder" "coder" "B" (.int 1) ∧ Fld Z h x "java/lang/AbstractStringBuilder" "count" "I" (.int (Int32.ofNat cs.length)) ∧ Fld Z h x "java/lang/AbstractStringBuilder" "maybeLatin1" "Z" (.int 0) ∧ (∃ k, Arv Z h t' k .byte (Int32.ofNat (2 * cap)) (ubv (cs ++ ds)) (.int 0))) (fun _ => []) := by
  refine Ok.of_run (ls0 := #[.val (.ref x), .val (.int (Int32.ofNat cs.length)), .val (.ref a)]) (plainFor_of_name (by first | (simp [plainName, overriddenIn]; done) | decide +kernel)) (fun m => by first | (simp [entryFrame, mkF, argsToLocals, Value.category]; done) | rfl) rfl ?_
  refine Run.old fun hO => ?_
  have hn0 : n0 ≤ h0.size := hO.1 ▸ hO.2.1
  obtain ⟨q_1, q_2, q_3, q_4, q_5, ⟨k_11, q_6⟩, q_7, q_8, q_9, q_10⟩ := (id F)
  have ne_12 : x ≠ t := Exa.neArv q_1 q_6 (wd99 hw)
  have lt_13 : @LT.lt Nat instLTNat x (Array.size h0) := Exa.lt q_1
  have lt_14 : @LT.lt Nat instLTNat t (Array.size h0) := Arv.lt q_6
  have lt_15 : @LT.lt Nat instLTNat a (Array.size h0) := (StrU.lt G)
  have lt_16 : @LT.lt Nat instLTNat ta (Array.size h0) := (StrU.ltB G)
  refine r_aloadN d21_0 rfl rfl rfl ?_
  refine r_aloadN d21_1 rfl rfl rfl ?_
  refine r_private (y := (⟨"java/lang/AbstractStringBuilder", "inflateIfNeededFor", "(Ljava/lang/String;)V"⟩ : MethodName)) (argsL := [(.ref a)]) (rest := []) (W := 0) (kc := 1) (ks := 32) (wl := [x]) d21_2 rfl (wd148 hw) (wd149 hw) (selP2 (wd150 hw) (wd149 hw) (wd151 hw) (by decide)) (wd150 hw) (wd152 hw) (by decide) q_1 (lenOf pd_23 rfl) rfl rfl (Nat.le_of_ble_eq_true rfl) (Ok.pays (ok_iin01 hw x t a ta hcap SC nC SF rF SA SH SL8 F G) (wd152 hw) (wd108 hw) (by decide) (by decide)) (fun v h' q => q.2.1) (allS ⟨q_7, (Or.inl rfl)⟩ all0) (by decide) (by decide) ?_
  rintro _ h_17 ⟨rfl, KI, b, hgb, F2⟩
  refine Run.cast (st' := []) rfl ?_
  have szh_17 := KI.1
  obtain ⟨q_18, q_19, q_20, q_21, q_22, ⟨k_28, q_23⟩, q_24, q_25, q_26, q_27⟩ := F2
  have ne_29 : x ≠ b := Exa.neArv q_18 q_23 (wd99 hw)
  have lt_30 : @LT.lt Nat instLTNat x (Array.size h_17) := Exa.lt q_18
  have lt_31 : @LT.lt Nat instLTNat b (Array.size h_17) := Arv.lt q_23
  have ne_32 : @Ne Nat b ta := by omega
  refine r_aloadN d21_5 rfl rfl rfl ?_
  refine r_aloadN d21_6 rfl rfl rfl ?_
  refine r_getfield (host := "") d21_7 rfl (Or.inl (wd112 hw)) Via.refl q_19 ?_
  refine r_iloadN d21_10 rfl rfl ?_
  refine r_aloadN d21_11 rfl rfl rfl ?_
  refine r_getfield (host := "") d21_12 rfl (Or.inl (wd114 hw)) Via.refl q_20 ?_
  have ne_33 : ta ≠ x := StrU.neB G q_1 (wd99 hw)
  have G_34 : StrU Z h_17 a ta ds := (StrU.keep G KI (ninS (Ne.symm hxa) nin0) (ninS ne_33 nin0))
  have A_36 : Exa Z h_17 a "java/lang/String" := (Exa.keep (StrU.exa G) KI)
  refine r_virtual (y := (⟨"java/lang/String", "getBytes", "([BIB)V"⟩ : MethodName)) (argsL := [(.ref b), (.int (Int32.ofNat cs.length)), (.int (1 : Int32))]) (rest := []) (W := 0) (kc := 0) (ks := 0) (wl := [b]) d21_15 rfl (wd154 hw) (wd155 hw) (wd157 hw) (wd156 hw) (by decide) ⟨rfl, rfl⟩ A_36 (lenOf pd_24 rfl) rfl rfl (Nat.le_of_ble_eq_true rfl) (Ok.pays (ok_gb11 hw a ta b (by omega) hc hd ne_32 q_25 SC nC SF rF SA SH SL8 G_34 q_23) (wd158 hw) (wd6 hw) (by decide) (by decide)) (fun v h' q => q.2.1) (allS ⟨q_25, (Or.inl rfl)⟩ all0) (by decide) (by decide) ?_
  rintro _ h_35 ⟨rfl, KG, K2⟩
  refine Run.cast (st' := []) rfl ?_
  have szh_35 := KG.1
  have A_37 : Exa Z h_35 x "java/lang/StringBuilder" := (Exa.keep q_18 KG)
  have F_38 : Fld Z h_35 x "java/lang/AbstractStringBuilder" "value" "[B" (.ref b) := (Fld.keep q_19 KG (ninS ne_29 nin0))
  have F_39 : Fld Z h_35 x "java/lang/AbstractStringBuilder" "coder" "B" (.int (1 : Int32)) := (Fld.keep q_20 KG (ninS ne_29 nin0))
  have F_40 : Fld Z h_35 x "java/lang/AbstractStringBuilder" "count" "I" (.int (Int32.ofNat cs.length)) := (Fld.keep q_21 KG (ninS ne_29 nin0))
  have F_41 : Fld Z h_35 x "java/lang/AbstractStringBuilder" "maybeLatin1" "Z" (.int (0 : Int32)) := (Fld.keep q_22 KG (ninS ne_29 nin0))
  exact r_return d21_18 rfl ⟨rfl, (Keep.trans (Keep.trans (Keep.refl _ _) KI (allS (Or.inl (by simp)) all0)) KG (allS (Or.inr (by omega)) all0)), b, Or.inr (by omega), q_25, A_37, F_38, F_39, F_40, F_41, ⟨_, K2⟩⟩ (by simp) (by decide) (by decide)
set_option maxRecDepth 65536 in
set_option maxHeartbeats 40000000 in
theorem ok_aapp01 {l : Launch} {Z : State} {a0 : Array Value} (hw : ∀ d ∈ tables_1, d.before a0 Z = true) {n0 : Nat} (x t a ta : Addr) {cs ds : List Int32} {cap : Nat} (hcap : cap ≤ 16) (hc : cs.length + ds.length ≤ cap) (hd : Uni ds) (hxa : @Ne Nat x a) (hta : @Ne Nat t ta) {zC : Int32} {vF : Value} {h0 : Heap} (SC : Sta Z Z.heap "java/lang/String" "COMPACT_STRINGS" "Z" (.int zC)) (nC : ¬ zC = 0) (SF : Sta Z Z.heap "jdk/internal/util/Preconditions" "SIOOBE_FORMATTER" "Ljava/util/function/BiFunction;" vF) (rF : vF.isRef = true) (SA : Sta Z Z.heap "java/lang/StringUTF16" "$assertionsDisabled" "Z" (.int 1)) (SH : Sta Z Z.heap "java/lang/StringUTF16" "HI_BYTE_SHIFT" "I" (.int 0)) (SL8 : Sta Z Z.heap "java/lang/StringUTF16" "LO_BYTE_SHIFT" "I" (.int 8)) (F : SB0 Z h0 n0 x t cs cap) (G : StrU Z h0 a ta ds) :
    Ok false l Z [] n0 [] (⟨"java/lang/AbstractStringBuilder", "append", "(Ljava/lang/String;)Ljava/lang/AbstractStringBuilder;"⟩ : MethodName) jdk_68_method_22_code 3 (Option.some (Jvm.ClassFile.FieldType.object "java/lang/AbstractStringBuilder")) ({ frames := 8, cells := 1, slots := 32, locals := 116 } : Room) #[(.ref x), (.ref a)] h0 (fun v h => v = some (.ref x) ∧ Keep h0 h [x, t] ∧ ∃ t' : Addr, (t' = t ∨ @LE.le Nat instLENat h0.size t') ∧ SB1 Z h n0 x t' (cs ++ ds) cap) (fun _ => []) := by
  refine Ok.of_run (ls0 := #[.val (.ref x), .val (.ref a), .unset]) (plainFor_of_name (by first | (simp [plainName, overriddenIn]; done) | decide +kernel)) (fun m => by first | (simp [entryFrame, mkF, argsToLocals, Value.category]; done) | rfl) rfl ?_
  refine Run.old fun hO => ?_
  have hn0 : n0 ≤ h0.size := hO.1 ▸ hO.2.1
  obtain ⟨q_1, q_2, q_3, q_4, q_5, ⟨k_11, q_6⟩, q_7, q_8, q_9, q_10⟩ := (id F)
  have ne_12 : x ≠ t := Exa.neArv q_1 q_6 (wd99 hw)
  have lt_13 : @LT.lt Nat instLTNat x (Array.size h0) := Exa.lt q_1
  have lt_14 : @LT.lt Nat instLTNat t (Array.size h0) := Arv.lt q_6
  have lt_15 : @LT.lt Nat instLTNat a (Array.size h0) := (StrU.lt G)
  have lt_16 : @LT.lt Nat instLTNat ta (Array.size h0) := (StrU.ltB G)
  refine r_aloadN d17_0 rfl rfl rfl ?_
  refine r_ifnonnullY (pc2 := 9) d17_1 rfl ?_
  refine r_aloadN d17_9 rfl rfl rfl ?_
  have GG : StrG Z h0 a ta ds := Or.inr ⟨hd, G⟩
  refine r_virtual (y := (⟨"java/lang/String", "length", "()I"⟩ : MethodName)) (argsL := []) (rest := []) (W := 0) (kc := 0) (ks := 0) (wl := []) d17_10 rfl (wd126 hw) (wd127 hw) (wd129 hw) (wd128 hw) (by decide) ⟨rfl, rfl⟩ (StrU.exa G) (lenOf pd_25 rfl) rfl rfl (Nat.le_of_ble_eq_true rfl) (Ok.pays (ok_glen hw a ta (by omega) SC nC GG) (wd130 hw) (wd6 hw) (by decide) (by decide)) (fun v h' q => q.2 ▸ Keep.refl _ _) all0 (by decide) (by decide) ?_
  rintro _ h_17 ⟨rfl, eqh⟩
  subst h_17
  refine Run.cast (st' := [(.int (Int32.ofNat ds.length))]) rfl ?_
  refine r_istoreN (l' := #[.val (.ref x), .val (.ref a), .val (.int (Int32.ofNat ds.length))]) d17_13 rfl rfl ?_
  refine r_aloadN d17_14 rfl rfl rfl ?_
  refine r_aloadN d17_15 rfl rfl rfl ?_
  refine r_getfield (host := "") d17_16 rfl (Or.inl (wd136 hw)) Via.refl q_4 ?_
  refine r_iloadN d17_19 rfl rfl ?_
  refine r_iadd d17_20 rfl ?_
  rw [show ((Int32.ofNat cs.length) + (Int32.ofNat ds.length)) = (Int32.ofNat (cs.length + ds.length)) from (ofNat_add' _ _)]
  refine r_private (y := (⟨"java/lang/AbstractStringBuilder", "ensureCapacityInternal", "(I)V"⟩ : MethodName)) (argsL := [(.int (Int32.ofNat (cs.length + ds.length)))]) (rest := []) (W := 0) (kc := 0) (ks := 0) (wl := []) d17_21 rfl (wd138 hw) (wd139 hw) (selP2 (wd140 hw) (wd139 hw) (wd141 hw) (by decide)) (wd140 hw) (wd142 hw) (by decide) q_1 (lenOf pd_21 rfl) rfl rfl (Nat.le_of_ble_eq_true rfl) (Ok.pays (ok_ens0 hw x t (by omega) (cs.length + ds.length) hc F) (wd142 hw) (wd108 hw) (by decide) (by decide)) (fun v h' q => q.2 ▸ Keep.refl _ _) all0 (by decide) (by decide) ?_
  rintro _ h_18 ⟨rfl, eqh⟩
  subst h_18
  refine Run.cast (st' := []) rfl ?_
  refine r_aloadN d17_24 rfl rfl rfl ?_
  refine r_aloadN d17_25 rfl rfl rfl ?_
  refine r_getfield (host := "") d17_26 rfl (Or.inl (wd136 hw)) Via.refl q_4 ?_
  refine r_aloadN d17_29 rfl rfl rfl ?_
  refine r_private (y := (⟨"java/lang/AbstractStringBuilder", "putStringAt", "(ILjava/lang/String;)V"⟩ : MethodName)) (argsL := [(.int (Int32.ofNat cs.length)), (.ref a)]) (rest := []) (W := 0) (kc := 1) (ks := 32) (wl := [x, t]) d17_30 rfl (wd143 hw) (wd144 hw) (selP2 (wd145 hw) (wd144 hw) (wd146 hw) (by decide)) (wd145 hw) (wd147 hw) (by decide) q_1 (lenOf pd_26 rfl) rfl rfl (Nat.le_of_ble_eq_true rfl) (Ok.pays (ok_psa01 hw x t a ta hcap hc hd hxa hta SC nC SF rF SA SH SL8 F G) (wd147 hw) (wd108 hw) (by decide) (by decide)) (fun v h' q => q.2.1) (allS ⟨q_7, (Or.inl rfl)⟩ (allS ⟨q_8, (Or.inl rfl)⟩ all0)) (by decide) (by decide) ?_
  rintro _ h_19 ⟨rfl, KP, t', hor, gt', E2, F1, F2, F3, F4, ⟨k2, K2⟩⟩
  refine Run.cast (st' := []) rfl ?_
  have szh_19 := KP.1
  have ne_20 : x ≠ t' := Exa.neArv E2 K2 (wd99 hw)
  refine r_aloadN d17_33 rfl rfl rfl ?_
  refine r_dup d17_34 rfl rfl ?_
  refine r_getfield (host := "") d17_35 rfl (Or.inl (wd136 hw)) Via.refl F3 ?_
  refine r_iloadN d17_38 rfl rfl ?_
  refine r_iadd d17_39 rfl ?_
  rw [show ((Int32.ofNat cs.length) + (Int32.ofNat ds.length)) = (Int32.ofNat (cs ++ ds).length) from (by rw [List.length_append]; exact ofNat_add' _ _)]
  refine r_putfield (ty := .int) (v' := (.int (Int32.ofNat (cs ++ ds).length))) d17_40 rfl (wd136 hw) Via.refl F3 E2 (Or.inl (wd137 hw)) (wd99 hw) (by decide) rfl rfl q_7 (Or.inl rfl) ?_
  intro h_21 W_22
  have szh_21 := Wr.size W_22
  have F_23 : Fld Z h_21 x "java/lang/AbstractStringBuilder" "count" "I" (.int (Int32.ofNat (cs ++ ds).length)) := Fld.same W_22 F3
  refine r_aloadN d17_43 rfl rfl rfl ?_
  have A_24 : Exa Z h_21 x "java/lang/StringBuilder" := (Exa.wr W_22 E2)
  have F_25 : Fld Z h_21 x "java/lang/AbstractStringBuilder" "value" "[B" (.ref t') := (Fld.other W_22 F1 (Or.inr (slot_ne (Or.inl (wd113 hw)) (Or.inl (wd137 hw)) (by decide) (t := (.array .byte)) (t' := .int) (by decide) (by decide))))
  have F_26 : Fld Z h_21 x "java/lang/AbstractStringBuilder" "coder" "B" (.int (1 : Int32)) := (Fld.other W_22 F2 (Or.inr (slot_ne (Or.inl (wd115 hw)) (Or.inl (wd137 hw)) (by decide) (t := .byte) (t' := .int) (by decide) (by decide))))
  have F_27 : Fld Z h_21 x "java/lang/AbstractStringBuilder" "maybeLatin1" "Z" (.int (0 : Int32)) := (Fld.other W_22 F4 (Or.inr (slot_ne (Or.inl (wd297 hw)) (Or.inl (wd137 hw)) (by decide) (t := .boolean) (t' := .int) (by decide) (by decide))))
  have K_28 : Arv Z h_21 t' k2 .byte (Int32.ofNat (2 * cap)) (ubv (cs ++ ds)) (.int 0) := (Arv.other K2 W_22 (Ne.symm ne_20))
  exact r_areturn d17_44 rfl rfl rfl rfl ⟨rfl, (Keep.wr (Keep.trans (Keep.refl _ _) KP (allS (Or.inl (by simp)) (allS (Or.inl (by simp)) all0))) W_22 (Or.inl (by simp))), t', hor, ⟨A_24, F_25, F_26, F_23, F_27, ⟨_, K_28⟩, q_7, gt', Uni.app (Lat.uni q_9) hd, by rw [List.length_append]; exact hc⟩⟩ (by simp) (by decide) (by decide)
set_option maxRecDepth 65536 in
set_option maxHeartbeats 40000000 in
theorem ok_sapp01 {l : Launch} {Z : State} {a0 : Array Value} (hw : ∀ d ∈ tables_1, d.before a0 Z = true) {n0 : Nat} (x t a ta : Addr) {cs ds : List Int32} {cap : Nat} (hcap : cap ≤ 16) (hc : cs.length + ds.length ≤ cap) (hd : Uni ds) (hxa : @Ne Nat x a) (hta : @Ne Nat t ta) {zC : Int32} {vF : Value} {h0 : Heap} (SC : Sta Z Z.heap "java/lang/String" "COMPACT_STRINGS" "Z" (.int zC)) (nC : ¬ zC = 0) (SF : Sta Z Z.heap "jdk/internal/util/Preconditions" "SIOOBE_FORMATTER" "Ljava/util/function/BiFunction;" vF) (rF : vF.isRef = true) (SA : Sta Z Z.heap "java/lang/StringUTF16" "$assertionsDisabled" "Z" (.int 1)) (SH : Sta Z Z.heap "java/lang/StringUTF16" "HI_BYTE_SHIFT" "I" (.int 0)) (SL8 : Sta Z Z.heap "java/lang/StringUTF16" "LO_BYTE_SHIFT" "I" (.int 8)) (F : SB0 Z h0 n0 x t cs cap) (G : StrU Z h0 a ta ds) :
    Ok false l Z [] n0 [] (⟨"java/lang/StringBuilder", "append", "(Ljava/lang/String;)Ljava/lang/StringBuilder;"⟩ : MethodName) jdk_67_method_7_code 2 (Option.some (Jvm.ClassFile.FieldType.object "java/lang/StringBuilder")) ({ frames := 9, cells := 1, slots := 32, locals := 130 } : Room) #[(.ref x), (.ref a)] h0 (fun v h => v = some (.ref x) ∧ Keep h0 h [x, t] ∧ ∃ t' : Addr, (t' = t ∨ @LE.le Nat instLENat h0.size t') ∧ SB1 Z h n0 x t' (cs ++ ds) cap) (fun _ => []) := by
  refine Ok.of_run (ls0 := #[.val (.ref x), .val (.ref a)]) (plainFor_of_name (by first | (simp [plainName, overriddenIn]; done) | decide +kernel)) (fun m => by first | (simp [entryFrame, mkF, argsToLocals, Value.category]; done) | rfl) rfl ?_
  refine Run.old fun hO => ?_
  have hn0 : n0 ≤ h0.size := hO.1 ▸ hO.2.1
  obtain ⟨q_1, q_2, q_3, q_4, q_5, ⟨k_11, q_6⟩, q_7, q_8, q_9, q_10⟩ := (id F)
  have ne_12 : x ≠ t := Exa.neArv q_1 q_6 (wd99 hw)
  have lt_13 : @LT.lt Nat instLTNat x (Array.size h0) := Exa.lt q_1
  have lt_14 : @LT.lt Nat instLTNat t (Array.size h0) := Arv.lt q_6
  have lt_15 : @LT.lt Nat instLTNat a (Array.size h0) := (StrU.lt G)
  have lt_16 : @LT.lt Nat instLTNat ta (Array.size h0) := (StrU.ltB G)
  refine r_aloadN d16_0 rfl rfl rfl ?_
  refine r_aloadN d16_1 rfl rfl rfl ?_
  refine r_super (y := (⟨"java/lang/AbstractStringBuilder", "append", "(Ljava/lang/String;)Ljava/lang/AbstractStringBuilder;"⟩ : MethodName)) (argsL := [(.ref a)]) (rest := []) (W := 0) (kc := 1) (ks := 32) (wl := [x, t]) d16_2 rfl (by decide) (wd121 hw) (sameM (wd122 hw) (wd141 hw) rfl (by decide)) (wd122 hw) (wd123 hw) (wd125 hw) q_1 (lenOf pd_27 rfl) rfl rfl (Nat.le_of_ble_eq_true rfl) (Ok.pays (ok_aapp01 hw x t a ta hcap hc hd hxa hta SC nC SF rF SA SH SL8 F G) (wd125 hw) (wd108 hw) (by decide) (by decide)) (fun v h' q => q.2.1) (allS ⟨q_7, (Or.inl rfl)⟩ (allS ⟨q_8, (Or.inl rfl)⟩ all0)) (by decide) (by decide) ?_
  rintro _ h_17 ⟨rfl, q⟩
  refine Run.cast (st' := [(.ref x)]) rfl ?_
  refine r_pop d16_5 rfl rfl ?_
  refine r_aloadN d16_6 rfl rfl rfl ?_
  exact r_areturn d16_7 rfl rfl rfl rfl ⟨rfl, q⟩ (by simp) (by decide) (by decide)
set_option maxRecDepth 65536 in
set_option maxHeartbeats 40000000 in
theorem ok_psa10 {l : Launch} {Z : State} {a0 : Array Value} (hw : ∀ d ∈ tables_1, d.before a0 Z = true) {n0 : Nat} (x t a ta : Addr) {cs ds : List Int32} {cap : Nat} (hcap : cap ≤ 16) (hc : cs.length + ds.length ≤ cap) (hd : Lat ds) (hxa : @Ne Nat x a) (hta : @Ne Nat t ta) {zC : Int32} {vF : Value} {h0 : Heap} (SC : Sta Z Z.heap "java/lang/String" "COMPACT_STRINGS" "Z" (.int zC)) (nC : ¬ zC = 0) (SF : Sta Z Z.heap "jdk/internal/util/Preconditions" "SIOOBE_FORMATTER" "Ljava/util/function/BiFunction;" vF) (rF : vF.isRef = true) (SA : Sta Z Z.heap "java/lang/StringUTF16" "$assertionsDisabled" "Z" (.int 1)) (SH : Sta Z Z.heap "java/lang/StringUTF16" "HI_BYTE_SHIFT" "I" (.int 0)) (SL8 : Sta Z Z.heap "java/lang/StringUTF16" "LO_BYTE_SHIFT" "I" (.int 8)) (F : SB1 Z h0 n0 x t cs cap) (G : StrL Z h0 a ta ds) :
    Ok false l Z [] n0 [] (⟨"java/lang/AbstractStringBuilder", "putStringAt", "(ILjava/lang/String;)V"⟩ : MethodName) jdk_68_method_73_code 3 (Option.none : Option Jvm.ClassFile.FieldType) ({ frames := 6, cells := 0, slots := 0, locals := 91 } : Room) #[(.ref x), (.int (Int32.ofNat cs.length)), (.ref a)] h0 (fun v h => v = none ∧ Keep h0 h [x, t] ∧ ∃ t' : Addr, (t' = t ∨ @LE.le Nat instLENat h0.size t') ∧ @LE.le Nat instLENat n0 t' ∧ Exa Z h x "java/lang/StringBuilder" ∧ Fld Z h x "java/lang/AbstractStringBuilder" "value" "[B" (.ref t') ∧ Fld Z h x "java/lang/AbstractStringBuilder" "coder" "B" (.int 1) ∧ Fld Z h x "java/lang/AbstractStringBuilder" "count" "I" (.int (Int32.ofNat cs.length)) ∧ Fld Z h x "java/lang/AbstractStringBuilder" "maybeLatin1" "Z" (.int 0) ∧ (∃ k, Arv Z h t' k .byte (Int32.ofNat (2 * cap)) (ubv (cs ++ ds)) (.int 0))) (fun _ => []) := by
  refine Ok.of_run (ls0 := #[.val (.ref x), .val (.int (Int32.ofNat cs.length)), .val (.ref a)]) (plainFor_of_name (by first | (simp [plainName, overriddenIn]; done) | decide +kernel)) (fun m => by first | (simp [entryFrame, mkF, argsToLocals, Value.category]; done) | rfl) rfl ?_
  refine Run.old fun hO => ?_
  have hn0 : n0 ≤ h0.size := hO.1 ▸ hO.2.1
  obtain ⟨q_1, q_2, q_3, q_4, q_5, ⟨k_11, q_6⟩, q_7, q_8, q_9, q_10⟩ := (id F)
  have ne_12 : x ≠ t := Exa.neArv q_1 q_6 (wd99 hw)
  have lt_13 : @LT.lt Nat instLTNat x (Array.size h0) := Exa.lt q_1
  have lt_14 : @LT.lt Nat instLTNat t (Array.size h0) := Arv.lt q_6
  have lt_15 : @LT.lt Nat instLTNat a (Array.size h0) := (StrL.lt G)
  have lt_16 : @LT.lt Nat instLTNat ta (Array.size h0) := (StrL.ltB G)
  refine r_aloadN d21_0 rfl rfl rfl ?_
  refine r_aloadN d21_1 rfl rfl rfl ?_
  refine r_private (y := (⟨"java/lang/AbstractStringBuilder", "inflateIfNeededFor", "(Ljava/lang/String;)V"⟩ : MethodName)) (argsL := [(.ref a)]) (rest := []) (W := 0) (kc := 0) (ks := 0) (wl := []) d21_2 rfl (wd148 hw) (wd149 hw) (selP2 (wd150 hw) (wd149 hw) (wd151 hw) (by decide)) (wd150 hw) (wd152 hw) (by decide) q_1 (lenOf pd_23 rfl) rfl rfl (Nat.le_of_ble_eq_true rfl) (Ok.pays (ok_iin10 hw x t a ta hcap SC nC SF rF SA SH SL8 F G) (wd152 hw) (wd108 hw) (by decide) (by decide)) (fun v h' q => q.2 ▸ Keep.refl _ _) all0 (by decide) (by decide) ?_
  rintro _ h_17 ⟨rfl, eqh⟩
  subst h_17
  refine Run.cast (st' := []) rfl ?_
  refine r_aloadN d21_5 rfl rfl rfl ?_
  refine r_aloadN d21_6 rfl rfl rfl ?_
  refine r_getfield (host := "") d21_7 rfl (Or.inl (wd112 hw)) Via.refl q_2 ?_
  refine r_iloadN d21_10 rfl rfl ?_
  refine r_aloadN d21_11 rfl rfl rfl ?_
  refine r_getfield (host := "") d21_12 rfl (Or.inl (wd114 hw)) Via.refl q_3 ?_
  refine r_virtual (y := (⟨"java/lang/String", "getBytes", "([BIB)V"⟩ : MethodName)) (argsL := [(.ref t), (.int (Int32.ofNat cs.length)), (.int (1 : Int32))]) (rest := []) (W := 0) (kc := 0) (ks := 0) (wl := [t]) d21_15 rfl (wd154 hw) (wd155 hw) (wd157 hw) (wd156 hw) (by decide) ⟨rfl, rfl⟩ (StrL.exa G) (lenOf pd_24 rfl) rfl rfl (Nat.le_of_ble_eq_true rfl) (Ok.pays (ok_gb10 hw a ta t (by omega) hc hd hta q_8 SC nC SF rF SA SH SL8 G q_6) (wd158 hw) (wd6 hw) (by decide) (by decide)) (fun v h' q => q.2.1) (allS ⟨q_8, (Or.inl rfl)⟩ all0) (by decide) (by decide) ?_
  rintro _ h_18 ⟨rfl, KG, K2⟩
  refine Run.cast (st' := []) rfl ?_
  have szh_18 := KG.1
  have A_19 : Exa Z h_18 x "java/lang/StringBuilder" := (Exa.keep q_1 KG)
  have F_20 : Fld Z h_18 x "java/lang/AbstractStringBuilder" "value" "[B" (.ref t) := (Fld.keep q_2 KG (ninS ne_12 nin0))
  have F_21 : Fld Z h_18 x "java/lang/AbstractStringBuilder" "coder" "B" (.int (1 : Int32)) := (Fld.keep q_3 KG (ninS ne_12 nin0))
  have F_22 : Fld Z h_18 x "java/lang/AbstractStringBuilder" "count" "I" (.int (Int32.ofNat cs.length)) := (Fld.keep q_4 KG (ninS ne_12 nin0))
  have F_23 : Fld Z h_18 x "java/lang/AbstractStringBuilder" "maybeLatin1" "Z" (.int (0 : Int32)) := (Fld.keep q_5 KG (ninS ne_12 nin0))
  exact r_return d21_18 rfl ⟨rfl, (Keep.trans (Keep.refl _ _) KG (allS (Or.inl (by simp)) all0)), t, Or.inl rfl, q_8, A_19, F_20, F_21, F_22, F_23, ⟨_, K2⟩⟩ (by simp) (by decide) (by decide)
set_option maxRecDepth 65536 in
set_option maxHeartbeats 40000000 in
theorem ok_aapp10 {l : Launch} {Z : State} {a0 : Array Value} (hw : ∀ d ∈ tables_1, d.before a0 Z = true) {n0 : Nat} (x t a ta : Addr) {cs ds : List Int32} {cap : Nat} (hcap : cap ≤ 16) (hc : cs.length + ds.length ≤ cap) (hd : Lat ds) (hxa : @Ne Nat x a) (hta : @Ne Nat t ta) {zC : Int32} {vF : Value} {h0 : Heap} (SC : Sta Z Z.heap "java/lang/String" "COMPACT_STRINGS" "Z" (.int zC)) (nC : ¬ zC = 0) (SF : Sta Z Z.heap "jdk/internal/util/Preconditions" "SIOOBE_FORMATTER" "Ljava/util/function/BiFunction;" vF) (rF : vF.isRef = true) (SA : Sta Z Z.heap "java/lang/StringUTF16" "$assertionsDisabled" "Z" (.int 1)) (SH : Sta Z Z.heap "java/lang/StringUTF16" "HI_BYTE_SHIFT" "I" (.int 0)) (SL8 : Sta Z Z.heap "java/lang/StringUTF16" "LO_BYTE_SHIFT" "I" (.int 8)) (F : SB1 Z h0 n0 x t cs cap) (G : StrL Z h0 a ta ds) :
    Ok false l Z [] n0 [] (⟨"java/lang/AbstractStringBuilder", "append", "(Ljava/lang/String;)Ljava/lang/AbstractStringBuilder;"⟩ : MethodName) jdk_68_method_22_code 3 (Option.some (Jvm.ClassFile.FieldType.object "java/lang/AbstractStringBuilder")) ({ frames := 7, cells := 0, slots := 0, locals := 105 } : Room) #[(.ref x), (.ref a)] h0 (fun v h => v = some (.ref x) ∧ Keep h0 h [x, t] ∧ ∃ t' : Addr, (t' = t ∨ @LE.le Nat instLENat h0.size t') ∧ SB1 Z h n0 x t' (cs ++ ds) cap) (fun _ => []) := by
  refine Ok.of_run (ls0 := #[.val (.ref x), .val (.ref a), .unset]) (plainFor_of_name (by first | (simp [plainName, overriddenIn]; done) | decide +kernel)) (fun m => by first | (simp [entryFrame, mkF, argsToLocals, Value.category]; done) | rfl) rfl ?_
  refine Run.old fun hO => ?_
  have hn0 : n0 ≤ h0.size := hO.1 ▸ hO.2.1
  obtain ⟨q_1, q_2, q_3, q_4, q_5, ⟨k_11, q_6⟩, q_7, q_8, q_9, q_10⟩ := (id F)
  have ne_12 : x ≠ t := Exa.neArv q_1 q_6 (wd99 hw)
  have lt_13 : @LT.lt Nat instLTNat x (Array.size h0) := Exa.lt q_1
  have lt_14 : @LT.lt Nat instLTNat t (Array.size h0) := Arv.lt q_6
  have lt_15 : @LT.lt Nat instLTNat a (Array.size h0) := (StrL.lt G)
  have lt_16 : @LT.lt Nat instLTNat ta (Array.size h0) := (StrL.ltB G)
  refine r_aloadN d17_0 rfl rfl rfl ?_
  refine r_ifnonnullY (pc2 := 9) d17_1 rfl ?_
  refine r_aloadN d17_9 rfl rfl rfl ?_
  have GG : StrG Z h0 a ta ds := Or.inl ⟨hd, G⟩
  refine r_virtual (y := (⟨"java/lang/String", "length", "()I"⟩ : MethodName)) (argsL := []) (rest := []) (W := 0) (kc := 0) (ks := 0) (wl := []) d17_10 rfl (wd126 hw) (wd127 hw) (wd129 hw) (wd128 hw) (by decide) ⟨rfl, rfl⟩ (StrL.exa G) (lenOf pd_25 rfl) rfl rfl (Nat.le_of_ble_eq_true rfl) (Ok.pays (ok_glen hw a ta (by omega) SC nC GG) (wd130 hw) (wd6 hw) (by decide) (by decide)) (fun v h' q => q.2 ▸ Keep.refl _ _) all0 (by decide) (by decide) ?_
  rintro _ h_17 ⟨rfl, eqh⟩
  subst h_17
  refine Run.cast (st' := [(.int (Int32.ofNat ds.length))]) rfl ?_
  refine r_istoreN (l' := #[.val (.ref x), .val (.ref a), .val (.int (Int32.ofNat ds.length))]) d17_13 rfl rfl ?_
  refine r_aloadN d17_14 rfl rfl rfl ?_
  refine r_aloadN d17_15 rfl rfl rfl ?_
  refine r_getfield (host := "") d17_16 rfl (Or.inl (wd136 hw)) Via.refl q_4 ?_
  refine r_iloadN d17_19 rfl rfl ?_
  refine r_iadd d17_20 rfl ?_
  rw [show ((Int32.ofNat cs.length) + (Int32.ofNat ds.length)) = (Int32.ofNat (cs.length + ds.length)) from (ofNat_add' _ _)]
  refine r_private (y := (⟨"java/lang/AbstractStringBuilder", "ensureCapacityInternal", "(I)V"⟩ : MethodName)) (argsL := [(.int (Int32.ofNat (cs.length + ds.length)))]) (rest := []) (W := 0) (kc := 0) (ks := 0) (wl := []) d17_21 rfl (wd138 hw) (wd139 hw) (selP2 (wd140 hw) (wd139 hw) (wd141 hw) (by decide)) (wd140 hw) (wd142 hw) (by decide) q_1 (lenOf pd_21 rfl) rfl rfl (Nat.le_of_ble_eq_true rfl) (Ok.pays (ok_ens1 hw x t (by omega) (cs.length + ds.length) hc F) (wd142 hw) (wd108 hw) (by decide) (by decide)) (fun v h' q => q.2 ▸ Keep.refl _ _) all0 (by decide) (by decide) ?_
  rintro _ h_18 ⟨rfl, eqh⟩
  subst h_18
  refine Run.cast (st' := []) rfl ?_
  refine r_aloadN d17_24 rfl rfl rfl ?_
  refine r_aloadN d17_25 rfl rfl rfl ?_
  refine r_getfield (host := "") d17_26 rfl (Or.inl (wd136 hw)) Via.refl q_4 ?_
  refine r_aloadN d17_29 rfl rfl rfl ?_
  refine r_private (y := (⟨"java/lang/AbstractStringBuilder", "putStringAt", "(ILjava/lang/String;)V"⟩ : MethodName)) (argsL := [(.int (Int32.ofNat cs.length)), (.ref a)]) (rest := []) (W := 0) (kc := 0) (ks := 0) (wl := [x, t]) d17_30 rfl (wd143 hw) (wd144 hw) (selP2 (wd145 hw) (wd144 hw) (wd146 hw) (by decide)) (wd145 hw) (wd147 hw) (by decide) q_1 (lenOf pd_26 rfl) rfl rfl (Nat.le_of_ble_eq_true rfl) (Ok.pays (ok_psa10 hw x t a ta hcap hc hd hxa hta SC nC SF rF SA SH SL8 F G) (wd147 hw) (wd108 hw) (by decide) (by decide)) (fun v h' q => q.2.1) (allS ⟨q_7, (Or.inl rfl)⟩ (allS ⟨q_8, (Or.inl rfl)⟩ all0)) (by decide) (by decide) ?_
  rintro _ h_19 ⟨rfl, KP, t', hor, gt', E2, F1, F2, F3, F4, ⟨k2, K2⟩⟩
  refine Run.cast (st' := []) rfl ?_
  have szh_19 := KP.1
  have ne_20 : x ≠ t' := Exa.neArv E2 K2 (wd99 hw)
  refine r_aloadN d17_33 rfl rfl rfl ?_
  refine r_dup d17_34 rfl rfl ?_
  refine r_getfield (host := "") d17_35 rfl (Or.inl (wd136 hw)) Via.refl F3 ?_
  refine r_iloadN d17_38 rfl rfl ?_
  refine r_iadd d17_39 rfl ?_
  rw [show ((Int32.ofNat cs.length) + (Int32.ofNat ds.length)) = (Int32.ofNat (cs ++ ds).length) from (by rw [List.length_append]; exact ofNat_add' _ _)]
  refine r_putfield (ty := .int) (v' := (.int (Int32.ofNat (cs ++ ds).length))) d17_40 rfl (wd136 hw) Via.refl F3 E2 (Or.inl (wd137 hw)) (wd99 hw) (by decide) rfl rfl q_7 (Or.inl rfl) ?_
  intro h_21 W_22
  have szh_21 := Wr.size W_22
  have F_23 : Fld Z h_21 x "java/lang/AbstractStringBuilder" "count" "I" (.int (Int32.ofNat (cs ++ ds).length)) := Fld.same W_22 F3
  refine r_aloadN d17_43 rfl rfl rfl ?_
  have A_24 : Exa Z h_21 x "java/lang/StringBuilder" := (Exa.wr W_22 E2)
  have F_25 : Fld Z h_21 x "java/lang/AbstractStringBuilder" "value" "[B" (.ref t') := (Fld.other W_22 F1 (Or.inr (slot_ne (Or.inl (wd113 hw)) (Or.inl (wd137 hw)) (by decide) (t := (.array .byte)) (t' := .int) (by decide) (by decide))))
  have F_26 : Fld Z h_21 x "java/lang/AbstractStringBuilder" "coder" "B" (.int (1 : Int32)) := (Fld.other W_22 F2 (Or.inr (slot_ne (Or.inl (wd115 hw)) (Or.inl (wd137 hw)) (by decide) (t := .byte) (t' := .int) (by decide) (by decide))))
  have F_27 : Fld Z h_21 x "java/lang/AbstractStringBuilder" "maybeLatin1" "Z" (.int (0 : Int32)) := (Fld.other W_22 F4 (Or.inr (slot_ne (Or.inl (wd297 hw)) (Or.inl (wd137 hw)) (by decide) (t := .boolean) (t' := .int) (by decide) (by decide))))
  have K_28 : Arv Z h_21 t' k2 .byte (Int32.ofNat (2 * cap)) (ubv (cs ++ ds)) (.int 0) := (Arv.other K2 W_22 (Ne.symm ne_20))
  exact r_areturn d17_44 rfl rfl rfl rfl ⟨rfl, (Keep.wr (Keep.trans (Keep.refl _ _) KP (allS (Or.inl (by simp)) (allS (Or.inl (by simp)) all0))) W_22 (Or.inl (by simp))), t', hor, ⟨A_24, F_25, F_26, F_23, F_27, ⟨_, K_28⟩, q_7, gt', Uni.app q_9 (Lat.uni hd), by rw [List.length_append]; exact hc⟩⟩ (by simp) (by decide) (by decide)
set_option maxRecDepth 65536 in
set_option maxHeartbeats 40000000 in
theorem ok_sapp10 {l : Launch} {Z : State} {a0 : Array Value} (hw : ∀ d ∈ tables_1, d.before a0 Z = true) {n0 : Nat} (x t a ta : Addr) {cs ds : List Int32} {cap : Nat} (hcap : cap ≤ 16) (hc : cs.length + ds.length ≤ cap) (hd : Lat ds) (hxa : @Ne Nat x a) (hta : @Ne Nat t ta) {zC : Int32} {vF : Value} {h0 : Heap} (SC : Sta Z Z.heap "java/lang/String" "COMPACT_STRINGS" "Z" (.int zC)) (nC : ¬ zC = 0) (SF : Sta Z Z.heap "jdk/internal/util/Preconditions" "SIOOBE_FORMATTER" "Ljava/util/function/BiFunction;" vF) (rF : vF.isRef = true) (SA : Sta Z Z.heap "java/lang/StringUTF16" "$assertionsDisabled" "Z" (.int 1)) (SH : Sta Z Z.heap "java/lang/StringUTF16" "HI_BYTE_SHIFT" "I" (.int 0)) (SL8 : Sta Z Z.heap "java/lang/StringUTF16" "LO_BYTE_SHIFT" "I" (.int 8)) (F : SB1 Z h0 n0 x t cs cap) (G : StrL Z h0 a ta ds) :
    Ok false l Z [] n0 [] (⟨"java/lang/StringBuilder", "append", "(Ljava/lang/String;)Ljava/lang/StringBuilder;"⟩ : MethodName) jdk_67_method_7_code 2 (Option.some (Jvm.ClassFile.FieldType.object "java/lang/StringBuilder")) ({ frames := 8, cells := 0, slots := 0, locals := 119 } : Room) #[(.ref x), (.ref a)] h0 (fun v h => v = some (.ref x) ∧ Keep h0 h [x, t] ∧ ∃ t' : Addr, (t' = t ∨ @LE.le Nat instLENat h0.size t') ∧ SB1 Z h n0 x t' (cs ++ ds) cap) (fun _ => []) := by
  refine Ok.of_run (ls0 := #[.val (.ref x), .val (.ref a)]) (plainFor_of_name (by first | (simp [plainName, overriddenIn]; done) | decide +kernel)) (fun m => by first | (simp [entryFrame, mkF, argsToLocals, Value.category]; done) | rfl) rfl ?_
  refine Run.old fun hO => ?_
  have hn0 : n0 ≤ h0.size := hO.1 ▸ hO.2.1
  obtain ⟨q_1, q_2, q_3, q_4, q_5, ⟨k_11, q_6⟩, q_7, q_8, q_9, q_10⟩ := (id F)
  have ne_12 : x ≠ t := Exa.neArv q_1 q_6 (wd99 hw)
  have lt_13 : @LT.lt Nat instLTNat x (Array.size h0) := Exa.lt q_1
  have lt_14 : @LT.lt Nat instLTNat t (Array.size h0) := Arv.lt q_6
  have lt_15 : @LT.lt Nat instLTNat a (Array.size h0) := (StrL.lt G)
  have lt_16 : @LT.lt Nat instLTNat ta (Array.size h0) := (StrL.ltB G)
  refine r_aloadN d16_0 rfl rfl rfl ?_
  refine r_aloadN d16_1 rfl rfl rfl ?_
  refine r_super (y := (⟨"java/lang/AbstractStringBuilder", "append", "(Ljava/lang/String;)Ljava/lang/AbstractStringBuilder;"⟩ : MethodName)) (argsL := [(.ref a)]) (rest := []) (W := 0) (kc := 0) (ks := 0) (wl := [x, t]) d16_2 rfl (by decide) (wd121 hw) (sameM (wd122 hw) (wd141 hw) rfl (by decide)) (wd122 hw) (wd123 hw) (wd125 hw) q_1 (lenOf pd_27 rfl) rfl rfl (Nat.le_of_ble_eq_true rfl) (Ok.pays (ok_aapp10 hw x t a ta hcap hc hd hxa hta SC nC SF rF SA SH SL8 F G) (wd125 hw) (wd108 hw) (by decide) (by decide)) (fun v h' q => q.2.1) (allS ⟨q_7, (Or.inl rfl)⟩ (allS ⟨q_8, (Or.inl rfl)⟩ all0)) (by decide) (by decide) ?_
  rintro _ h_17 ⟨rfl, q⟩
  refine Run.cast (st' := [(.ref x)]) rfl ?_
  refine r_pop d16_5 rfl rfl ?_
  refine r_aloadN d16_6 rfl rfl rfl ?_
  exact r_areturn d16_7 rfl rfl rfl rfl ⟨rfl, q⟩ (by simp) (by decide) (by decide)
set_option maxRecDepth 65536 in
set_option maxHeartbeats 40000000 in
theorem ok_psa11 {l : Launch} {Z : State} {a0 : Array Value} (hw : ∀ d ∈ tables_1, d.before a0 Z = true) {n0 : Nat} (x t a ta : Addr) {cs ds : List Int32} {cap : Nat} (hcap : cap ≤ 16) (hc : cs.length + ds.length ≤ cap) (hd : Uni ds) (hxa : @Ne Nat x a) (hta : @Ne Nat t ta) {zC : Int32} {vF : Value} {h0 : Heap} (SC : Sta Z Z.heap "java/lang/String" "COMPACT_STRINGS" "Z" (.int zC)) (nC : ¬ zC = 0) (SF : Sta Z Z.heap "jdk/internal/util/Preconditions" "SIOOBE_FORMATTER" "Ljava/util/function/BiFunction;" vF) (rF : vF.isRef = true) (SA : Sta Z Z.heap "java/lang/StringUTF16" "$assertionsDisabled" "Z" (.int 1)) (SH : Sta Z Z.heap "java/lang/StringUTF16" "HI_BYTE_SHIFT" "I" (.int 0)) (SL8 : Sta Z Z.heap "java/lang/StringUTF16" "LO_BYTE_SHIFT" "I" (.int 8)) (F : SB1 Z h0 n0 x t cs cap) (G : StrU Z h0 a ta ds) :
    Ok false l Z [] n0 [] (⟨"java/lang/AbstractStringBuilder", "putStringAt", "(ILjava/lang/String;)V"⟩ : MethodName) jdk_68_method_73_code 3 (Option.none : Option Jvm.ClassFile.FieldType) ({ frames := 2, cells := 0, slots := 0, locals := 35 } : Room) #[(.ref x), (.int (Int32.ofNat cs.length)), (.ref a)] h0 (fun v h => v = none ∧ Keep h0 h [x, t] ∧ ∃ t' : Addr, (t' = t ∨ @LE.le Nat instLENat h0.size t') ∧ @LE.le Nat instLENat n0 t' ∧ Exa Z h x "java/lang/StringBuilder" ∧ Fld Z h x "java/lang/AbstractStringBuilder" "value" "[B" (.ref t') ∧ Fld Z h x "java/lang/AbstractStringBuilder" "coder" "B" (.int 1) ∧ Fld Z h x "java/lang/AbstractStringBuilder" "count" "I" (.int (Int32.ofNat cs.length)) ∧ Fld Z h x "java/lang/AbstractStringBuilder" "maybeLatin1" "Z" (.int 0) ∧ (∃ k, Arv Z h t' k .byte (Int32.ofNat (2 * cap)) (ubv (cs ++ ds)) (.int 0))) (fun _ => []) := by
  refine Ok.of_run (ls0 := #[.val (.ref x), .val (.int (Int32.ofNat cs.length)), .val (.ref a)]) (plainFor_of_name (by first | (simp [plainName, overriddenIn]; done) | decide +kernel)) (fun m => by first | (simp [entryFrame, mkF, argsToLocals, Value.category]; done) | rfl) rfl ?_
  refine Run.old fun hO => ?_
  have hn0 : n0 ≤ h0.size := hO.1 ▸ hO.2.1
  obtain ⟨q_1, q_2, q_3, q_4, q_5, ⟨k_11, q_6⟩, q_7, q_8, q_9, q_10⟩ := (id F)
  have ne_12 : x ≠ t := Exa.neArv q_1 q_6 (wd99 hw)
  have lt_13 : @LT.lt Nat instLTNat x (Array.size h0) := Exa.lt q_1
  have lt_14 : @LT.lt Nat instLTNat t (Array.size h0) := Arv.lt q_6
  have lt_15 : @LT.lt Nat instLTNat a (Array.size h0) := (StrU.lt G)
  have lt_16 : @LT.lt Nat instLTNat ta (Array.size h0) := (StrU.ltB G)
  refine r_aloadN d21_0 rfl rfl rfl ?_
  refine r_aloadN d21_1 rfl rfl rfl ?_
  refine r_private (y := (⟨"java/lang/AbstractStringBuilder", "inflateIfNeededFor", "(Ljava/lang/String;)V"⟩ : MethodName)) (argsL := [(.ref a)]) (rest := []) (W := 0) (kc := 0) (ks := 0) (wl := []) d21_2 rfl (wd148 hw) (wd149 hw) (selP2 (wd150 hw) (wd149 hw) (wd151 hw) (by decide)) (wd150 hw) (wd152 hw) (by decide) q_1 (lenOf pd_23 rfl) rfl rfl (Nat.le_of_ble_eq_true rfl) (Ok.pays (ok_iin11 hw x t a ta hcap SC nC SF rF SA SH SL8 F G) (wd152 hw) (wd108 hw) (by decide) (by decide)) (fun v h' q => q.2 ▸ Keep.refl _ _) all0 (by decide) (by decide) ?_
  rintro _ h_17 ⟨rfl, eqh⟩
  subst h_17
  refine Run.cast (st' := []) rfl ?_
  refine r_aloadN d21_5 rfl rfl rfl ?_
  refine r_aloadN d21_6 rfl rfl rfl ?_
  refine r_getfield (host := "") d21_7 rfl (Or.inl (wd112 hw)) Via.refl q_2 ?_
  refine r_iloadN d21_10 rfl rfl ?_
  refine r_aloadN d21_11 rfl rfl rfl ?_
  refine r_getfield (host := "") d21_12 rfl (Or.inl (wd114 hw)) Via.refl q_3 ?_
  refine r_virtual (y := (⟨"java/lang/String", "getBytes", "([BIB)V"⟩ : MethodName)) (argsL := [(.ref t), (.int (Int32.ofNat cs.length)), (.int (1 : Int32))]) (rest := []) (W := 0) (kc := 0) (ks := 0) (wl := [t]) d21_15 rfl (wd154 hw) (wd155 hw) (wd157 hw) (wd156 hw) (by decide) ⟨rfl, rfl⟩ (StrU.exa G) (lenOf pd_24 rfl) rfl rfl (Nat.le_of_ble_eq_true rfl) (Ok.pays (ok_gb11 hw a ta t (by omega) hc hd hta q_8 SC nC SF rF SA SH SL8 G q_6) (wd158 hw) (wd6 hw) (by decide) (by decide)) (fun v h' q => q.2.1) (allS ⟨q_8, (Or.inl rfl)⟩ all0) (by decide) (by decide) ?_
  rintro _ h_18 ⟨rfl, KG, K2⟩
  refine Run.cast (st' := []) rfl ?_
  have szh_18 := KG.1
  have A_19 : Exa Z h_18 x "java/lang/StringBuilder" := (Exa.keep q_1 KG)
  have F_20 : Fld Z h_18 x "java/lang/AbstractStringBuilder" "value" "[B" (.ref t) := (Fld.keep q_2 KG (ninS ne_12 nin0))
  have F_21 : Fld Z h_18 x "java/lang/AbstractStringBuilder" "coder" "B" (.int (1 : Int32)) := (Fld.keep q_3 KG (ninS ne_12 nin0))
  have F_22 : Fld Z h_18 x "java/lang/AbstractStringBuilder" "count" "I" (.int (Int32.ofNat cs.length)) := (Fld.keep q_4 KG (ninS ne_12 nin0))
  have F_23 : Fld Z h_18 x "java/lang/AbstractStringBuilder" "maybeLatin1" "Z" (.int (0 : Int32)) := (Fld.keep q_5 KG (ninS ne_12 nin0))
  exact r_return d21_18 rfl ⟨rfl, (Keep.trans (Keep.refl _ _) KG (allS (Or.inl (by simp)) all0)), t, Or.inl rfl, q_8, A_19, F_20, F_21, F_22, F_23, ⟨_, K2⟩⟩ (by simp) (by decide) (by decide)
set_option maxRecDepth 65536 in
set_option maxHeartbeats 40000000 in
theorem ok_aapp11 {l : Launch} {Z : State} {a0 : Array Value} (hw : ∀ d ∈ tables_1, d.before a0 Z = true) {n0 : Nat} (x t a ta : Addr) {cs ds : List Int32} {cap : Nat} (hcap : cap ≤ 16) (hc : cs.length + ds.length ≤ cap) (hd : Uni ds) (hxa : @Ne Nat x a) (hta : @Ne Nat t ta) {zC : Int32} {vF : Value} {h0 : Heap} (SC : Sta Z Z.heap "java/lang/String" "COMPACT_STRINGS" "Z" (.int zC)) (nC : ¬ zC = 0) (SF : Sta Z Z.heap "jdk/internal/util/Preconditions" "SIOOBE_FORMATTER" "Ljava/util/function/BiFunction;" vF) (rF : vF.isRef = true) (SA : Sta Z Z.heap "java/lang/StringUTF16" "$assertionsDisabled" "Z" (.int 1)) (SH : Sta Z Z.heap "java/lang/StringUTF16" "HI_BYTE_SHIFT" "I" (.int 0)) (SL8 : Sta Z Z.heap "java/lang/StringUTF16" "LO_BYTE_SHIFT" "I" (.int 8)) (F : SB1 Z h0 n0 x t cs cap) (G : StrU Z h0 a ta ds) :
    Ok false l Z [] n0 [] (⟨"java/lang/AbstractStringBuilder", "append", "(Ljava/lang/String;)Ljava/lang/AbstractStringBuilder;"⟩ : MethodName) jdk_68_method_22_code 3 (Option.some (Jvm.ClassFile.FieldType.object "java/lang/AbstractStringBuilder")) ({ frames := 3, cells := 0, slots := 0, locals := 49 } : Room) #[(.ref x), (.ref a)] h0 (fun v h => v = some (.ref x) ∧ Keep h0 h [x, t] ∧ ∃ t' : Addr, (t' = t ∨ @LE.le Nat instLENat h0.size t') ∧ SB1 Z h n0 x t' (cs ++ ds) cap) (fun _ => []) := by
  refine Ok.of_run (ls0 := #[.val (.ref x), .val (.ref a), .unset]) (plainFor_of_name (by first | (simp [plainName, overriddenIn]; done) | decide +kernel)) (fun m => by first | (simp [entryFrame, mkF, argsToLocals, Value.category]; done) | rfl) rfl ?_
  refine Run.old fun hO => ?_
  have hn0 : n0 ≤ h0.size := hO.1 ▸ hO.2.1
  obtain ⟨q_1, q_2, q_3, q_4, q_5, ⟨k_11, q_6⟩, q_7, q_8, q_9, q_10⟩ := (id F)
  have ne_12 : x ≠ t := Exa.neArv q_1 q_6 (wd99 hw)
  have lt_13 : @LT.lt Nat instLTNat x (Array.size h0) := Exa.lt q_1
  have lt_14 : @LT.lt Nat instLTNat t (Array.size h0) := Arv.lt q_6
  have lt_15 : @LT.lt Nat instLTNat a (Array.size h0) := (StrU.lt G)
  have lt_16 : @LT.lt Nat instLTNat ta (Array.size h0) := (StrU.ltB G)
  refine r_aloadN d17_0 rfl rfl rfl ?_
  refine r_ifnonnullY (pc2 := 9) d17_1 rfl ?_
  refine r_aloadN d17_9 rfl rfl rfl ?_
  have GG : StrG Z h0 a ta ds := Or.inr ⟨hd, G⟩
  refine r_virtual (y := (⟨"java/lang/String", "length", "()I"⟩ : MethodName)) (argsL := []) (rest := []) (W := 0) (kc := 0) (ks := 0) (wl := []) d17_10 rfl (wd126 hw) (wd127 hw) (wd129 hw) (wd128 hw) (by decide) ⟨rfl, rfl⟩ (StrU.exa G) (lenOf pd_25 rfl) rfl rfl (Nat.le_of_ble_eq_true rfl) (Ok.pays (ok_glen hw a ta (by omega) SC nC GG) (wd130 hw) (wd6 hw) (by decide) (by decide)) (fun v h' q => q.2 ▸ Keep.refl _ _) all0 (by decide) (by decide) ?_
  rintro _ h_17 ⟨rfl, eqh⟩
  subst h_17
  refine Run.cast (st' := [(.int (Int32.ofNat ds.length))]) rfl ?_
  refine r_istoreN (l' := #[.val (.ref x), .val (.ref a), .val (.int (Int32.ofNat ds.length))]) d17_13 rfl rfl ?_
  refine r_aloadN d17_14 rfl rfl rfl ?_
  refine r_aloadN d17_15 rfl rfl rfl ?_
  refine r_getfield (host := "") d17_16 rfl (Or.inl (wd136 hw)) Via.refl q_4 ?_
  refine r_iloadN d17_19 rfl rfl ?_
  refine r_iadd d17_20 rfl ?_
  rw [show ((Int32.ofNat cs.length) + (Int32.ofNat ds.length)) = (Int32.ofNat (cs.length + ds.length)) from (ofNat_add' _ _)]
  refine r_private (y := (⟨"java/lang/AbstractStringBuilder", "ensureCapacityInternal", "(I)V"⟩ : MethodName)) (argsL := [(.int (Int32.ofNat (cs.length + ds.length)))]) (rest := []) (W := 0) (kc := 0) (ks := 0) (wl := []) d17_21 rfl (wd138 hw) (wd139 hw) (selP2 (wd140 hw) (wd139 hw) (wd141 hw) (by decide)) (wd140 hw) (wd142 hw) (by decide) q_1 (lenOf pd_21 rfl) rfl rfl (Nat.le_of_ble_eq_true rfl) (Ok.pays (ok_ens1 hw x t (by omega) (cs.length + ds.length) hc F) (wd142 hw) (wd108 hw) (by decide) (by decide)) (fun v h' q => q.2 ▸ Keep.refl _ _) all0 (by decide) (by decide) ?_
  rintro _ h_18 ⟨rfl, eqh⟩
  subst h_18
  refine Run.cast (st' := []) rfl ?_
  refine r_aloadN d17_24 rfl rfl rfl ?_
  refine r_aloadN d17_25 rfl rfl rfl ?_
  refine r_getfield (host := "") d17_26 rfl (Or.inl (wd136 hw)) Via.refl q_4 ?_
  refine r_aloadN d17_29 rfl rfl rfl ?_
  refine r_private (y := (⟨"java/lang/AbstractStringBuilder", "putStringAt", "(ILjava/lang/String;)V"⟩ : MethodName)) (argsL := [(.int (Int32.ofNat cs.length)), (.ref a)]) (rest := []) (W := 0) (kc := 0) (ks := 0) (wl := [x, t]) d17_30 rfl (wd143 hw) (wd144 hw) (selP2 (wd145 hw) (wd144 hw) (wd146 hw) (by decide)) (wd145 hw) (wd147 hw) (by decide) q_1 (lenOf pd_26 rfl) rfl rfl (Nat.le_of_ble_eq_true rfl) (Ok.pays (ok_psa11 hw x t a ta hcap hc hd hxa hta SC nC SF rF SA SH SL8 F G) (wd147 hw) (wd108 hw) (by decide) (by decide)) (fun v h' q => q.2.1) (allS ⟨q_7, (Or.inl rfl)⟩ (allS ⟨q_8, (Or.inl rfl)⟩ all0)) (by decide) (by decide) ?_
  rintro _ h_19 ⟨rfl, KP, t', hor, gt', E2, F1, F2, F3, F4, ⟨k2, K2⟩⟩
  refine Run.cast (st' := []) rfl ?_
  have szh_19 := KP.1
  have ne_20 : x ≠ t' := Exa.neArv E2 K2 (wd99 hw)
  refine r_aloadN d17_33 rfl rfl rfl ?_
  refine r_dup d17_34 rfl rfl ?_
  refine r_getfield (host := "") d17_35 rfl (Or.inl (wd136 hw)) Via.refl F3 ?_
  refine r_iloadN d17_38 rfl rfl ?_
  refine r_iadd d17_39 rfl ?_
  rw [show ((Int32.ofNat cs.length) + (Int32.ofNat ds.length)) = (Int32.ofNat (cs ++ ds).length) from (by rw [List.length_append]; exact ofNat_add' _ _)]
  refine r_putfield (ty := .int) (v' := (.int (Int32.ofNat (cs ++ ds).length))) d17_40 rfl (wd136 hw) Via.refl F3 E2 (Or.inl (wd137 hw)) (wd99 hw) (by decide) rfl rfl q_7 (Or.inl rfl) ?_
  intro h_21 W_22
  have szh_21 := Wr.size W_22
  have F_23 : Fld Z h_21 x "java/lang/AbstractStringBuilder" "count" "I" (.int (Int32.ofNat (cs ++ ds).length)) := Fld.same W_22 F3
  refine r_aloadN d17_43 rfl rfl rfl ?_
  have A_24 : Exa Z h_21 x "java/lang/StringBuilder" := (Exa.wr W_22 E2)
  have F_25 : Fld Z h_21 x "java/lang/AbstractStringBuilder" "value" "[B" (.ref t') := (Fld.other W_22 F1 (Or.inr (slot_ne (Or.inl (wd113 hw)) (Or.inl (wd137 hw)) (by decide) (t := (.array .byte)) (t' := .int) (by decide) (by decide))))
  have F_26 : Fld Z h_21 x "java/lang/AbstractStringBuilder" "coder" "B" (.int (1 : Int32)) := (Fld.other W_22 F2 (Or.inr (slot_ne (Or.inl (wd115 hw)) (Or.inl (wd137 hw)) (by decide) (t := .byte) (t' := .int) (by decide) (by decide))))
  have F_27 : Fld Z h_21 x "java/lang/AbstractStringBuilder" "maybeLatin1" "Z" (.int (0 : Int32)) := (Fld.other W_22 F4 (Or.inr (slot_ne (Or.inl (wd297 hw)) (Or.inl (wd137 hw)) (by decide) (t := .boolean) (t' := .int) (by decide) (by decide))))
  have K_28 : Arv Z h_21 t' k2 .byte (Int32.ofNat (2 * cap)) (ubv (cs ++ ds)) (.int 0) := (Arv.other K2 W_22 (Ne.symm ne_20))
  exact r_areturn d17_44 rfl rfl rfl rfl ⟨rfl, (Keep.wr (Keep.trans (Keep.refl _ _) KP (allS (Or.inl (by simp)) (allS (Or.inl (by simp)) all0))) W_22 (Or.inl (by simp))), t', hor, ⟨A_24, F_25, F_26, F_23, F_27, ⟨_, K_28⟩, q_7, gt', Uni.app q_9 hd, by rw [List.length_append]; exact hc⟩⟩ (by simp) (by decide) (by decide)
set_option maxRecDepth 65536 in
set_option maxHeartbeats 40000000 in
theorem ok_sapp11 {l : Launch} {Z : State} {a0 : Array Value} (hw : ∀ d ∈ tables_1, d.before a0 Z = true) {n0 : Nat} (x t a ta : Addr) {cs ds : List Int32} {cap : Nat} (hcap : cap ≤ 16) (hc : cs.length + ds.length ≤ cap) (hd : Uni ds) (hxa : @Ne Nat x a) (hta : @Ne Nat t ta) {zC : Int32} {vF : Value} {h0 : Heap} (SC : Sta Z Z.heap "java/lang/String" "COMPACT_STRINGS" "Z" (.int zC)) (nC : ¬ zC = 0) (SF : Sta Z Z.heap "jdk/internal/util/Preconditions" "SIOOBE_FORMATTER" "Ljava/util/function/BiFunction;" vF) (rF : vF.isRef = true) (SA : Sta Z Z.heap "java/lang/StringUTF16" "$assertionsDisabled" "Z" (.int 1)) (SH : Sta Z Z.heap "java/lang/StringUTF16" "HI_BYTE_SHIFT" "I" (.int 0)) (SL8 : Sta Z Z.heap "java/lang/StringUTF16" "LO_BYTE_SHIFT" "I" (.int 8)) (F : SB1 Z h0 n0 x t cs cap) (G : StrU Z h0 a ta ds) :
    Ok false l Z [] n0 [] (⟨"java/lang/StringBuilder", "append", "(Ljava/lang/String;)Ljava/lang/StringBuilder;"⟩ : MethodName) jdk_67_method_7_code 2 (Option.some (Jvm.ClassFile.FieldType.object "java/lang/StringBuilder")) ({ frames := 4, cells := 0, slots := 0, locals := 63 } : Room) #[(.ref x), (.ref a)] h0 (fun v h => v = some (.ref x) ∧ Keep h0 h [x, t] ∧ ∃ t' : Addr, (t' = t ∨ @LE.le Nat instLENat h0.size t') ∧ SB1 Z h n0 x t' (cs ++ ds) cap) (fun _ => []) := by
  refine Ok.of_run (ls0 := #[.val (.ref x), .val (.ref a)]) (plainFor_of_name (by first | (simp [plainName, overriddenIn]; done) | decide +kernel)) (fun m => by first | (simp [entryFrame, mkF, argsToLocals, Value.category]; done) | rfl) rfl ?_
  refine Run.old fun hO => ?_
  have hn0 : n0 ≤ h0.size := hO.1 ▸ hO.2.1
  obtain ⟨q_1, q_2, q_3, q_4, q_5, ⟨k_11, q_6⟩, q_7, q_8, q_9, q_10⟩ := (id F)
  have ne_12 : x ≠ t := Exa.neArv q_1 q_6 (wd99 hw)
  have lt_13 : @LT.lt Nat instLTNat x (Array.size h0) := Exa.lt q_1
  have lt_14 : @LT.lt Nat instLTNat t (Array.size h0) := Arv.lt q_6
  have lt_15 : @LT.lt Nat instLTNat a (Array.size h0) := (StrU.lt G)
  have lt_16 : @LT.lt Nat instLTNat ta (Array.size h0) := (StrU.ltB G)
  refine r_aloadN d16_0 rfl rfl rfl ?_
  refine r_aloadN d16_1 rfl rfl rfl ?_
  refine r_super (y := (⟨"java/lang/AbstractStringBuilder", "append", "(Ljava/lang/String;)Ljava/lang/AbstractStringBuilder;"⟩ : MethodName)) (argsL := [(.ref a)]) (rest := []) (W := 0) (kc := 0) (ks := 0) (wl := [x, t]) d16_2 rfl (by decide) (wd121 hw) (sameM (wd122 hw) (wd141 hw) rfl (by decide)) (wd122 hw) (wd123 hw) (wd125 hw) q_1 (lenOf pd_27 rfl) rfl rfl (Nat.le_of_ble_eq_true rfl) (Ok.pays (ok_aapp11 hw x t a ta hcap hc hd hxa hta SC nC SF rF SA SH SL8 F G) (wd125 hw) (wd108 hw) (by decide) (by decide)) (fun v h' q => q.2.1) (allS ⟨q_7, (Or.inl rfl)⟩ (allS ⟨q_8, (Or.inl rfl)⟩ all0)) (by decide) (by decide) ?_
  rintro _ h_17 ⟨rfl, q⟩
  refine Run.cast (st' := [(.ref x)]) rfl ?_
  refine r_pop d16_5 rfl rfl ?_
  refine r_aloadN d16_6 rfl rfl rfl ?_
  exact r_areturn d16_7 rfl rfl rfl rfl ⟨rfl, q⟩ (by simp) (by decide) (by decide)
def SBG (Z : State) (h : Heap) (n0 : Nat) (x t : Addr) (cs : List Int32) (cap : Nat) : Prop := SB0 Z h n0 x t cs cap ∨ SB1 Z h n0 x t cs cap
section SBG
variable {Z : State} {h h' : Heap} {n0 : Nat} {x t : Addr} {cs : List Int32} {cap : Nat}
theorem SBG.exa (F : SBG Z h n0 x t cs cap) : Exa Z h x "java/lang/StringBuilder" := by rcases F with F | F; exact F.exa; exact F.exa
theorem SBG.gx (F : SBG Z h n0 x t cs cap) : n0 ≤ x := by rcases F with F | F; exact F.gx; exact F.gx
theorem SBG.gt (F : SBG Z h n0 x t cs cap) : n0 ≤ t := by rcases F with F | F; exact F.gt; exact F.gt
theorem SBG.ltB (F : SBG Z h n0 x t cs cap) : t < h.size := by rcases F with F | F; exact F.ltB; exact F.ltB
theorem SBG.keep {ws : List Addr} (F : SBG Z h n0 x t cs cap) (K : Keep h h' ws) (q1 : x ∉ ws) (q2 : t ∉ ws) : SBG Z h' n0 x t cs cap := by rcases F with F | F; exact Or.inl (F.keep K q1 q2); exact Or.inr (F.keep K q1 q2)
end SBG
theorem ok_gapp {l : Launch} {Z : State} {a0 : Array Value} (hw : ∀ d ∈ tables_1, d.before a0 Z = true) {n0 : Nat} (x t a ta : Addr) {cs ds : List Int32} {cap : Nat} (hcap : cap ≤ 16) (hc : cs.length + ds.length ≤ cap) (hxa : @Ne Nat x a) (hta : @Ne Nat t ta) {zC : Int32} {vF : Value} {h0 : Heap} (SC : Sta Z Z.heap "java/lang/String" "COMPACT_STRINGS" "Z" (.int zC)) (nC : ¬ zC = 0) (SF : Sta Z Z.heap "jdk/internal/util/Preconditions" "SIOOBE_FORMATTER" "Ljava/util/function/BiFunction;" vF) (rF : vF.isRef = true) (SA : Sta Z Z.heap "java/lang/StringUTF16" "$assertionsDisabled" "Z" (.int 1)) (SH : Sta Z Z.heap "java/lang/StringUTF16" "HI_BYTE_SHIFT" "I" (.int 0)) (SL8 : Sta Z Z.heap "java/lang/StringUTF16" "LO_BYTE_SHIFT" "I" (.int 8)) (F : SBG Z h0 n0 x t cs cap) (G : StrG Z h0 a ta ds) {R : Room} {W : Nat} (hf : 9 + 1 ≤ R.frames) (hlo : W + (2 + 11) + 130 ≤ R.locals) :
    Pays l Z n0 R (⟨"java/lang/StringBuilder", "append", "(Ljava/lang/String;)Ljava/lang/StringBuilder;"⟩ : MethodName) 3 W #[.ref x, .ref a] h0 1 32 (fun v h => v = some (.ref x) ∧ Keep h0 h [x, t] ∧ ∃ t' : Addr, (t' = t ∨ @LE.le Nat instLENat h0.size t') ∧ SBG Z h n0 x t' (cs ++ ds) cap) := by
  rcases F with F | F <;> rcases G with ⟨hd, G⟩ | ⟨hd, G⟩
  · exact Pays.weak (by decide) (by decide) (Ok.pays (ok_sapp00 hw x t a ta hcap hc hd hxa hta SC nC SF rF SA SH SL8 F G) (wd120 hw) (wd100 hw) (Nat.le_trans (by decide) hf) (Nat.le_trans (Nat.add_le_add_left (by decide) _) hlo)) (fun v h q => ⟨q.1, q.2.1, by obtain ⟨t', a1, a2⟩ := q.2.2; exact ⟨t', a1, Or.inl a2⟩⟩)
  · exact Pays.weak (by decide) (by decide) (Ok.pays (ok_sapp01 hw x t a ta hcap hc hd hxa hta SC nC SF rF SA SH SL8 F G) (wd120 hw) (wd100 hw) (Nat.le_trans (by decide) hf) (Nat.le_trans (Nat.add_le_add_left (by decide) _) hlo)) (fun v h q => ⟨q.1, q.2.1, by obtain ⟨t', a1, a2⟩ := q.2.2; exact ⟨t', a1, Or.inr a2⟩⟩)
  · exact Pays.weak (by decide) (by decide) (Ok.pays (ok_sapp10 hw x t a ta hcap hc hd hxa hta SC nC SF rF SA SH SL8 F G) (wd120 hw) (wd100 hw) (Nat.le_trans (by decide) hf) (Nat.le_trans (Nat.add_le_add_left (by decide) _) hlo)) (fun v h q => ⟨q.1, q.2.1, by obtain ⟨t', a1, a2⟩ := q.2.2; exact ⟨t', a1, Or.inr a2⟩⟩)
  · exact Pays.weak (by decide) (by decide) (Ok.pays (ok_sapp11 hw x t a ta hcap hc hd hxa hta SC nC SF rF SA SH SL8 F G) (wd120 hw) (wd100 hw) (Nat.le_trans (by decide) hf) (Nat.le_trans (Nat.add_le_add_left (by decide) _) hlo)) (fun v h q => ⟨q.1, q.2.1, by obtain ⟨t', a1, a2⟩ := q.2.2; exact ⟨t', a1, Or.inr a2⟩⟩)
set_option maxRecDepth 65536 in
set_option maxHeartbeats 40000000 in
theorem ok_getv0 {l : Launch} {Z : State} {a0 : Array Value} (hw : ∀ d ∈ tables_1, d.before a0 Z = true) {n0 : Nat} (x t : Addr) {cs : List Int32} {cap : Nat} {h0 : Heap} (F : SB0 Z h0 n0 x t cs cap) :
    Ok false l Z [] n0 [] (⟨"java/lang/AbstractStringBuilder", "getValue", "()[B"⟩ : MethodName) jdk_68_method_64_code 1 (Option.some (Jvm.ClassFile.FieldType.array Jvm.ClassFile.FieldType.byte)) ({ frames := 0, cells := 0, slots := 0, locals := 0 } : Room) #[(.ref x)] h0 (fun v h => v = some (.ref t) ∧ h = h0) (fun _ => []) := by
  refine Ok.of_run (ls0 := #[.val (.ref x)]) (plainFor_of_name (by first | (simp [plainName, overriddenIn]; done) | decide +kernel)) (fun m => by first | (simp [entryFrame, mkF, argsToLocals, Value.category]; done) | rfl) rfl ?_
  refine Run.old fun hO => ?_
  have hn0 : n0 ≤ h0.size := hO.1 ▸ hO.2.1
  obtain ⟨q_1, q_2, q_3, q_4, q_5, ⟨k_11, q_6⟩, q_7, q_8, q_9, q_10⟩ := F
  have ne_12 : x ≠ t := Exa.neArv q_1 q_6 (wd99 hw)
  have lt_13 : @LT.lt Nat instLTNat x (Array.size h0) := Exa.lt q_1
  have lt_14 : @LT.lt Nat instLTNat t (Array.size h0) := Arv.lt q_6
  refine r_aloadN d28_0 rfl rfl rfl ?_
  refine r_getfield (host := "") d28_1 rfl (Or.inl (wd112 hw)) Via.refl q_2 ?_
  exact r_areturn d28_4 rfl rfl rfl rfl ⟨rfl, rfl⟩ (by simp) (by decide) (by decide)
set_option maxRecDepth 65536 in
set_option maxHeartbeats 40000000 in
theorem ok_alen0 {l : Launch} {Z : State} {a0 : Array Value} (hw : ∀ d ∈ tables_1, d.before a0 Z = true) {n0 : Nat} (x t : Addr) {cs : List Int32} {cap : Nat} {h0 : Heap} (F : SB0 Z h0 n0 x t cs cap) :
    Ok false l Z [] n0 [] (⟨"java/lang/AbstractStringBuilder", "length", "()I"⟩ : MethodName) jdk_68_method_6_code 1 (Option.some Jvm.ClassFile.FieldType.int) ({ frames := 0, cells := 0, slots := 0, locals := 0 } : Room) #[(.ref x)] h0 (fun v h => v = some (.int (Int32.ofNat cs.length)) ∧ h = h0) (fun _ => []) := by
  refine Ok.of_run (ls0 := #[.val (.ref x)]) (plainFor_of_name (by first | (simp [plainName, overriddenIn]; done) | decide +kernel)) (fun m => by first | (simp [entryFrame, mkF, argsToLocals, Value.category]; done) | rfl) rfl ?_
  refine Run.old fun hO => ?_
  have hn0 : n0 ≤ h0.size := hO.1 ▸ hO.2.1
  obtain ⟨q_1, q_2, q_3, q_4, q_5, ⟨k_11, q_6⟩, q_7, q_8, q_9, q_10⟩ := F
  have ne_12 : x ≠ t := Exa.neArv q_1 q_6 (wd99 hw)
  have lt_13 : @LT.lt Nat instLTNat x (Array.size h0) := Exa.lt q_1
  have lt_14 : @LT.lt Nat instLTNat t (Array.size h0) := Arv.lt q_6
  refine r_aloadN d30_0 rfl rfl rfl ?_
  refine r_getfield (host := "") d30_1 rfl (Or.inl (wd136 hw)) Via.refl q_4 ?_
  exact r_ireturn d30_4 rfl ⟨rfl, rfl⟩ (by simp) (by decide) (by decide)
set_option maxRecDepth 65536 in
set_option maxHeartbeats 40000000 in
theorem ok_sblen0 {l : Launch} {Z : State} {a0 : Array Value} (hw : ∀ d ∈ tables_1, d.before a0 Z = true) {n0 : Nat} (x t : Addr) {cs : List Int32} {cap : Nat} {h0 : Heap} (F : SB0 Z h0 n0 x t cs cap) :
    Ok false l Z [] n0 [] (⟨"java/lang/StringBuilder", "length", "()I"⟩ : MethodName) jdk_67_method_93_code 1 (Option.some Jvm.ClassFile.FieldType.int) ({ frames := 1, cells := 0, slots := 0, locals := 12 } : Room) #[(.ref x)] h0 (fun v h => v = some (.int (Int32.ofNat cs.length)) ∧ h = h0) (fun _ => []) := by
  refine Ok.of_run (ls0 := #[.val (.ref x)]) (plainFor_of_name (by first | (simp [plainName, overriddenIn]; done) | decide +kernel)) (fun m => by first | (simp [entryFrame, mkF, argsToLocals, Value.category]; done) | rfl) rfl ?_
  refine Run.old fun hO => ?_
  have hn0 : n0 ≤ h0.size := hO.1 ▸ hO.2.1
  obtain ⟨q_1, q_2, q_3, q_4, q_5, ⟨k_11, q_6⟩, q_7, q_8, q_9, q_10⟩ := (id F)
  have ne_12 : x ≠ t := Exa.neArv q_1 q_6 (wd99 hw)
  have lt_13 : @LT.lt Nat instLTNat x (Array.size h0) := Exa.lt q_1
  have lt_14 : @LT.lt Nat instLTNat t (Array.size h0) := Arv.lt q_6
  refine r_aloadN d29_0 rfl rfl rfl ?_
  refine r_super (y := (⟨"java/lang/AbstractStringBuilder", "length", "()I"⟩ : MethodName)) (argsL := []) (rest := []) (W := 0) (kc := 0) (ks := 0) (wl := []) d29_1 rfl (by decide) (wd193 hw) (sameM (wd189 hw) (wd141 hw) rfl (by decide)) (wd189 hw) (wd123 hw) (wd194 hw) q_1 (lenOf pd_25 rfl) rfl rfl (Nat.le_of_ble_eq_true rfl) (Ok.pays (ok_alen0 hw x t F) (wd194 hw) (wd108 hw) (by decide) (by decide)) (fun v h' q => q.2 ▸ Keep.refl _ _) all0 (by decide) (by decide) ?_
  rintro _ h_15 ⟨rfl, eqh⟩
  subst h_15
  refine Run.cast (st' := [(.int (Int32.ofNat cs.length))]) rfl ?_
  exact r_ireturn d29_4 rfl ⟨rfl, rfl⟩ (by simp) (by decide) (by decide)
set_option maxRecDepth 65536 in
set_option maxHeartbeats 40000000 in
theorem ok_getv1 {l : Launch} {Z : State} {a0 : Array Value} (hw : ∀ d ∈ tables_1, d.before a0 Z = true) {n0 : Nat} (x t : Addr) {cs : List Int32} {cap : Nat} {h0 : Heap} (F : SB1 Z h0 n0 x t cs cap) :
    Ok false l Z [] n0 [] (⟨"java/lang/AbstractStringBuilder", "getValue", "()[B"⟩ : MethodName) jdk_68_method_64_code 1 (Option.some (Jvm.ClassFile.FieldType.array Jvm.ClassFile.FieldType.byte)) ({ frames := 0, cells := 0, slots := 0, locals := 0 } : Room) #[(.ref x)] h0 (fun v h => v = some (.ref t) ∧ h = h0) (fun _ => []) := by
  refine Ok.of_run (ls0 := #[.val (.ref x)]) (plainFor_of_name (by first | (simp [plainName, overriddenIn]; done) | decide +kernel)) (fun m => by first | (simp [entryFrame, mkF, argsToLocals, Value.category]; done) | rfl) rfl ?_
  refine Run.old fun hO => ?_
  have hn0 : n0 ≤ h0.size := hO.1 ▸ hO.2.1
  obtain ⟨q_1, q_2, q_3, q_4, q_5, ⟨k_11, q_6⟩, q_7, q_8, q_9, q_10⟩ := F
  have ne_12 : x ≠ t := Exa.neArv q_1 q_6 (wd99 hw)
  have lt_13 : @LT.lt Nat instLTNat x (Array.size h0) := Exa.lt q_1
  have lt_14 : @LT.lt Nat instLTNat t (Array.size h0) := Arv.lt q_6
  refine r_aloadN d28_0 rfl rfl rfl ?_
  refine r_getfield (host := "") d28_1 rfl (Or.inl (wd112 hw)) Via.refl q_2 ?_
  exact r_areturn d28_4 rfl rfl rfl rfl ⟨rfl, rfl⟩ (by simp) (by decide) (by decide)
set_option maxRecDepth 65536 in
set_option maxHeartbeats 40000000 in
theorem ok_alen1 {l : Launch} {Z : State} {a0 : Array Value} (hw : ∀ d ∈ tables_1, d.before a0 Z = true) {n0 : Nat} (x t : Addr) {cs : List Int32} {cap : Nat} {h0 : Heap} (F : SB1 Z h0 n0 x t cs cap) :
    Ok false l Z [] n0 [] (⟨"java/lang/AbstractStringBuilder", "length", "()I"⟩ : MethodName) jdk_68_method_6_code 1 (Option.some Jvm.ClassFile.FieldType.int) ({ frames := 0, cells := 0, slots := 0, locals := 0 } : Room) #[(.ref x)] h0 (fun v h => v = some (.int (Int32.ofNat cs.length)) ∧ h = h0) (fun _ => []) := by
  refine Ok.of_run (ls0 := #[.val (.ref x)]) (plainFor_of_name (by first | (simp [plainName, overriddenIn]; done) | decide +kernel)) (fun m => by first | (simp [entryFrame, mkF, argsToLocals, Value.category]; done) | rfl) rfl ?_
  refine Run.old fun hO => ?_
  have hn0 : n0 ≤ h0.size := hO.1 ▸ hO.2.1
  obtain ⟨q_1, q_2, q_3, q_4, q_5, ⟨k_11, q_6⟩, q_7, q_8, q_9, q_10⟩ := F
  have ne_12 : x ≠ t := Exa.neArv q_1 q_6 (wd99 hw)
  have lt_13 : @LT.lt Nat instLTNat x (Array.size h0) := Exa.lt q_1
  have lt_14 : @LT.lt Nat instLTNat t (Array.size h0) := Arv.lt q_6
  refine r_aloadN d30_0 rfl rfl rfl ?_
  refine r_getfield (host := "") d30_1 rfl (Or.inl (wd136 hw)) Via.refl q_4 ?_
  exact r_ireturn d30_4 rfl ⟨rfl, rfl⟩ (by simp) (by decide) (by decide)
set_option maxRecDepth 65536 in
set_option maxHeartbeats 40000000 in
theorem ok_sblen1 {l : Launch} {Z : State} {a0 : Array Value} (hw : ∀ d ∈ tables_1, d.before a0 Z = true) {n0 : Nat} (x t : Addr) {cs : List Int32} {cap : Nat} {h0 : Heap} (F : SB1 Z h0 n0 x t cs cap) :
    Ok false l Z [] n0 [] (⟨"java/lang/StringBuilder", "length", "()I"⟩ : MethodName) jdk_67_method_93_code 1 (Option.some Jvm.ClassFile.FieldType.int) ({ frames := 1, cells := 0, slots := 0, locals := 12 } : Room) #[(.ref x)] h0 (fun v h => v = some (.int (Int32.ofNat cs.length)) ∧ h = h0) (fun _ => []) := by
  refine Ok.of_run (ls0 := #[.val (.ref x)]) (plainFor_of_name (by first | (simp [plainName, overriddenIn]; done) | decide +kernel)) (fun m => by first | (simp [entryFrame, mkF, argsToLocals, Value.category]; done) | rfl) rfl ?_
  refine Run.old fun hO => ?_
  have hn0 : n0 ≤ h0.size := hO.1 ▸ hO.2.1
  obtain ⟨q_1, q_2, q_3, q_4, q_5, ⟨k_11, q_6⟩, q_7, q_8, q_9, q_10⟩ := (id F)
  have ne_12 : x ≠ t := Exa.neArv q_1 q_6 (wd99 hw)
  have lt_13 : @LT.lt Nat instLTNat x (Array.size h0) := Exa.lt q_1
  have lt_14 : @LT.lt Nat instLTNat t (Array.size h0) := Arv.lt q_6
  refine r_aloadN d29_0 rfl rfl rfl ?_
  refine r_super (y := (⟨"java/lang/AbstractStringBuilder", "length", "()I"⟩ : MethodName)) (argsL := []) (rest := []) (W := 0) (kc := 0) (ks := 0) (wl := []) d29_1 rfl (by decide) (wd193 hw) (sameM (wd189 hw) (wd141 hw) rfl (by decide)) (wd189 hw) (wd123 hw) (wd194 hw) q_1 (lenOf pd_25 rfl) rfl rfl (Nat.le_of_ble_eq_true rfl) (Ok.pays (ok_alen1 hw x t F) (wd194 hw) (wd108 hw) (by decide) (by decide)) (fun v h' q => q.2 ▸ Keep.refl _ _) all0 (by decide) (by decide) ?_
  rintro _ h_15 ⟨rfl, eqh⟩
  subst h_15
  refine Run.cast (st' := [(.int (Int32.ofNat cs.length))]) rfl ?_
  exact r_ireturn d29_4 rfl ⟨rfl, rfl⟩ (by simp) (by decide) (by decide)
set_option maxRecDepth 65536 in
set_option maxHeartbeats 40000000 in
theorem ok_chl {l : Launch} {Z : State} {a0 : Array Value} (hw : ∀ d ∈ tables_1, d.before a0 Z = true) {n0 : Nat} (i j : Nat) (hle : i ≤ j) (hj : j < 2 ^ 31) {h0 : Heap} :
    Ok false l Z [] n0 [] (⟨"java/util/Arrays", "checkLength", "(II)V"⟩ : MethodName) jdk_65_method_131_code 2 (Option.none : Option Jvm.ClassFile.FieldType) ({ frames := 0, cells := 0, slots := 0, locals := 0 } : Room) #[(.int (Int32.ofNat i)), (.int (Int32.ofNat j))] h0 (fun v h => v = none ∧ h = h0) (fun _ => []) := by
  refine Ok.of_run (ls0 := #[.val (.int (Int32.ofNat i)), .val (.int (Int32.ofNat j))]) (plainFor_of_name (by first | (simp [plainName, overriddenIn]; done) | decide +kernel)) (fun m => by first | (simp [entryFrame, mkF, argsToLocals, Value.category]; done) | rfl) rfl ?_
  refine Run.old fun hO => ?_
  have hn0 : n0 ≤ h0.size := hO.1 ▸ hO.2.1
  refine r_iloadN d34_0 rfl rfl ?_
  refine r_iloadN d34_1 rfl rfl ?_
  refine r_icmpge (pc2 := 37) d34_2 rfl rfl (fun _ => ?_) (fun cc => absurd cc (ofNat_nlt hle (by omega)))
  exact r_return d34_37 rfl ⟨rfl, rfl⟩ (by simp) (by decide) (by decide)
theorem own_range (bs : List Int32) (i n : Nat) (h : i + n ≤ bs.length) : ((bs.drop i).take n).map Value.int = (List.range n).map fun q => (bs.map Value.int).getD (i + q) (.int 0) := by
  apply List.ext_getElem
  · simp; omega
  · intro q h1 h2
    simp only [List.length_map, List.length_range] at h2
    simp only [List.getElem_map, List.getElem_take, List.getElem_drop, List.getElem_range, getD_map]
    rw [List.getD_eq_getElem?_getD, List.getElem?_eq_getElem (by omega)]
    rfl
set_option maxRecDepth 65536 in
set_option maxHeartbeats 40000000 in
theorem ok_corb {l : Launch} {Z : State} {a0 : Array Value} (hw : ∀ d ∈ tables_1, d.before a0 Z = true) {n0 : Nat} (b : Addr) {k : ClassId} {bs : List Int32} (i j : Nat) (hij : i < j) (hj : j ≤ bs.length) (hb : bs.length ≤ 32) {h0 : Heap} (K : Arv Z h0 b k .byte (Int32.ofNat bs.length) (bs.map Value.int) (.int 0)) :
    Ok false l Z [] n0 [] (⟨"java/util/Arrays", "copyOfRangeByte", "([BII)[B"⟩ : MethodName) jdk_65_method_133_code 5 (Option.some (Jvm.ClassFile.FieldType.array Jvm.ClassFile.FieldType.byte)) ({ frames := 1, cells := 1, slots := 32, locals := 60 } : Room) #[(.ref b), (.int (Int32.ofNat i)), (.int (Int32.ofNat j))] h0 (fun v h => ∃ b2 k2, v = some (.ref b2) ∧ Keep h0 h [] ∧ h0.size ≤ b2 ∧ Arv Z h b2 k2 .byte (Int32.ofNat (j - i)) (((bs.drop i).take (j - i)).map Value.int) (.int 0) ∧ Exa Z h b2 "[B") (fun _ => []) := by
  refine Ok.of_run (ls0 := #[.val (.ref b), .val (.int (Int32.ofNat i)), .val (.int (Int32.ofNat j)), .unset, .unset]) (plainFor_of_name (by first | (simp [plainName, overriddenIn]; done) | decide +kernel)) (fun m => by first | (simp [entryFrame, mkF, argsToLocals, Value.category]; done) | rfl) rfl ?_
  refine Run.old fun hO => ?_
  have hn0 : n0 ≤ h0.size := hO.1 ▸ hO.2.1
  have lt_1 : @LT.lt Nat instLTNat b (Array.size h0) := K.lt
  refine r_iloadN d33_0 rfl rfl ?_
  refine r_iloadN d33_1 rfl rfl ?_
  refine r_static (y := (⟨"java/util/Arrays", "checkLength", "(II)V"⟩ : MethodName)) (argsL := [(.int (Int32.ofNat i)), (.int (Int32.ofNat j))]) (rest := []) (W := 0) (kc := 0) (ks := 0) (wl := []) d33_2 rfl (wd207 hw) (wd208 hw) (wd202 hw) (wd209 hw) (by decide) (lenOf pd_2 rfl) rfl rfl (Nat.le_of_ble_eq_true rfl) (Ok.pays (ok_chl hw i j (by omega) (by omega)) (wd209 hw) (wd202 hw) (by decide) (by decide)) (fun v h' q => q.2 ▸ Keep.refl _ _) all0 (by decide) (by decide) ?_
  rintro _ h_2 ⟨rfl, eqh⟩
  subst h_2
  refine Run.cast (st' := []) rfl ?_
  refine r_iloadN d33_5 rfl rfl ?_
  refine r_iloadN d33_6 rfl rfl ?_
  refine r_isub d33_7 rfl ?_
  rw [show ((Int32.ofNat j) - (Int32.ofNat i)) = (Int32.ofNat (j - i)) from ofNat_sub (by omega)]
  refine r_istoreN (l' := #[.val (.ref b), .val (.int (Int32.ofNat i)), .val (.int (Int32.ofNat j)), .val (.int (Int32.ofNat (j - i))), .unset]) d33_8 rfl rfl ?_
  refine r_iloadN d33_9 rfl rfl ?_
  refine r_newP (cap := 32) (ad := "[B") d33_10 rfl (wd24 hw) (ofNat_in (n := 4001) (by omega) (by omega)).1 (by rw [ofNat_cl (by omega)]; omega) (by decide) (by decide) (by decide) (by decide) ?_
  intro h_4 b_3 k_8 gb_3 ltb_3 E_5 A_6 K_7
  have szh_4 := E_5.1
  have geb_3 : n0 ≤ b_3 := by omega
  have K_9 : Arv Z h_4 b_3 k_8 .byte (Int32.ofNat (j - i)) (List.replicate (j - i) (.int 0)) (.int 0) := Arv.pad K_7 (by intro q; have e := pad_rep [] (.int 0) (j - i) q; simpa using e)
  refine r_astore (l' := #[.val (.ref b), .val (.int (Int32.ofNat i)), .val (.int (Int32.ofNat j)), .val (.int (Int32.ofNat (j - i))), .val (.ref b_3)]) d33_12 rfl rfl rfl ?_
  refine r_aloadN d33_14 rfl rfl rfl ?_
  refine r_iloadN d33_15 rfl rfl ?_
  refine r_aload d33_16 rfl rfl rfl ?_
  refine r_iconst (v := 0) d33_18 rfl rfl ?_
  refine r_aloadN d33_19 rfl rfl rfl ?_
  have K_10 : Arv Z h_4 b k .byte (Int32.ofNat bs.length) (bs.map Value.int) (.int 0) := (K.ext E_5)
  refine r_arraylength d33_20 rfl K_10 ?_
  refine r_iloadN d33_21 rfl rfl ?_
  refine r_isub d33_22 rfl ?_
  rw [show ((Int32.ofNat bs.length) - (Int32.ofNat i)) = (Int32.ofNat (bs.length - i)) from ofNat_sub (by omega)]
  refine r_iloadN d33_23 rfl rfl ?_
  refine r_static (y := (⟨"java/lang/Math", "min", "(II)I"⟩ : MethodName)) (argsL := [(.int (Int32.ofNat (bs.length - i))), (.int (Int32.ofNat (j - i)))]) (rest := [(.int (0 : Int32)), (.ref b_3), (.int (Int32.ofNat i)), (.ref b)]) (W := 4) (kc := 0) (ks := 0) (wl := []) d33_24 rfl (wd210 hw) (wd211 hw) (wd212 hw) (wd213 hw) (by decide) (lenOf pd_28 rfl) rfl rfl (Nat.le_of_ble_eq_true rfl) (Ok.pays (ok_min hw (Int32.ofNat (bs.length - i)) (Int32.ofNat (j - i))) (wd213 hw) (wd212 hw) (by decide) (by decide)) (fun v h' q => q.2 ▸ Keep.refl _ _) all0 (by decide) (by decide) ?_
  rintro _ h_11 ⟨rfl, eqh⟩
  subst h_11
  refine Run.cast (st' := [(.int (imin (Int32.ofNat (bs.length - i)) (Int32.ofNat (j - i)))), (.int (0 : Int32)), (.ref b_3), (.int (Int32.ofNat i)), (.ref b)]) rfl ?_
  rw [show (imin (Int32.ofNat (bs.length - i)) (Int32.ofNat (j - i))) = (Int32.ofNat (j - i)) from (by rw [imin_of (by omega) (by omega), Nat.min_eq_right (by omega)])]
  refine r_arraycopy (us := ((bs.drop i).take (j - i)).map Value.int) (W := 0) d33_27 rfl (wd214 hw) (wd162 hw) (wd160 hw) (wd161 hw) K_10 K_9 (Or.inl ⟨rfl, rfl⟩) (ofNat_in (n := 4001) (by omega) (by omega)).1 (by decide) (ofNat_in (n := 4001) (by omega) (by omega)).1 (by rw [ofNat_cl (by omega), ofNat_cl (by omega), ofNat_cl (by omega)]; omega) (by rw [ofNat_cl (by omega)]; simp) (by rw [ofNat_cl (by omega), ofNat_cl (by omega)]; exact own_range bs i (j - i) (by omega)) (by rw [ofNat_cl (by omega)]; simp) geb_3 (Or.inl rfl) (by decide) (Nat.le_of_ble_eq_true rfl) (by decide) ?_
  intro h_12 KK_13 K_14
  have szh_12 := KK_13.1
  have K_15 : Arv Z h_12 b_3 k_8 .byte (Int32.ofNat (j - i)) (((bs.drop i).take (j - i)).map Value.int) (.int 0) := by rw [ofNat_cl (by omega)] at K_14; simpa using K_14
  refine r_aload d33_30 rfl rfl rfl ?_
  have A_16 : Exa Z h_12 b_3 "[B" := (Exa.keep A_6 KK_13)
  exact r_areturn d33_32 rfl rfl rfl rfl ⟨b_3, k_8, rfl, (Keep.trans (Keep.ext (Keep.refl _ _) E_5) KK_13 (allS (Or.inr (by omega)) all0)), by omega, K_15, A_16⟩ (by simp) (by decide) (by decide)
set_option maxRecDepth 65536 in
set_option maxHeartbeats 40000000 in
theorem ok_cor {l : Launch} {Z : State} {a0 : Array Value} (hw : ∀ d ∈ tables_1, d.before a0 Z = true) {n0 : Nat} (b : Addr) {k : ClassId} {bs : List Int32} (i j : Nat) (hij : i < j) (hj : j ≤ bs.length) (hb : bs.length ≤ 32) (hno : ¬ (i = 0 ∧ j = bs.length)) {h0 : Heap} (K : Arv Z h0 b k .byte (Int32.ofNat bs.length) (bs.map Value.int) (.int 0)) :
    Ok false l Z [] n0 [] (⟨"java/util/Arrays", "copyOfRange", "([BII)[B"⟩ : MethodName) jdk_65_method_132_code 3 (Option.some (Jvm.ClassFile.FieldType.array Jvm.ClassFile.FieldType.byte)) ({ frames := 2, cells := 1, slots := 32, locals := 76 } : Room) #[(.ref b), (.int (Int32.ofNat i)), (.int (Int32.ofNat j))] h0 (fun v h => ∃ b2 k2, v = some (.ref b2) ∧ Keep h0 h [] ∧ h0.size ≤ b2 ∧ Arv Z h b2 k2 .byte (Int32.ofNat (j - i)) (((bs.drop i).take (j - i)).map Value.int) (.int 0) ∧ Exa Z h b2 "[B") (fun _ => []) := by
  refine Ok.of_run (ls0 := #[.val (.ref b), .val (.int (Int32.ofNat i)), .val (.int (Int32.ofNat j))]) (plainFor_of_name (by first | (simp [plainName, overriddenIn]; done) | decide +kernel)) (fun m => by first | (simp [entryFrame, mkF, argsToLocals, Value.category]; done) | rfl) rfl ?_
  refine Run.old fun hO => ?_
  have hn0 : n0 ≤ h0.size := hO.1 ▸ hO.2.1
  refine r_iloadN d32_0 rfl rfl ?_
  refine r_ifne (pc2 := 10) d32_1 rfl rfl (fun c_1 => ?_) (fun c_1 => ?_)
  · refine r_aloadN d32_10 rfl rfl rfl ?_
    refine r_iloadN d32_11 rfl rfl ?_
    refine r_iloadN d32_12 rfl rfl ?_
    refine r_static (y := (⟨"java/util/Arrays", "copyOfRangeByte", "([BII)[B"⟩ : MethodName)) (argsL := [(.ref b), (.int (Int32.ofNat i)), (.int (Int32.ofNat j))]) (rest := []) (W := 0) (kc := 1) (ks := 32) (wl := []) d32_13 rfl (wd204 hw) (wd205 hw) (wd202 hw) (wd206 hw) (by decide) (lenOf pd_29 rfl) rfl rfl (Nat.le_of_ble_eq_true rfl) (Ok.pays (ok_corb hw b i j hij hj hb K) (wd206 hw) (wd202 hw) (by decide) (by decide)) (fun v h' q => by obtain ⟨_, _, _, K, _⟩ := q; exact K) all0 (by decide) (by decide) ?_
    rintro _ h_2 ⟨b2, k2, rfl, q⟩
    refine Run.cast (st' := [(.ref b2)]) rfl ?_
    exact r_areturn d32_16 rfl rfl rfl rfl ⟨b2, k2, rfl, q⟩ (by simp) (by decide) (by decide)
  · refine r_iloadN d32_4 rfl rfl ?_
    refine r_aloadN d32_5 rfl rfl rfl ?_
    refine r_arraylength d32_6 rfl K ?_
    refine r_icmpeq (pc2 := 17) d32_7 rfl rfl (fun cc => absurd ⟨ofNat_inj' (j := 0) (by omega) (by omega) c_1, ofNat_inj' (by omega) (by omega) cc⟩ hno) (fun _ => ?_)
    refine r_aloadN d32_10 rfl rfl rfl ?_
    refine r_iloadN d32_11 rfl rfl ?_
    refine r_iloadN d32_12 rfl rfl ?_
    refine r_static (y := (⟨"java/util/Arrays", "copyOfRangeByte", "([BII)[B"⟩ : MethodName)) (argsL := [(.ref b), (.int (Int32.ofNat i)), (.int (Int32.ofNat j))]) (rest := []) (W := 0) (kc := 1) (ks := 32) (wl := []) d32_13 rfl (wd204 hw) (wd205 hw) (wd202 hw) (wd206 hw) (by decide) (lenOf pd_29 rfl) rfl rfl (Nat.le_of_ble_eq_true rfl) (Ok.pays (ok_corb hw b i j hij hj hb K) (wd206 hw) (wd202 hw) (by decide) (by decide)) (fun v h' q => by obtain ⟨_, _, _, K, _⟩ := q; exact K) all0 (by decide) (by decide) ?_
    rintro _ h_3 ⟨b2, k2, rfl, q⟩
    refine Run.cast (st' := [(.ref b2)]) rfl ?_
    exact r_areturn d32_16 rfl rfl rfl rfl ⟨b2, k2, rfl, q⟩ (by simp) (by decide) (by decide)
def ubi : List Int32 → List Int32
  | [] => []
  | c :: cs => loB c :: hiB c :: ubi cs
theorem ubv_eq : ∀ cs : List Int32, ubv cs = (ubi cs).map Value.int
  | [] => rfl
  | c :: cs => by simp only [ubv, ubi, List.map_cons, ubv_eq cs]
theorem ubi_len (cs : List Int32) : (ubi cs).length = 2 * cs.length := by
  have e := ub_len cs
  rw [ubv_eq, List.length_map] at e; exact e
theorem pref {Z : State} {h : Heap} {t : Addr} {k : ClassId} {us : List Int32} {N : Nat} (K : Arv Z h t k .byte (Int32.ofNat N) (us.map Value.int) (.int 0)) (hN : us.length ≤ N) : Arv Z h t k .byte (Int32.ofNat (us ++ List.replicate (N - us.length) 0).length) ((us ++ List.replicate (N - us.length) 0).map Value.int) (.int 0) := by
  have e : (us ++ List.replicate (N - us.length) 0).length = N := by rw [List.length_append, List.length_replicate]; omega
  rw [e, List.map_append, List.map_replicate]
  exact Arv.pad K (pad_rep _ (.int 0) _)
theorem pref_take (us : List Int32) (m : Nat) : ((us ++ List.replicate m 0).drop 0).take (us.length - 0) = us := by
  rw [List.drop_zero, Nat.sub_zero, List.take_append_of_le_length (Nat.le_refl _), List.take_length]
set_option maxRecDepth 65536 in
set_option maxHeartbeats 40000000 in
theorem ok_inasb0 {l : Launch} {Z : State} {a0 : Array Value} (hw : ∀ d ∈ tables_1, d.before a0 Z = true) {n0 : Nat} (y x t : Addr) {cs : List Int32} {cap : Nat} (hcap : cap ≤ 16) (h1 : 0 < cs.length) (h2 : cs.length < cap) {zC : Int32} {h0 : Heap} (SC : Sta Z Z.heap "java/lang/String" "COMPACT_STRINGS" "Z" (.int zC)) (nC : ¬ zC = 0) (E : Exa Z h0 y "java/lang/String") (V : Fld Z h0 y "java/lang/String" "value" "[B" .null) (C : Fld Z h0 y "java/lang/String" "coder" "B" (.int 0)) (ge : n0 ≤ y) (F : SB0 Z h0 n0 x t cs cap) :
    Ok false l Z [] n0 [] (⟨"java/lang/String", "<init>", "(Ljava/lang/AbstractStringBuilder;Ljava/lang/Void;)V"⟩ : MethodName) jdk_42_method_150_code 5 (Option.none : Option Jvm.ClassFile.FieldType) ({ frames := 3, cells := 1, slots := 32, locals := 91 } : Room) #[(.ref y), (.ref x), .null] h0 (fun v h => v = none ∧ Keep h0 h [y] ∧ ∃ b : Addr, @LE.le Nat instLENat h0.size b ∧ Str Z h y b cs) (fun _ => []) := by
  refine Ok.of_run (ls0 := #[.val (.ref y), .val (.ref x), .val .null, .unset, .unset]) (plainFor_of_name (by first | (simp [plainName, overriddenIn]; done) | decide +kernel)) (fun m => by first | (simp [entryFrame, mkF, argsToLocals, Value.category]; done) | rfl) rfl ?_
  refine Run.old fun hO => ?_
  have hn0 : n0 ≤ h0.size := hO.1 ▸ hO.2.1
  obtain ⟨q_1, q_2, q_3, q_4, q_5, ⟨k_11, q_6⟩, q_7, q_8, q_9, q_10⟩ := (id F)
  have ne_12 : x ≠ t := Exa.neArv q_1 q_6 (wd99 hw)
  have lt_13 : @LT.lt Nat instLTNat x (Array.size h0) := Exa.lt q_1
  have lt_14 : @LT.lt Nat instLTNat t (Array.size h0) := Arv.lt q_6
  have lt_15 : @LT.lt Nat instLTNat y (Array.size h0) := E.lt
  have ne_16 : y ≠ t := Exa.neArv E q_6 (wd5 hw)
  refine r_aloadN d27_0 rfl rfl rfl ?_
  refine r_initO (W := 0) d27_1 rfl (wd16 hw) (wd17 hw) (wd18 hw) (by decide) (Nat.le_of_ble_eq_true rfl) (by decide) ?_
  refine r_aloadN d27_4 rfl rfl rfl ?_
  refine r_virtualN (y := (⟨"java/lang/AbstractStringBuilder", "getValue", "()[B"⟩ : MethodName)) (argsL := []) (rest := []) (W := 0) (kc := 0) (ks := 0) (wl := []) d27_5 rfl (wd182 hw) (wd183 hw) (wd185 hw) (wd184 hw) (by decide) ⟨(wd141 hw), rfl⟩ q_1 (lenOf pd_30 rfl) rfl rfl (Nat.le_of_ble_eq_true rfl) (Ok.pays (ok_getv0 hw x t F) (wd186 hw) (wd108 hw) (by decide) (by decide)) (fun v h' q => q.2 ▸ Keep.refl _ _) all0 (by decide) (by decide) ?_
  rintro _ h_17 ⟨rfl, eqh⟩
  subst h_17
  refine Run.cast (st' := [(.ref t)]) rfl ?_
  refine r_astoreN (l' := #[.val (.ref y), .val (.ref x), .val .null, .val (.ref t), .unset]) d27_8 rfl rfl rfl ?_
  refine r_aloadN d27_9 rfl rfl rfl ?_
  refine r_virtualN (y := (⟨"java/lang/StringBuilder", "length", "()I"⟩ : MethodName)) (argsL := []) (rest := []) (W := 0) (kc := 0) (ks := 0) (wl := []) d27_10 rfl (wd187 hw) (wd188 hw) (wd190 hw) (wd191 hw) (by decide) ⟨(wd141 hw), rfl⟩ q_1 (lenOf pd_25 rfl) rfl rfl (Nat.le_of_ble_eq_true rfl) (Ok.pays (ok_sblen0 hw x t F) (wd192 hw) (wd100 hw) (by decide) (by decide)) (fun v h' q => q.2 ▸ Keep.refl _ _) all0 (by decide) (by decide) ?_
  rintro _ h_18 ⟨rfl, eqh⟩
  subst h_18
  refine Run.cast (st' := [(.int (Int32.ofNat cs.length))]) rfl ?_
  refine r_istore (l' := #[.val (.ref y), .val (.ref x), .val .null, .val (.ref t), .val (.int (Int32.ofNat cs.length))]) d27_13 rfl rfl ?_
  refine r_aloadN d27_15 rfl rfl rfl ?_
  refine r_virtualN (y := (⟨"java/lang/AbstractStringBuilder", "isLatin1", "()Z"⟩ : MethodName)) (argsL := []) (rest := []) (W := 0) (kc := 0) (ks := 0) (wl := []) d27_16 rfl (wd195 hw) (wd196 hw) (wd198 hw) (wd197 hw) (by decide) ⟨(wd141 hw), rfl⟩ q_1 (lenOf pd_3 rfl) rfl rfl (Nat.le_of_ble_eq_true rfl) (Ok.pays (ok_alat0 hw x t SC nC F) (wd199 hw) (wd108 hw) (by decide) (by decide)) (fun v h' q => q.2 ▸ Keep.refl _ _) all0 (by decide) (by decide) ?_
  rintro _ h_19 ⟨rfl, eqh⟩
  subst h_19
  refine Run.cast (st' := [(.int (1 : Int32))]) rfl ?_
  have hus : (cs.map (fun c => c.toInt8.toInt32)).length = cs.length := List.length_map _
  refine r_ifeq (pc2 := 41) d27_19 rfl rfl (fun cc => absurd cc (by decide)) (fun _ => ?_)
  refine r_aloadN d27_22 rfl rfl rfl ?_
  refine r_iconst (v := 0) d27_23 rfl rfl ?_
  refine r_putfield (ty := .byte) (v' := (.int 0)) d27_24 rfl (wd31 hw) Via.refl C E (Or.inr ⟨(wd32 hw), rfl, rfl⟩) (wd5 hw) (by decide) rfl rfl ge (Or.inl rfl) ?_
  intro h_20 W_21
  have szh_20 := Wr.size W_21
  have F_22 : Fld Z h_20 y "java/lang/String" "coder" "B" (.int 0) := Fld.same W_21 C
  refine r_aloadN d27_27 rfl rfl rfl ?_
  refine r_aloadN d27_28 rfl rfl rfl ?_
  refine r_iconst (v := 0) d27_29 rfl rfl ?_
  refine r_iload d27_30 rfl rfl ?_
  have K_23 : Arv Z h_20 t k_11 .byte (Int32.ofNat cap) (bv cs) (.int 0) := (Arv.other q_6 W_21 (Ne.symm ne_16))
  have K_24 : Arv Z h_20 t k_11 .byte (Int32.ofNat cap) ((cs.map (fun c => c.toInt8.toInt32)).map Value.int) (.int 0) := K_23
  refine Run.cast (st' := [(.int (Int32.ofNat (cs.map (fun c => c.toInt8.toInt32)).length)), (.int (Int32.ofNat 0)), (.ref t), (.ref y)]) (by rw [hus]; rfl) ?_
  refine r_static (y := (⟨"java/util/Arrays", "copyOfRange", "([BII)[B"⟩ : MethodName)) (argsL := [(.ref t), (.int (Int32.ofNat 0)), (.int (Int32.ofNat (cs.map (fun c => c.toInt8.toInt32)).length))]) (rest := [(.ref y)]) (W := 1) (kc := 1) (ks := 32) (wl := []) d27_32 rfl (wd200 hw) (wd201 hw) (wd202 hw) (wd203 hw) (by decide) (lenOf pd_29 rfl) rfl rfl (Nat.le_of_ble_eq_true rfl) (Ok.pays (ok_cor hw t (bs := (cs.map (fun c => c.toInt8.toInt32)) ++ List.replicate (cap - (cs.map (fun c => c.toInt8.toInt32)).length) 0) 0 (cs.map (fun c => c.toInt8.toInt32)).length (by omega) (by rw [List.length_append]; omega) (by rw [List.length_append, List.length_replicate]; omega) (by rw [List.length_append, List.length_replicate]; omega) (pref K_24 (by omega))) (wd203 hw) (wd202 hw) (by decide) (by decide)) (fun v h' q => by obtain ⟨_, _, _, K, _⟩ := q; exact K) all0 (by decide) (by decide) ?_
  rintro _ h_31 ⟨b_25, k_26, rfl, KK_27, hge_28, K_29, E_30⟩
  refine Run.cast (st' := [(.ref b_25), (.ref y)]) rfl ?_
  have szh_31 := KK_27.1
  rw [pref_take, Nat.sub_zero, hus] at K_29
  have lt_32 : @LT.lt Nat instLTNat b_25 (Array.size h_31) := K_29.lt
  have ne_33 : @Ne Nat y b_25 := by omega
  have F_34 : Fld Z h_31 y "java/lang/String" "value" "[B" .null := (Fld.keep (Fld.other W_21 V (Or.inr (slot_ne (Or.inr (wd34 hw)) (Or.inr (wd32 hw)) (by decide) (t := (.array .byte)) (t' := .byte) (by decide) (by decide)))) KK_27 nin0)
  have A_35 : Exa Z h_31 y "java/lang/String" := (Exa.keep (Exa.wr W_21 E) KK_27)
  refine r_putfield (ty := (.array .byte)) (v' := (.ref b_25)) d27_35 rfl (wd33 hw) Via.refl F_34 A_35 (Or.inr ⟨(wd34 hw), rfl, rfl⟩) (wd5 hw) (by decide) rfl rfl ge (Or.inl rfl) ?_
  intro h_36 W_37
  have szh_36 := Wr.size W_37
  have F_38 : Fld Z h_36 y "java/lang/String" "value" "[B" (.ref b_25) := Fld.same W_37 F_34
  refine r_goto (pc' := 97) d27_38 rfl ?_
  have F_39 : Fld Z h_36 y "java/lang/String" "coder" "B" (.int 0) := (Fld.other W_37 (Fld.keep F_22 KK_27 nin0) (Or.inr (slot_ne (Or.inr (wd32 hw)) (Or.inr (wd34 hw)) (by decide) (t := .byte) (t' := (.array .byte)) (by decide) (by decide))))
  have A_40 : Exa Z h_36 y "java/lang/String" := (Exa.wr W_37 A_35)
  have K_41 : Arv Z h_36 b_25 k_26 .byte (Int32.ofNat cs.length) (bv cs) (.int 0) := (Arv.other K_29 W_37 (Ne.symm ne_33))
  have A_42 : Exa Z h_36 b_25 "[B" := (Exa.wr W_37 E_30)
  exact r_return d27_97 rfl ⟨rfl, (Keep.wr (Keep.trans (Keep.wr (Keep.refl _ _) W_21 (Or.inl (by simp))) KK_27 all0) W_37 (Or.inl (by simp))), b_25, by omega, A_40, F_39, F_38, ⟨_, K_41⟩, fun _ => A_42⟩ (by simp) (by decide) (by decide)
set_option maxRecDepth 65536 in
set_option maxHeartbeats 40000000 in
theorem ok_insb0 {l : Launch} {Z : State} {a0 : Array Value} (hw : ∀ d ∈ tables_1, d.before a0 Z = true) {n0 : Nat} (y x t : Addr) {cs : List Int32} {cap : Nat} (hcap : cap ≤ 16) (h1 : 0 < cs.length) (h2 : cs.length < cap) {zC : Int32} {h0 : Heap} (SC : Sta Z Z.heap "java/lang/String" "COMPACT_STRINGS" "Z" (.int zC)) (nC : ¬ zC = 0) (E : Exa Z h0 y "java/lang/String") (V : Fld Z h0 y "java/lang/String" "value" "[B" .null) (C : Fld Z h0 y "java/lang/String" "coder" "B" (.int 0)) (ge : n0 ≤ y) (F : SB0 Z h0 n0 x t cs cap) :
    Ok false l Z [] n0 [] (⟨"java/lang/String", "<init>", "(Ljava/lang/StringBuilder;)V"⟩ : MethodName) jdk_42_method_53_code 2 (Option.none : Option Jvm.ClassFile.FieldType) ({ frames := 4, cells := 1, slots := 32, locals := 107 } : Room) #[(.ref y), (.ref x)] h0 (fun v h => v = none ∧ Keep h0 h [y] ∧ ∃ b : Addr, @LE.le Nat instLENat h0.size b ∧ Str Z h y b cs) (fun _ => []) := by
  refine Ok.of_run (ls0 := #[.val (.ref y), .val (.ref x)]) (plainFor_of_name (by first | (simp [plainName, overriddenIn]; done) | decide +kernel)) (fun m => by first | (simp [entryFrame, mkF, argsToLocals, Value.category]; done) | rfl) rfl ?_
  refine Run.old fun hO => ?_
  have hn0 : n0 ≤ h0.size := hO.1 ▸ hO.2.1
  refine r_aloadN d26_0 rfl rfl rfl ?_
  refine r_aloadN d26_1 rfl rfl rfl ?_
  refine r_aconst d26_2 rfl ?_
  refine r_special (y := (⟨"java/lang/String", "<init>", "(Ljava/lang/AbstractStringBuilder;Ljava/lang/Void;)V"⟩ : MethodName)) (argsL := [(.ref x), .null]) (rest := []) (W := 0) (kc := 1) (ks := 32) (wl := [y]) d26_3 rfl rfl (wd179 hw) (wd180 hw) (wd181 hw) (by decide) (lenOf pd_31 rfl) rfl rfl (Nat.le_of_ble_eq_true rfl) (Ok.pays (ok_inasb0 hw y x t hcap h1 h2 SC nC E V C ge F) (wd181 hw) (wd6 hw) (by decide) (by decide)) (fun v h' q => q.2.1) (allS ⟨ge, (Or.inl rfl)⟩ all0) (by decide) (by decide) ?_
  rintro _ h_1 ⟨rfl, q⟩
  refine Run.cast (st' := []) rfl ?_
  exact r_return d26_6 rfl ⟨rfl, q⟩ (by simp) (by decide) (by decide)
set_option maxRecDepth 65536 in
set_option maxHeartbeats 40000000 in
theorem ok_tos0 {l : Launch} {Z : State} {a0 : Array Value} (hw : ∀ d ∈ tables_1, d.before a0 Z = true) {n0 : Nat} (x t : Addr) {cs : List Int32} {cap : Nat} (hcap : cap ≤ 16) (h1 : 0 < cs.length) (h2 : cs.length < cap) {zC : Int32} {h0 : Heap} (SC : Sta Z Z.heap "java/lang/String" "COMPACT_STRINGS" "Z" (.int zC)) (nC : ¬ zC = 0) (F : SB0 Z h0 n0 x t cs cap) :
    Ok false l Z [] n0 [] (⟨"java/lang/StringBuilder", "toString", "()Ljava/lang/String;"⟩ : MethodName) jdk_67_method_42_code 1 (Option.some (Jvm.ClassFile.FieldType.object "java/lang/String")) ({ frames := 5, cells := 2, slots := 36, locals := 121 } : Room) #[(.ref x)] h0 (fun v h => ∃ a t : Addr, v = some (.ref a) ∧ Keep h0 h [] ∧ @LE.le Nat instLENat h0.size a ∧ StrG Z h a t cs) (fun _ => []) := by
  refine Ok.of_run (ls0 := #[.val (.ref x)]) (plainFor_of_name (by first | (simp [plainName, overriddenIn]; done) | decide +kernel)) (fun m => by first | (simp [entryFrame, mkF, argsToLocals, Value.category]; done) | rfl) rfl ?_
  refine Run.old fun hO => ?_
  have hn0 : n0 ≤ h0.size := hO.1 ▸ hO.2.1
  obtain ⟨q_1, q_2, q_3, q_4, q_5, ⟨k_11, q_6⟩, q_7, q_8, q_9, q_10⟩ := (id F)
  have ne_12 : x ≠ t := Exa.neArv q_1 q_6 (wd99 hw)
  have lt_13 : @LT.lt Nat instLTNat x (Array.size h0) := Exa.lt q_1
  have lt_14 : @LT.lt Nat instLTNat t (Array.size h0) := Arv.lt q_6
  refine r_new d25_0 rfl (wd175 hw) (wd5 hw) (wd6 hw) (by decide) (by decide) ?_
  intro h_16 b_15 gb_15 ltb_15 E_17 A_18 D_19 U_20
  have szh_16 := E_17.1
  have geb_15 : n0 ≤ b_15 := by omega
  have F_21 : Fld Z h_16 b_15 "java/lang/String" "coder" "B" (.int (0 : Int32)) := D_19 (Or.inr (wd32 hw)) (ty := .byte) (by decide)
  have F_22 : Fld Z h_16 b_15 "java/lang/String" "value" "[B" .null := D_19 (Or.inr (wd34 hw)) (ty := (.array .byte)) (by decide)
  refine r_dup d25_3 rfl rfl ?_
  refine r_aloadN d25_4 rfl rfl rfl ?_
  refine r_special (y := (⟨"java/lang/String", "<init>", "(Ljava/lang/StringBuilder;)V"⟩ : MethodName)) (argsL := [(.ref x)]) (rest := [(.ref b_15)]) (W := 1) (kc := 1) (ks := 32) (wl := [b_15]) d25_5 rfl rfl (wd176 hw) (wd177 hw) (wd178 hw) (by decide) (lenOf pd_32 rfl) rfl rfl (Nat.le_of_ble_eq_true rfl) (Ok.pays (ok_insb0 hw b_15 x t hcap h1 h2 SC nC A_18 F_22 F_21 geb_15 (SB0.ext E_17 F)) (wd178 hw) (wd6 hw) (by decide) (by decide)) (fun v h' q => q.2.1) (allS ⟨geb_15, (Or.inl rfl)⟩ all0) (by decide) (by decide) ?_
  rintro _ h_23 ⟨rfl, KK, b, hge, q⟩
  refine Run.cast (st' := [(.ref b_15)]) rfl ?_
  have szh_23 := KK.1
  exact r_areturn d25_8 rfl rfl rfl rfl ⟨b_15, b, rfl, (Keep.trans (Keep.ext (Keep.refl _ _) E_17) KK (allS (Or.inr (by omega)) all0)), by omega, Or.inl ⟨q_9, Str.toL q⟩⟩ (by simp) (by decide) (by decide)
set_option maxRecDepth 65536 in
set_option maxHeartbeats 40000000 in
theorem ok_inasb1 {l : Launch} {Z : State} {a0 : Array Value} (hw : ∀ d ∈ tables_1, d.before a0 Z = true) {n0 : Nat} (y x t : Addr) {cs : List Int32} {cap : Nat} (hcap : cap ≤ 16) (h1 : 0 < cs.length) (h2 : cs.length < cap) {zC : Int32} {h0 : Heap} (SC : Sta Z Z.heap "java/lang/String" "COMPACT_STRINGS" "Z" (.int zC)) (nC : ¬ zC = 0) (E : Exa Z h0 y "java/lang/String") (V : Fld Z h0 y "java/lang/String" "value" "[B" .null) (C : Fld Z h0 y "java/lang/String" "coder" "B" (.int 0)) (ge : n0 ≤ y) (F : SB1 Z h0 n0 x t cs cap) :
    Ok false l Z [] n0 [] (⟨"java/lang/String", "<init>", "(Ljava/lang/AbstractStringBuilder;Ljava/lang/Void;)V"⟩ : MethodName) jdk_42_method_150_code 5 (Option.none : Option Jvm.ClassFile.FieldType) ({ frames := 3, cells := 1, slots := 32, locals := 91 } : Room) #[(.ref y), (.ref x), .null] h0 (fun v h => v = none ∧ Keep h0 h [y] ∧ ∃ b : Addr, @LE.le Nat instLENat h0.size b ∧ StrU Z h y b cs) (fun _ => []) := by
  refine Ok.of_run (ls0 := #[.val (.ref y), .val (.ref x), .val .null, .unset, .unset]) (plainFor_of_name (by first | (simp [plainName, overriddenIn]; done) | decide +kernel)) (fun m => by first | (simp [entryFrame, mkF, argsToLocals, Value.category]; done) | rfl) rfl ?_
  refine Run.old fun hO => ?_
  have hn0 : n0 ≤ h0.size := hO.1 ▸ hO.2.1
  obtain ⟨q_1, q_2, q_3, q_4, q_5, ⟨k_11, q_6⟩, q_7, q_8, q_9, q_10⟩ := (id F)
  have ne_12 : x ≠ t := Exa.neArv q_1 q_6 (wd99 hw)
  have lt_13 : @LT.lt Nat instLTNat x (Array.size h0) := Exa.lt q_1
  have lt_14 : @LT.lt Nat instLTNat t (Array.size h0) := Arv.lt q_6
  have lt_15 : @LT.lt Nat instLTNat y (Array.size h0) := E.lt
  have ne_16 : y ≠ t := Exa.neArv E q_6 (wd5 hw)
  refine r_aloadN d27_0 rfl rfl rfl ?_
  refine r_initO (W := 0) d27_1 rfl (wd16 hw) (wd17 hw) (wd18 hw) (by decide) (Nat.le_of_ble_eq_true rfl) (by decide) ?_
  refine r_aloadN d27_4 rfl rfl rfl ?_
  refine r_virtualN (y := (⟨"java/lang/AbstractStringBuilder", "getValue", "()[B"⟩ : MethodName)) (argsL := []) (rest := []) (W := 0) (kc := 0) (ks := 0) (wl := []) d27_5 rfl (wd182 hw) (wd183 hw) (wd185 hw) (wd184 hw) (by decide) ⟨(wd141 hw), rfl⟩ q_1 (lenOf pd_30 rfl) rfl rfl (Nat.le_of_ble_eq_true rfl) (Ok.pays (ok_getv1 hw x t F) (wd186 hw) (wd108 hw) (by decide) (by decide)) (fun v h' q => q.2 ▸ Keep.refl _ _) all0 (by decide) (by decide) ?_
  rintro _ h_17 ⟨rfl, eqh⟩
  subst h_17
  refine Run.cast (st' := [(.ref t)]) rfl ?_
  refine r_astoreN (l' := #[.val (.ref y), .val (.ref x), .val .null, .val (.ref t), .unset]) d27_8 rfl rfl rfl ?_
  refine r_aloadN d27_9 rfl rfl rfl ?_
  refine r_virtualN (y := (⟨"java/lang/StringBuilder", "length", "()I"⟩ : MethodName)) (argsL := []) (rest := []) (W := 0) (kc := 0) (ks := 0) (wl := []) d27_10 rfl (wd187 hw) (wd188 hw) (wd190 hw) (wd191 hw) (by decide) ⟨(wd141 hw), rfl⟩ q_1 (lenOf pd_25 rfl) rfl rfl (Nat.le_of_ble_eq_true rfl) (Ok.pays (ok_sblen1 hw x t F) (wd192 hw) (wd100 hw) (by decide) (by decide)) (fun v h' q => q.2 ▸ Keep.refl _ _) all0 (by decide) (by decide) ?_
  rintro _ h_18 ⟨rfl, eqh⟩
  subst h_18
  refine Run.cast (st' := [(.int (Int32.ofNat cs.length))]) rfl ?_
  refine r_istore (l' := #[.val (.ref y), .val (.ref x), .val .null, .val (.ref t), .val (.int (Int32.ofNat cs.length))]) d27_13 rfl rfl ?_
  refine r_aloadN d27_15 rfl rfl rfl ?_
  refine r_virtualN (y := (⟨"java/lang/AbstractStringBuilder", "isLatin1", "()Z"⟩ : MethodName)) (argsL := []) (rest := []) (W := 0) (kc := 0) (ks := 0) (wl := []) d27_16 rfl (wd195 hw) (wd196 hw) (wd198 hw) (wd197 hw) (by decide) ⟨(wd141 hw), rfl⟩ q_1 (lenOf pd_3 rfl) rfl rfl (Nat.le_of_ble_eq_true rfl) (Ok.pays (ok_alat1 hw x t SC nC F) (wd199 hw) (wd108 hw) (by decide) (by decide)) (fun v h' q => q.2 ▸ Keep.refl _ _) all0 (by decide) (by decide) ?_
  rintro _ h_19 ⟨rfl, eqh⟩
  subst h_19
  refine Run.cast (st' := [(.int (0 : Int32))]) rfl ?_
  have hus : (ubi cs).length = (2 * cs.length) := ubi_len cs
  refine r_ifeq (pc2 := 41) d27_19 rfl rfl (fun _ => ?_) (fun cc => absurd rfl cc)
  refine r_getstatic (host := "") d27_41 rfl (Or.inl (wd19 hw)) Via.refl SC ?_
  refine r_ifeq (pc2 := 79) d27_44 rfl rfl (fun cc => absurd cc nC) (fun _ => ?_)
  refine r_aloadN d27_47 rfl rfl rfl ?_
  refine r_getfield (host := "") d27_48 rfl (Or.inl (wd296 hw)) Via.refl q_5 ?_
  refine r_ifeq (pc2 := 79) d27_51 rfl rfl (fun _ => ?_) (fun cc => absurd rfl cc)
  refine r_aloadN d27_79 rfl rfl rfl ?_
  refine r_iconst (v := 1) d27_80 rfl rfl ?_
  refine r_putfield (ty := .byte) (v' := (.int 1)) d27_81 rfl (wd31 hw) Via.refl C E (Or.inr ⟨(wd32 hw), rfl, rfl⟩) (wd5 hw) (by decide) rfl rfl ge (Or.inl rfl) ?_
  intro h_20 W_21
  have szh_20 := Wr.size W_21
  have F_22 : Fld Z h_20 y "java/lang/String" "coder" "B" (.int 1) := Fld.same W_21 C
  refine r_aloadN d27_84 rfl rfl rfl ?_
  refine r_aloadN d27_85 rfl rfl rfl ?_
  refine r_iconst (v := 0) d27_86 rfl rfl ?_
  refine r_iload d27_87 rfl rfl ?_
  refine r_iconst (v := 1) d27_89 rfl rfl ?_
  refine r_ishl d27_90 rfl ?_
  rw [show ((Int32.ofNat cs.length) <<< ((1 : Int32) &&& 31)) = (Int32.ofNat (2 * cs.length)) from (shl1 (by omega))]
  have K_23 : Arv Z h_20 t k_11 .byte (Int32.ofNat (2 * cap)) (ubv cs) (.int 0) := (Arv.other q_6 W_21 (Ne.symm ne_16))
  have K_24 : Arv Z h_20 t k_11 .byte (Int32.ofNat (2 * cap)) ((ubi cs).map Value.int) (.int 0) := by rw [← ubv_eq]; exact K_23
  refine Run.cast (st' := [(.int (Int32.ofNat (ubi cs).length)), (.int (Int32.ofNat 0)), (.ref t), (.ref y)]) (by rw [hus]; rfl) ?_
  refine r_static (y := (⟨"java/util/Arrays", "copyOfRange", "([BII)[B"⟩ : MethodName)) (argsL := [(.ref t), (.int (Int32.ofNat 0)), (.int (Int32.ofNat (ubi cs).length))]) (rest := [(.ref y)]) (W := 1) (kc := 1) (ks := 32) (wl := []) d27_91 rfl (wd200 hw) (wd201 hw) (wd202 hw) (wd203 hw) (by decide) (lenOf pd_29 rfl) rfl rfl (Nat.le_of_ble_eq_true rfl) (Ok.pays (ok_cor hw t (bs := (ubi cs) ++ List.replicate ((2 * cap) - (ubi cs).length) 0) 0 (ubi cs).length (by omega) (by rw [List.length_append]; omega) (by rw [List.length_append, List.length_replicate]; omega) (by rw [List.length_append, List.length_replicate]; omega) (pref K_24 (by omega))) (wd203 hw) (wd202 hw) (by decide) (by decide)) (fun v h' q => by obtain ⟨_, _, _, K, _⟩ := q; exact K) all0 (by decide) (by decide) ?_
  rintro _ h_31 ⟨b_25, k_26, rfl, KK_27, hge_28, K_29, E_30⟩
  refine Run.cast (st' := [(.ref b_25), (.ref y)]) rfl ?_
  have szh_31 := KK_27.1
  rw [pref_take, Nat.sub_zero, hus] at K_29
  rw [← ubv_eq] at K_29
  have lt_32 : @LT.lt Nat instLTNat b_25 (Array.size h_31) := K_29.lt
  have ne_33 : @Ne Nat y b_25 := by omega
  have F_34 : Fld Z h_31 y "java/lang/String" "value" "[B" .null := (Fld.keep (Fld.other W_21 V (Or.inr (slot_ne (Or.inr (wd34 hw)) (Or.inr (wd32 hw)) (by decide) (t := (.array .byte)) (t' := .byte) (by decide) (by decide)))) KK_27 nin0)
  have A_35 : Exa Z h_31 y "java/lang/String" := (Exa.keep (Exa.wr W_21 E) KK_27)
  refine r_putfield (ty := (.array .byte)) (v' := (.ref b_25)) d27_94 rfl (wd33 hw) Via.refl F_34 A_35 (Or.inr ⟨(wd34 hw), rfl, rfl⟩) (wd5 hw) (by decide) rfl rfl ge (Or.inl rfl) ?_
  intro h_36 W_37
  have szh_36 := Wr.size W_37
  have F_38 : Fld Z h_36 y "java/lang/String" "value" "[B" (.ref b_25) := Fld.same W_37 F_34
  have F_39 : Fld Z h_36 y "java/lang/String" "coder" "B" (.int 1) := (Fld.other W_37 (Fld.keep F_22 KK_27 nin0) (Or.inr (slot_ne (Or.inr (wd32 hw)) (Or.inr (wd34 hw)) (by decide) (t := .byte) (t' := (.array .byte)) (by decide) (by decide))))
  have A_40 : Exa Z h_36 y "java/lang/String" := (Exa.wr W_37 A_35)
  have K_41 : Arv Z h_36 b_25 k_26 .byte (Int32.ofNat (2 * cs.length)) (ubv cs) (.int 0) := (Arv.other K_29 W_37 (Ne.symm ne_33))
  have A_42 : Exa Z h_36 b_25 "[B" := (Exa.wr W_37 E_30)
  exact r_return d27_97 rfl ⟨rfl, (Keep.wr (Keep.trans (Keep.wr (Keep.refl _ _) W_21 (Or.inl (by simp))) KK_27 all0) W_37 (Or.inl (by simp))), b_25, by omega, A_40, F_39, F_38, ⟨_, K_41⟩, A_42⟩ (by simp) (by decide) (by decide)
set_option maxRecDepth 65536 in
set_option maxHeartbeats 40000000 in
theorem ok_insb1 {l : Launch} {Z : State} {a0 : Array Value} (hw : ∀ d ∈ tables_1, d.before a0 Z = true) {n0 : Nat} (y x t : Addr) {cs : List Int32} {cap : Nat} (hcap : cap ≤ 16) (h1 : 0 < cs.length) (h2 : cs.length < cap) {zC : Int32} {h0 : Heap} (SC : Sta Z Z.heap "java/lang/String" "COMPACT_STRINGS" "Z" (.int zC)) (nC : ¬ zC = 0) (E : Exa Z h0 y "java/lang/String") (V : Fld Z h0 y "java/lang/String" "value" "[B" .null) (C : Fld Z h0 y "java/lang/String" "coder" "B" (.int 0)) (ge : n0 ≤ y) (F : SB1 Z h0 n0 x t cs cap) :
    Ok false l Z [] n0 [] (⟨"java/lang/String", "<init>", "(Ljava/lang/StringBuilder;)V"⟩ : MethodName) jdk_42_method_53_code 2 (Option.none : Option Jvm.ClassFile.FieldType) ({ frames := 4, cells := 1, slots := 32, locals := 107 } : Room) #[(.ref y), (.ref x)] h0 (fun v h => v = none ∧ Keep h0 h [y] ∧ ∃ b : Addr, @LE.le Nat instLENat h0.size b ∧ StrU Z h y b cs) (fun _ => []) := by
  refine Ok.of_run (ls0 := #[.val (.ref y), .val (.ref x)]) (plainFor_of_name (by first | (simp [plainName, overriddenIn]; done) | decide +kernel)) (fun m => by first | (simp [entryFrame, mkF, argsToLocals, Value.category]; done) | rfl) rfl ?_
  refine Run.old fun hO => ?_
  have hn0 : n0 ≤ h0.size := hO.1 ▸ hO.2.1
  refine r_aloadN d26_0 rfl rfl rfl ?_
  refine r_aloadN d26_1 rfl rfl rfl ?_
  refine r_aconst d26_2 rfl ?_
  refine r_special (y := (⟨"java/lang/String", "<init>", "(Ljava/lang/AbstractStringBuilder;Ljava/lang/Void;)V"⟩ : MethodName)) (argsL := [(.ref x), .null]) (rest := []) (W := 0) (kc := 1) (ks := 32) (wl := [y]) d26_3 rfl rfl (wd179 hw) (wd180 hw) (wd181 hw) (by decide) (lenOf pd_31 rfl) rfl rfl (Nat.le_of_ble_eq_true rfl) (Ok.pays (ok_inasb1 hw y x t hcap h1 h2 SC nC E V C ge F) (wd181 hw) (wd6 hw) (by decide) (by decide)) (fun v h' q => q.2.1) (allS ⟨ge, (Or.inl rfl)⟩ all0) (by decide) (by decide) ?_
  rintro _ h_1 ⟨rfl, q⟩
  refine Run.cast (st' := []) rfl ?_
  exact r_return d26_6 rfl ⟨rfl, q⟩ (by simp) (by decide) (by decide)
set_option maxRecDepth 65536 in
set_option maxHeartbeats 40000000 in
theorem ok_tos1 {l : Launch} {Z : State} {a0 : Array Value} (hw : ∀ d ∈ tables_1, d.before a0 Z = true) {n0 : Nat} (x t : Addr) {cs : List Int32} {cap : Nat} (hcap : cap ≤ 16) (h1 : 0 < cs.length) (h2 : cs.length < cap) {zC : Int32} {h0 : Heap} (SC : Sta Z Z.heap "java/lang/String" "COMPACT_STRINGS" "Z" (.int zC)) (nC : ¬ zC = 0) (F : SB1 Z h0 n0 x t cs cap) :
    Ok false l Z [] n0 [] (⟨"java/lang/StringBuilder", "toString", "()Ljava/lang/String;"⟩ : MethodName) jdk_67_method_42_code 1 (Option.some (Jvm.ClassFile.FieldType.object "java/lang/String")) ({ frames := 5, cells := 2, slots := 36, locals := 121 } : Room) #[(.ref x)] h0 (fun v h => ∃ a t : Addr, v = some (.ref a) ∧ Keep h0 h [] ∧ @LE.le Nat instLENat h0.size a ∧ StrG Z h a t cs) (fun _ => []) := by
  refine Ok.of_run (ls0 := #[.val (.ref x)]) (plainFor_of_name (by first | (simp [plainName, overriddenIn]; done) | decide +kernel)) (fun m => by first | (simp [entryFrame, mkF, argsToLocals, Value.category]; done) | rfl) rfl ?_
  refine Run.old fun hO => ?_
  have hn0 : n0 ≤ h0.size := hO.1 ▸ hO.2.1
  obtain ⟨q_1, q_2, q_3, q_4, q_5, ⟨k_11, q_6⟩, q_7, q_8, q_9, q_10⟩ := (id F)
  have ne_12 : x ≠ t := Exa.neArv q_1 q_6 (wd99 hw)
  have lt_13 : @LT.lt Nat instLTNat x (Array.size h0) := Exa.lt q_1
  have lt_14 : @LT.lt Nat instLTNat t (Array.size h0) := Arv.lt q_6
  refine r_new d25_0 rfl (wd175 hw) (wd5 hw) (wd6 hw) (by decide) (by decide) ?_
  intro h_16 b_15 gb_15 ltb_15 E_17 A_18 D_19 U_20
  have szh_16 := E_17.1
  have geb_15 : n0 ≤ b_15 := by omega
  have F_21 : Fld Z h_16 b_15 "java/lang/String" "coder" "B" (.int (0 : Int32)) := D_19 (Or.inr (wd32 hw)) (ty := .byte) (by decide)
  have F_22 : Fld Z h_16 b_15 "java/lang/String" "value" "[B" .null := D_19 (Or.inr (wd34 hw)) (ty := (.array .byte)) (by decide)
  refine r_dup d25_3 rfl rfl ?_
  refine r_aloadN d25_4 rfl rfl rfl ?_
  refine r_special (y := (⟨"java/lang/String", "<init>", "(Ljava/lang/StringBuilder;)V"⟩ : MethodName)) (argsL := [(.ref x)]) (rest := [(.ref b_15)]) (W := 1) (kc := 1) (ks := 32) (wl := [b_15]) d25_5 rfl rfl (wd176 hw) (wd177 hw) (wd178 hw) (by decide) (lenOf pd_32 rfl) rfl rfl (Nat.le_of_ble_eq_true rfl) (Ok.pays (ok_insb1 hw b_15 x t hcap h1 h2 SC nC A_18 F_22 F_21 geb_15 (SB1.ext E_17 F)) (wd178 hw) (wd6 hw) (by decide) (by decide)) (fun v h' q => q.2.1) (allS ⟨geb_15, (Or.inl rfl)⟩ all0) (by decide) (by decide) ?_
  rintro _ h_23 ⟨rfl, KK, b, hge, q⟩
  refine Run.cast (st' := [(.ref b_15)]) rfl ?_
  have szh_23 := KK.1
  exact r_areturn d25_8 rfl rfl rfl rfl ⟨b_15, b, rfl, (Keep.trans (Keep.ext (Keep.refl _ _) E_17) KK (allS (Or.inr (by omega)) all0)), by omega, Or.inr ⟨q_9, q⟩⟩ (by simp) (by decide) (by decide)
theorem ok_gtos {l : Launch} {Z : State} {a0 : Array Value} (hw : ∀ d ∈ tables_1, d.before a0 Z = true) {n0 : Nat} (x t : Addr) {cs : List Int32} {cap : Nat} (hcap : cap ≤ 16) (h1 : 0 < cs.length) (h2 : cs.length < cap) {zC : Int32} {h0 : Heap} (SC : Sta Z Z.heap "java/lang/String" "COMPACT_STRINGS" "Z" (.int zC)) (nC : ¬ zC = 0) (F : SBG Z h0 n0 x t cs cap) {R : Room} {W : Nat} (hf : 5 + 1 ≤ R.frames) (hlo : W + (1 + 11) + 121 ≤ R.locals) :
    Pays l Z n0 R (⟨"java/lang/StringBuilder", "toString", "()Ljava/lang/String;"⟩ : MethodName) 3 W #[.ref x] h0 2 36 (fun v h => ∃ a t : Addr, v = some (.ref a) ∧ Keep h0 h [] ∧ @LE.le Nat instLENat h0.size a ∧ StrG Z h a t cs) := by
  rcases F with F | F
  · exact Pays.weak (by decide) (by decide) (Ok.pays (ok_tos0 hw x t hcap h1 h2 SC nC F) (wd174 hw) (wd100 hw) (Nat.le_trans (by decide) hf) (Nat.le_trans (Nat.add_le_add_left (by decide) _) hlo)) (fun v h q => q)
  · exact Pays.weak (by decide) (by decide) (Ok.pays (ok_tos1 hw x t hcap h1 h2 SC nC F) (wd174 hw) (wd100 hw) (Nat.le_trans (by decide) hf) (Nat.le_trans (Nat.add_le_add_left (by decide) _) hlo)) (fun v h q => q)
theorem exWords {Z : State} {a0 : Array Value} (hw : ∀ d ∈ tables_1, d.before a0 Z = true) : ∀ d ∈ Jvm.Free.Exc.excAtoms "com/example/fate_of_jobs/fateofjobs/conformance/CaseFormatException", d ≠ badWord → d.before a0 Z = true := fun d hd hn => hw d ((by decide +kernel : ∀ d ∈ Jvm.Free.Exc.excAtoms "com/example/fate_of_jobs/fateofjobs/conformance/CaseFormatException", d ≠ badWord → d ∈ tables_1) d hd hn)
set_option maxRecDepth 65536 in
set_option maxHeartbeats 40000000 in
theorem ok_thi {l : Launch} {Z : State} {a0 : Array Value} (hw : ∀ d ∈ tables_1, d.before a0 Z = true) {n0 : Nat} (x a : Addr) {aU aN : Addr} {h0 : Heap} (hst : l.stackTraces = true) (SU : Sta Z Z.heap "java/lang/Throwable" "UNASSIGNED_STACK" "[Ljava/lang/StackTraceElement;" (.ref aU)) (SN : Sta Z Z.heap "java/lang/Throwable" "SUPPRESSED_SENTINEL" "Ljava/util/List;" (.ref aN)) (E : Exa Z h0 x "com/example/fate_of_jobs/fateofjobs/conformance/CaseFormatException") (N : Unt h0 x) (ge : n0 ≤ x) (B1 : Fld Z h0 x "java/lang/Throwable" "backtrace" "Ljava/lang/Object;" .null) (B2 : Fld Z h0 x "java/lang/Throwable" "detailMessage" "Ljava/lang/String;" .null) (B3 : Fld Z h0 x "java/lang/Throwable" "cause" "Ljava/lang/Throwable;" .null) (B4 : Fld Z h0 x "java/lang/Throwable" "stackTrace" "[Ljava/lang/StackTraceElement;" .null) (B5 : Fld Z h0 x "java/lang/Throwable" "suppressedExceptions" "Ljava/util/List;" .null) :
    Ok false l Z [] n0 [] (⟨"java/lang/Throwable", "<init>", "(Ljava/lang/String;)V"⟩ : MethodName) jdk_78_method_2_code 2 (Option.none : Option Jvm.ClassFile.FieldType) ({ frames := 3, cells := 1, slots := 2752, locals := 42 } : Room) #[(.ref x), (.ref a)] h0 (fun v h => v = none ∧ Keep h0 h [x] ∧ Fld Z h x "java/lang/Throwable" "detailMessage" "Ljava/lang/String;" (.ref a)) (fun _ => []) := by
  refine Ok.of_run (ls0 := #[.val (.ref x), .val (.ref a)]) (plainFor_of_name (by first | (simp [plainName, overriddenIn]; done) | decide +kernel)) (fun m => by first | (simp [entryFrame, mkF, argsToLocals, Value.category]; done) | rfl) rfl ?_
  refine Run.old fun hO => ?_
  have hn0 : n0 ≤ h0.size := hO.1 ▸ hO.2.1
  have lt_1 : @LT.lt Nat instLTNat x (Array.size h0) := E.lt
  refine r_aloadN d10_0 rfl rfl rfl ?_
  refine r_initO (W := 0) d10_1 rfl (wd55 hw) (wd17 hw) (wd18 hw) (by decide) (Nat.le_of_ble_eq_true rfl) (by decide) ?_
  refine r_aloadN d10_4 rfl rfl rfl ?_
  refine r_aloadN d10_5 rfl rfl rfl ?_
  refine r_putfield (ty := (.object "java/lang/Throwable")) (v' := (.ref x)) d10_6 rfl (wd56 hw) Via.refl B3 E (Or.inl (wd57 hw)) (wd39 hw) (by decide) rfl rfl ge (Or.inl rfl) ?_
  intro h_2 W_3
  have szh_2 := Wr.size W_3
  have F_4 : Fld Z h_2 x "java/lang/Throwable" "cause" "Ljava/lang/Throwable;" (.ref x) := Fld.same W_3 B3
  refine r_aloadN d10_9 rfl rfl rfl ?_
  refine r_getstatic (host := "") d10_10 rfl (Or.inl (wd58 hw)) Via.refl SU ?_
  have F_5 : Fld Z h_2 x "java/lang/Throwable" "stackTrace" "[Ljava/lang/StackTraceElement;" .null := (Fld.other W_3 B4 (Or.inr (slot_ne (Or.inl (wd60 hw)) (Or.inl (wd57 hw)) (by decide) (t := (.array (.object "java/lang/StackTraceElement"))) (t' := (.object "java/lang/Throwable")) (by decide) (by decide))))
  have A_6 : Exa Z h_2 x "com/example/fate_of_jobs/fateofjobs/conformance/CaseFormatException" := (Exa.wr W_3 E)
  refine r_putfield (ty := (.array (.object "java/lang/StackTraceElement"))) (v' := (.ref aU)) d10_13 rfl (wd59 hw) Via.refl F_5 A_6 (Or.inl (wd60 hw)) (wd39 hw) (by decide) rfl rfl ge (Or.inl rfl) ?_
  intro h_7 W_8
  have szh_7 := Wr.size W_8
  have F_9 : Fld Z h_7 x "java/lang/Throwable" "stackTrace" "[Ljava/lang/StackTraceElement;" (.ref aU) := Fld.same W_8 F_5
  refine r_aloadN d10_16 rfl rfl rfl ?_
  refine r_getstatic (host := "") d10_17 rfl (Or.inl (wd61 hw)) Via.refl SN ?_
  have F_10 : Fld Z h_7 x "java/lang/Throwable" "suppressedExceptions" "Ljava/util/List;" .null := (Fld.other W_8 (Fld.other W_3 B5 (Or.inr (slot_ne (Or.inl (wd63 hw)) (Or.inl (wd57 hw)) (by decide) (t := (.object "java/util/List")) (t' := (.object "java/lang/Throwable")) (by decide) (by decide)))) (Or.inr (slot_ne (Or.inl (wd63 hw)) (Or.inl (wd60 hw)) (by decide) (t := (.object "java/util/List")) (t' := (.array (.object "java/lang/StackTraceElement"))) (by decide) (by decide))))
  have A_11 : Exa Z h_7 x "com/example/fate_of_jobs/fateofjobs/conformance/CaseFormatException" := (Exa.wr W_8 A_6)
  refine r_putfield (ty := (.object "java/util/List")) (v' := (.ref aN)) d10_20 rfl (wd62 hw) Via.refl F_10 A_11 (Or.inl (wd63 hw)) (wd39 hw) (by decide) rfl rfl ge (Or.inl rfl) ?_
  intro h_12 W_13
  have szh_12 := Wr.size W_13
  have F_14 : Fld Z h_12 x "java/lang/Throwable" "suppressedExceptions" "Ljava/util/List;" (.ref aN) := Fld.same W_13 F_10
  refine r_aloadN d10_23 rfl rfl rfl ?_
  have A_15 : Exa Z h_12 x "com/example/fate_of_jobs/fateofjobs/conformance/CaseFormatException" := (Exa.wr W_13 A_11)
  have F_16 : Fld Z h_12 x "java/lang/Throwable" "stackTrace" "[Ljava/lang/StackTraceElement;" (.ref aU) := (Fld.other W_13 F_9 (Or.inr (slot_ne (Or.inl (wd60 hw)) (Or.inl (wd63 hw)) (by decide) (t := (.array (.object "java/lang/StackTraceElement"))) (t' := (.object "java/util/List")) (by decide) (by decide))))
  have F_17 : Fld Z h_12 x "java/lang/Throwable" "backtrace" "Ljava/lang/Object;" .null := (Fld.other W_13 (Fld.other W_8 (Fld.other W_3 B1 (Or.inr (slot_ne (Or.inl (wd88 hw)) (Or.inl (wd57 hw)) (by decide) (t := (.object "java/lang/Object")) (t' := (.object "java/lang/Throwable")) (by decide) (by decide)))) (Or.inr (slot_ne (Or.inl (wd88 hw)) (Or.inl (wd60 hw)) (by decide) (t := (.object "java/lang/Object")) (t' := (.array (.object "java/lang/StackTraceElement"))) (by decide) (by decide)))) (Or.inr (slot_ne (Or.inl (wd88 hw)) (Or.inl (wd63 hw)) (by decide) (t := (.object "java/lang/Object")) (t' := (.object "java/util/List")) (by decide) (by decide))))
  have F_18 : Fld Z h_12 x "java/lang/Throwable" "detailMessage" "Ljava/lang/String;" .null := (Fld.other W_13 (Fld.other W_8 (Fld.other W_3 B2 (Or.inr (slot_ne (Or.inl (wd87 hw)) (Or.inl (wd57 hw)) (by decide) (t := (.object "java/lang/String")) (t' := (.object "java/lang/Throwable")) (by decide) (by decide)))) (Or.inr (slot_ne (Or.inl (wd87 hw)) (Or.inl (wd60 hw)) (by decide) (t := (.object "java/lang/String")) (t' := (.array (.object "java/lang/StackTraceElement"))) (by decide) (by decide)))) (Or.inr (slot_ne (Or.inl (wd87 hw)) (Or.inl (wd63 hw)) (by decide) (t := (.object "java/lang/String")) (t' := (.object "java/util/List")) (by decide) (by decide))))
  refine r_fill (rc := "com/example/fate_of_jobs/fateofjobs/conformance/CaseFormatException") (W := 0) d10_24 rfl hst (exWords hw) (wd64 hw) (wd39 hw) A_15 (Unt.wr W_13 (Unt.wr W_8 (Unt.wr W_3 N))) F_16 (by intro q; cases q) rfl SU F_17 (by decide) (by decide) (by decide) ge (by decide) (Nat.le_of_ble_eq_true rfl) (by decide) (by decide) (by decide) ?_
  intro h_19 KF FM_
  have szh_19 := KF.1
  refine r_pop d10_27 rfl rfl ?_
  refine r_aloadN d10_28 rfl rfl rfl ?_
  refine r_aloadN d10_29 rfl rfl rfl ?_
  have A_20 : Exa Z h_19 x "com/example/fate_of_jobs/fateofjobs/conformance/CaseFormatException" := (Exa.keep A_15 KF)
  refine r_putfield (ty := (.object "java/lang/String")) (v' := (.ref a)) d10_30 rfl (wd91 hw) Via.refl (FM_ _ F_18) A_20 (Or.inl (wd87 hw)) (wd39 hw) (by decide) rfl rfl ge (Or.inl rfl) ?_
  intro h_21 W_22
  have szh_21 := Wr.size W_22
  have F_23 : Fld Z h_21 x "java/lang/Throwable" "detailMessage" "Ljava/lang/String;" (.ref a) := Fld.same W_22 (FM_ _ F_18)
  exact r_return d10_33 rfl ⟨rfl, (Keep.wr (Keep.trans (Keep.wr (Keep.wr (Keep.wr (Keep.refl _ _) W_3 (Or.inl (by simp))) W_8 (Or.inl (by simp))) W_13 (Or.inl (by simp))) KF (allS (Or.inl (by simp)) all0)) W_22 (Or.inl (by simp))), F_23⟩ (by simp) (by decide) (by decide)
set_option maxRecDepth 65536 in
set_option maxHeartbeats 40000000 in
theorem ok_exi {l : Launch} {Z : State} {a0 : Array Value} (hw : ∀ d ∈ tables_1, d.before a0 Z = true) {n0 : Nat} (x a : Addr) {aU aN : Addr} {h0 : Heap} (hst : l.stackTraces = true) (SU : Sta Z Z.heap "java/lang/Throwable" "UNASSIGNED_STACK" "[Ljava/lang/StackTraceElement;" (.ref aU)) (SN : Sta Z Z.heap "java/lang/Throwable" "SUPPRESSED_SENTINEL" "Ljava/util/List;" (.ref aN)) (E : Exa Z h0 x "com/example/fate_of_jobs/fateofjobs/conformance/CaseFormatException") (N : Unt h0 x) (ge : n0 ≤ x) (B1 : Fld Z h0 x "java/lang/Throwable" "backtrace" "Ljava/lang/Object;" .null) (B2 : Fld Z h0 x "java/lang/Throwable" "detailMessage" "Ljava/lang/String;" .null) (B3 : Fld Z h0 x "java/lang/Throwable" "cause" "Ljava/lang/Throwable;" .null) (B4 : Fld Z h0 x "java/lang/Throwable" "stackTrace" "[Ljava/lang/StackTraceElement;" .null) (B5 : Fld Z h0 x "java/lang/Throwable" "suppressedExceptions" "Ljava/util/List;" .null) :
    Ok false l Z [] n0 [] (⟨"java/lang/Exception", "<init>", "(Ljava/lang/String;)V"⟩ : MethodName) jdk_59_method_2_code 2 (Option.none : Option Jvm.ClassFile.FieldType) ({ frames := 4, cells := 1, slots := 2752, locals := 55 } : Room) #[(.ref x), (.ref a)] h0 (fun v h => v = none ∧ Keep h0 h [x] ∧ Fld Z h x "java/lang/Throwable" "detailMessage" "Ljava/lang/String;" (.ref a)) (fun _ => []) := by
  refine Ok.of_run (ls0 := #[.val (.ref x), .val (.ref a)]) (plainFor_of_name (by first | (simp [plainName, overriddenIn]; done) | decide +kernel)) (fun m => by first | (simp [entryFrame, mkF, argsToLocals, Value.category]; done) | rfl) rfl ?_
  refine Run.old fun hO => ?_
  have hn0 : n0 ≤ h0.size := hO.1 ▸ hO.2.1
  have lt_1 : @LT.lt Nat instLTNat x (Array.size h0) := E.lt
  refine r_aloadN d9_0 rfl rfl rfl ?_
  refine r_aloadN d9_1 rfl rfl rfl ?_
  refine r_special (y := (⟨"java/lang/Throwable", "<init>", "(Ljava/lang/String;)V"⟩ : MethodName)) (argsL := [(.ref a)]) (rest := []) (W := 0) (kc := 1) (ks := 2752) (wl := [x]) d9_2 rfl rfl (wd49 hw) (wd50 hw) (wd54 hw) (by decide) (lenOf pd_23 rfl) rfl rfl (Nat.le_of_ble_eq_true rfl) (Ok.pays (ok_thi hw x a hst SU SN E N ge B1 B2 B3 B4 B5) (wd54 hw) (wd53 hw) (by decide) (by decide)) (fun v h' q => q.2.1) (allS ⟨ge, (Or.inl rfl)⟩ all0) (by decide) (by decide) ?_
  rintro _ h_2 ⟨rfl, q⟩
  refine Run.cast (st' := []) rfl ?_
  exact r_return d9_5 rfl ⟨rfl, q⟩ (by simp) (by decide) (by decide)
set_option maxRecDepth 65536 in
set_option maxHeartbeats 40000000 in
theorem ok_cfi {l : Launch} {Z : State} {a0 : Array Value} (hw : ∀ d ∈ tables_1, d.before a0 Z = true) {n0 : Nat} (x a : Addr) {aU aN : Addr} {h0 : Heap} (hst : l.stackTraces = true) (SU : Sta Z Z.heap "java/lang/Throwable" "UNASSIGNED_STACK" "[Ljava/lang/StackTraceElement;" (.ref aU)) (SN : Sta Z Z.heap "java/lang/Throwable" "SUPPRESSED_SENTINEL" "Ljava/util/List;" (.ref aN)) (E : Exa Z h0 x "com/example/fate_of_jobs/fateofjobs/conformance/CaseFormatException") (N : Unt h0 x) (ge : n0 ≤ x) (B1 : Fld Z h0 x "java/lang/Throwable" "backtrace" "Ljava/lang/Object;" .null) (B2 : Fld Z h0 x "java/lang/Throwable" "detailMessage" "Ljava/lang/String;" .null) (B3 : Fld Z h0 x "java/lang/Throwable" "cause" "Ljava/lang/Throwable;" .null) (B4 : Fld Z h0 x "java/lang/Throwable" "stackTrace" "[Ljava/lang/StackTraceElement;" .null) (B5 : Fld Z h0 x "java/lang/Throwable" "suppressedExceptions" "Ljava/util/List;" .null) :
    Ok false l Z [] n0 [] (⟨"com/example/fate_of_jobs/fateofjobs/conformance/CaseFormatException", "<init>", "(Ljava/lang/String;)V"⟩ : MethodName) prog_4_method_1_code 2 (Option.none : Option Jvm.ClassFile.FieldType) ({ frames := 5, cells := 1, slots := 2752, locals := 68 } : Room) #[(.ref x), (.ref a)] h0 (fun v h => v = none ∧ Keep h0 h [x] ∧ Fld Z h x "java/lang/Throwable" "detailMessage" "Ljava/lang/String;" (.ref a)) (fun _ => []) := by
  refine Ok.of_run (ls0 := #[.val (.ref x), .val (.ref a)]) (plainFor_of_name (by first | (simp [plainName, overriddenIn]; done) | decide +kernel)) (fun m => by first | (simp [entryFrame, mkF, argsToLocals, Value.category]; done) | rfl) rfl ?_
  refine Run.old fun hO => ?_
  have hn0 : n0 ≤ h0.size := hO.1 ▸ hO.2.1
  have lt_1 : @LT.lt Nat instLTNat x (Array.size h0) := E.lt
  refine r_aloadN d8_0 rfl rfl rfl ?_
  refine r_aloadN d8_1 rfl rfl rfl ?_
  refine r_special (y := (⟨"java/lang/Exception", "<init>", "(Ljava/lang/String;)V"⟩ : MethodName)) (argsL := [(.ref a)]) (rest := []) (W := 0) (kc := 1) (ks := 2752) (wl := [x]) d8_2 rfl rfl (wd44 hw) (wd45 hw) (wd48 hw) (by decide) (lenOf pd_23 rfl) rfl rfl (Nat.le_of_ble_eq_true rfl) (Ok.pays (ok_exi hw x a hst SU SN E N ge B1 B2 B3 B4 B5) (wd48 hw) (wd47 hw) (by decide) (by decide)) (fun v h' q => q.2.1) (allS ⟨ge, (Or.inl rfl)⟩ all0) (by decide) (by decide) ?_
  rintro _ h_2 ⟨rfl, q⟩
  refine Run.cast (st' := []) rfl ?_
  exact r_return d8_5 rfl ⟨rfl, q⟩ (by simp) (by decide) (by decide)
abbrev ch0 (p : Int32) : Int32 := (p &&& (65535 : Int32)).toUInt32.toUInt16.toUInt32.toInt32
abbrev ch1 (p : Int32) : Int32 := ((p.toUInt32 >>> ((16 : Int32) &&& 31).toUInt32).toInt32 &&& (65535 : Int32)).toUInt32.toUInt16.toUInt32.toInt32
def mkc (n p : Int32) : List Int32 := if n = 0 then [] else if n = 1 then [ch0 p] else [ch0 p, ch1 p]
theorem uni1 (p : Int32) : Uni [ch0 p] := fun c hc => by
  rw [List.mem_singleton] at hc; rw [hc]; exact i2c_uni _
theorem uni2 (p : Int32) : Uni [ch0 p, ch1 p] := fun c hc => by
  simp only [List.mem_cons, List.not_mem_nil, or_false] at hc
  rcases hc with rfl | rfl <;> exact i2c_uni _
set_option maxRecDepth 65536 in
set_option maxHeartbeats 40000000 in
theorem ok_mk {l : Launch} {Z : State} {a0 : Array Value} (hw : ∀ d ∈ tables_1, d.before a0 Z = true) {n0 : Nat} (n p : Int32) {zC : Int32} {h0 : Heap} (SC : Sta Z Z.heap "java/lang/String" "COMPACT_STRINGS" "Z" (.int zC)) (nC : ¬ zC = 0) (SA : Sta Z Z.heap "java/lang/StringUTF16" "$assertionsDisabled" "Z" (.int 1)) (SH : Sta Z Z.heap "java/lang/StringUTF16" "HI_BYTE_SHIFT" "I" (.int 0)) (SL8 : Sta Z Z.heap "java/lang/StringUTF16" "LO_BYTE_SHIFT" "I" (.int 8)) :
    Ok true l Z consts_1 n0 [] (⟨"com/example/fate_of_jobs/fateofjobs/conformance/CaseFormatExceptionWithinPinLaw", "mk", "(II)Ljava/lang/String;"⟩ : MethodName) method_2_code 2 (Option.some (Jvm.ClassFile.FieldType.object "java/lang/String")) ({ frames := 6, cells := 4, slots := 54, locals := 88 } : Room) #[(.int n), (.int p)] h0 (fun v h => ∃ a t : Addr, v = some (.ref a) ∧ Keep h0 h [] ∧ StrG Z h a t (mkc n p)) (fun _ => []) := by
  refine Ok.of_run (ls0 := #[.val (.int n), .val (.int p)]) (plainFor_of_name (by first | (simp [plainName, overriddenIn]; done) | decide +kernel)) (fun m => by first | (simp [entryFrame, mkF, argsToLocals, Value.category]; done) | rfl) rfl ?_
  refine Run.old fun hO => ?_
  have hn0 : n0 ≤ h0.size := hO.1 ▸ hO.2.1
  refine r_iloadN d1_0 rfl rfl ?_
  refine r_ifne (pc2 := 7) d1_1 rfl rfl (fun c_1 => ?_) (fun c_1 => ?_)
  · refine r_iloadN d1_7 rfl rfl ?_
    refine r_iconst (v := 1) d1_8 rfl rfl ?_
    refine r_icmpne (pc2 := 21) d1_9 rfl rfl (fun c_2 => ?_) (fun c_2 => ?_)
    · refine r_new d1_21 rfl (wd4 hw) (wd5 hw) (wd6 hw) (by decide) (by decide) ?_
      intro h_4 b_3 gb_3 ltb_3 E_5 A_6 D_7 U_8
      have szh_4 := E_5.1
      have geb_3 : n0 ≤ b_3 := by omega
      have F_9 : Fld Z h_4 b_3 "java/lang/String" "coder" "B" (.int (0 : Int32)) := D_7 (Or.inr (wd32 hw)) (ty := .byte) (by decide)
      have F_10 : Fld Z h_4 b_3 "java/lang/String" "value" "[B" .null := D_7 (Or.inr (wd34 hw)) (ty := (.array .byte)) (by decide)
      refine r_dup d1_24 rfl rfl ?_
      refine r_iconst (v := 2) d1_25 rfl rfl ?_
      refine r_newP (cap := 2) (ad := "[C") d1_26 rfl (wd7 hw) (by decide) (by decide) (by decide) (by decide) (by decide) (by decide) ?_
      intro h_12 b_11 k_16 gb_11 ltb_11 E_13 A_14 K_15
      have szh_12 := E_13.1
      have geb_11 : n0 ≤ b_11 := by omega
      have K_17 : Arv Z h_12 b_11 k_16 .char (2 : Int32) [(.int 0), (.int 0)] (.int 0) := Arv.pad K_15 (pad_rep [] (.int 0) 2)
      refine r_dup d1_28 rfl rfl ?_
      refine r_iconst (v := 0) d1_29 rfl rfl ?_
      refine r_iloadN d1_30 rfl rfl ?_
      refine r_ldcI d1_31 rfl (wd8 hw) ?_
      refine r_iand d1_33 rfl ?_
      refine r_i2c d1_34 rfl ?_
      refine r_castore 0 d1_35 rfl K_17 ⟨by decide, by decide⟩ rfl (Nat.le_of_ble_eq_true rfl) geb_11 ?_
      intro h_18 W_19 K_20
      have szh_18 := Wr.size W_19
      have K_21 : Arv Z h_18 b_11 k_16 .char (2 : Int32) [(.int (nar .char ((p &&& (65535 : Int32)).toUInt32.toUInt16.toUInt32.toInt32))), (.int 0)] (.int 0) := K_20
      refine r_dup d1_36 rfl rfl ?_
      refine r_iconst (v := 1) d1_37 rfl rfl ?_
      refine r_iloadN d1_38 rfl rfl ?_
      refine r_bipush (v := 16) d1_39 rfl rfl ?_
      refine r_iushr d1_41 rfl ?_
      refine r_ldcI d1_42 rfl (wd8 hw) ?_
      refine r_iand d1_44 rfl ?_
      refine r_i2c d1_45 rfl ?_
      refine r_castore 1 d1_46 rfl K_21 ⟨by decide, by decide⟩ rfl (Nat.le_of_ble_eq_true rfl) geb_11 ?_
      intro h_22 W_23 K_24
      have szh_22 := Wr.size W_23
      have K_25 : Arv Z h_22 b_11 k_16 .char (2 : Int32) [(.int (nar .char ((p &&& (65535 : Int32)).toUInt32.toUInt16.toUInt32.toInt32))), (.int (nar .char ((((p.toUInt32 >>> ((16 : Int32) &&& 31).toUInt32).toInt32) &&& (65535 : Int32)).toUInt32.toUInt16.toUInt32.toInt32)))] (.int 0) := K_24
      have K_26 : Arv Z h_22 b_11 k_16 .char (Int32.ofNat [ch0 p, ch1 p].length) ([ch0 p, ch1 p].map Value.int) (.int 0) := by have q := K_25; rw [nar_uni (i2c_uni _), nar_uni (i2c_uni _)] at q; exact q
      have ne_27 : @Ne Nat b_3 b_11 := by omega
      have F_28 : Fld Z h_22 b_3 "java/lang/String" "value" "[B" .null := (Fld.other W_23 (Fld.other W_19 (Fld.ext E_13 F_10) (Or.inl ne_27)) (Or.inl ne_27))
      have F_29 : Fld Z h_22 b_3 "java/lang/String" "coder" "B" (.int (0 : Int32)) := (Fld.other W_23 (Fld.other W_19 (Fld.ext E_13 F_9) (Or.inl ne_27)) (Or.inl ne_27))
      have A_30 : Exa Z h_22 b_3 "java/lang/String" := (Exa.wr W_23 (Exa.wr W_19 (Exa.ext E_13 A_6)))
      refine r_special (y := (⟨"java/lang/String", "<init>", "([C)V"⟩ : MethodName)) (argsL := [(.ref b_11)]) (rest := [(.ref b_3)]) (W := 1) (kc := 2) (ks := 48) (wl := [b_3]) d1_47 rfl rfl (wd9 hw) (wd10 hw) (wd11 hw) (by decide) (lenOf pd_33 rfl) rfl rfl (Nat.le_of_ble_eq_true rfl) (Ok.pays (ok_i1g hw b_3 b_11 (uni2 p) (Nat.le_of_ble_eq_true rfl) (Nat.le_of_ble_eq_true rfl) SC nC SA SH SL8 A_30 F_28 F_29 geb_3 K_26) (wd11 hw) (wd6 hw) (by decide) (by decide)) (fun v h' q => q.2.1) (allS ⟨geb_3, (Sf.my (by simp))⟩ all0) (by decide) (by decide) ?_
      rintro _ h_31 ⟨rfl, KK, t, hge, q⟩
      refine Run.cast (st' := [(.ref b_3)]) rfl ?_
      have szh_31 := KK.1
      exact r_areturn d1_50 rfl rfl rfl rfl ⟨b_3, t, rfl, (Keep.trans (Keep.wr (Keep.wr (Keep.ext (Keep.ext (Keep.refl _ _) E_5) E_13) W_19 (Or.inr (by omega))) W_23 (Or.inr (by omega))) KK (allS (Or.inr (by omega)) all0)), by rw [mkc, if_neg c_1, if_neg c_2]; exact q⟩ (by simp) (by decide) (by decide)
    · refine r_iloadN d1_12 rfl rfl ?_
      refine r_ldcI d1_13 rfl (wd8 hw) ?_
      refine r_iand d1_15 rfl ?_
      refine r_i2c d1_16 rfl ?_
      refine r_static (y := (⟨"java/lang/String", "valueOf", "(C)Ljava/lang/String;"⟩ : MethodName)) (argsL := [(.int ((p &&& (65535 : Int32)).toUInt32.toUInt16.toUInt32.toInt32))]) (rest := []) (W := 0) (kc := 2) (ks := 6) (wl := []) d1_17 rfl (wd245 hw) (wd246 hw) (wd6 hw) (wd247 hw) (by decide) (lenOf pd_34 rfl) rfl rfl (Nat.le_of_ble_eq_true rfl) (Ok.pays (ok_valc hw (ch0 p) (uni1 p) SC nC SA SH SL8) (wd247 hw) (wd6 hw) (by decide) (by decide)) (fun v h' q => by obtain ⟨_, _, _, K, _⟩ := q; exact K) all0 (by decide) (by decide) ?_
      rintro _ h_32 ⟨a, t, rfl, KK, hge, q⟩
      refine Run.cast (st' := [(.ref a)]) rfl ?_
      exact r_areturn d1_20 rfl rfl rfl rfl ⟨a, t, rfl, KK, by rw [mkc, if_neg c_1, if_pos c_2]; exact q⟩ (by simp) (by decide) (by decide)
  · refine r_ldcS (z := 0) (n := 0) (vs := []) rfl d1_4 rfl (wd35 hw) (strAtoms hw) (by simp [consts_1]) ⟨by decide, by decide⟩ (by decide) (by decide) (by decide) (by decide) (by decide) (by decide) ?_
    intro h_33 a_34 t_35 k_36 E_37 A_38 C_39 V_40 K_41 N_42
    have szh_33 := E_37.1
    exact r_areturn d1_6 rfl rfl rfl rfl ⟨a_34, t_35, rfl, (Keep.ext (Keep.refl _ _) E_37), by rw [mkc, if_pos c_1]; exact Or.inl ⟨fun c hc => absurd hc List.not_mem_nil, A_38, C_39, V_40, k_36, K_41⟩⟩ (by simp) (by decide) (by decide)
set_option maxRecDepth 65536 in
set_option maxHeartbeats 40000000 in
theorem ok_gm {l : Launch} {Z : State} {a0 : Array Value} (hw : ∀ d ∈ tables_1, d.before a0 Z = true) {n0 : Nat} (x a : Addr) {h0 : Heap} (F : Fld Z h0 x "java/lang/Throwable" "detailMessage" "Ljava/lang/String;" (.ref a)) :
    Ok false l Z [] n0 [] (⟨"java/lang/Throwable", "getMessage", "()Ljava/lang/String;"⟩ : MethodName) jdk_78_method_6_code 1 (Option.some (Jvm.ClassFile.FieldType.object "java/lang/String")) ({ frames := 0, cells := 0, slots := 0, locals := 0 } : Room) #[(.ref x)] h0 (fun v h => v = some (.ref a) ∧ h = h0) (fun _ => []) := by
  refine Ok.of_run (ls0 := #[.val (.ref x)]) (plainFor_of_name (by first | (simp [plainName, overriddenIn]; done) | decide +kernel)) (fun m => by first | (simp [entryFrame, mkF, argsToLocals, Value.category]; done) | rfl) rfl ?_
  refine Run.old fun hO => ?_
  have hn0 : n0 ≤ h0.size := hO.1 ▸ hO.2.1
  refine r_aloadN d24_0 rfl rfl rfl ?_
  refine r_getfield (host := "") d24_1 rfl (Or.inl (wd91 hw)) Via.refl F ?_
  exact r_areturn d24_4 rfl rfl rfl rfl ⟨rfl, rfl⟩ (by simp) (by decide) (by decide)
abbrev sep : List Int32 := [58, 32]
set_option maxRecDepth 65536 in
set_option maxHeartbeats 40000000 in
theorem ok_wi {l : Launch} {Z : State} {a0 : Array Value} (hw : ∀ d ∈ tables_1, d.before a0 Z = true) {n0 : Nat} (x a ta m tm : Addr) {ps ms : List Int32} (hps : ps.length ≤ 2) (hms : ms.length ≤ 2) {aU aN : Addr} {zC : Int32} {vF : Value} {h0 : Heap} (hst : l.stackTraces = true) (SU : Sta Z Z.heap "java/lang/Throwable" "UNASSIGNED_STACK" "[Ljava/lang/StackTraceElement;" (.ref aU)) (SN : Sta Z Z.heap "java/lang/Throwable" "SUPPRESSED_SENTINEL" "Ljava/util/List;" (.ref aN)) (SC : Sta Z Z.heap "java/lang/String" "COMPACT_STRINGS" "Z" (.int zC)) (nC : ¬ zC = 0) (SF : Sta Z Z.heap "jdk/internal/util/Preconditions" "SIOOBE_FORMATTER" "Ljava/util/function/BiFunction;" vF) (rF : vF.isRef = true) (SA : Sta Z Z.heap "java/lang/StringUTF16" "$assertionsDisabled" "Z" (.int 1)) (SH : Sta Z Z.heap "java/lang/StringUTF16" "HI_BYTE_SHIFT" "I" (.int 0)) (SL8 : Sta Z Z.heap "java/lang/StringUTF16" "LO_BYTE_SHIFT" "I" (.int 8)) (E : Exa Z h0 x "com/example/fate_of_jobs/fateofjobs/conformance/CaseFormatException") (FM : Fld Z h0 x "java/lang/Throwable" "detailMessage" "Ljava/lang/String;" (.ref m)) (G : StrG Z h0 a ta ps) (GM : StrG Z h0 m tm ms) :
    Ok true l Z consts_1 n0 [] (⟨"com/example/fate_of_jobs/fateofjobs/conformance/CaseFormatException", "within", "(Ljava/lang/String;)Lcom/example/fate_of_jobs/fateofjobs/conformance/CaseFormatException;"⟩ : MethodName) prog_4_method_2_code 2 (Option.some (Jvm.ClassFile.FieldType.object "com/example/fate_of_jobs/fateofjobs/conformance/CaseFormatException")) ({ frames := 10, cells := 11, slots := 2922, locals := 145 } : Room) #[(.ref x), (.ref a)] h0 (fun v h => ∃ e a t : Addr, v = some (.ref e) ∧ Keep h0 h [] ∧ @LE.le Nat instLENat h0.size e ∧ Exa Z h e "com/example/fate_of_jobs/fateofjobs/conformance/CaseFormatException" ∧ Fld Z h e "java/lang/Throwable" "detailMessage" "Ljava/lang/String;" (.ref a) ∧ StrG Z h a t (ps ++ sep ++ ms)) (fun _ => []) := by
  refine Ok.of_run (ls0 := #[.val (.ref x), .val (.ref a)]) (plainFor_of_name (by first | (simp [plainName, overriddenIn]; done) | decide +kernel)) (fun m => by first | (simp [entryFrame, mkF, argsToLocals, Value.category]; done) | rfl) rfl ?_
  refine Run.old fun hO => ?_
  have hn0 : n0 ≤ h0.size := hO.1 ▸ hO.2.1
  have lt_1 : @LT.lt Nat instLTNat a (Array.size h0) := (StrG.lt G)
  have lt_2 : @LT.lt Nat instLTNat ta (Array.size h0) := (StrG.ltB G)
  have lt_3 : @LT.lt Nat instLTNat m (Array.size h0) := (StrG.lt GM)
  have lt_4 : @LT.lt Nat instLTNat tm (Array.size h0) := (StrG.ltB GM)
  have lt_5 : @LT.lt Nat instLTNat x (Array.size h0) := E.lt
  refine r_new d13_0 rfl (wd97 hw) (wd39 hw) (wd40 hw) (by decide) (by decide) ?_
  intro h_7 b_6 gb_6 ltb_6 E_8 A_9 D_10 U_11
  have szh_7 := E_8.1
  have geb_6 : n0 ≤ b_6 := by omega
  have F_12 : Fld Z h_7 b_6 "java/lang/Throwable" "cause" "Ljava/lang/Throwable;" .null := D_10 (Or.inl (wd57 hw)) (ty := (.object "java/lang/Throwable")) (by decide)
  have F_13 : Fld Z h_7 b_6 "java/lang/Throwable" "stackTrace" "[Ljava/lang/StackTraceElement;" .null := D_10 (Or.inl (wd60 hw)) (ty := (.array (.object "java/lang/StackTraceElement"))) (by decide)
  have F_14 : Fld Z h_7 b_6 "java/lang/Throwable" "suppressedExceptions" "Ljava/util/List;" .null := D_10 (Or.inl (wd63 hw)) (ty := (.object "java/util/List")) (by decide)
  have F_15 : Fld Z h_7 b_6 "java/lang/Throwable" "detailMessage" "Ljava/lang/String;" .null := D_10 (Or.inl (wd87 hw)) (ty := (.object "java/lang/String")) (by decide)
  have F_16 : Fld Z h_7 b_6 "java/lang/Throwable" "backtrace" "Ljava/lang/Object;" .null := D_10 (Or.inl (wd88 hw)) (ty := (.object "java/lang/Object")) (by decide)
  have F_17 : Fld Z h_7 b_6 "java/lang/Throwable" "depth" "I" (.int (0 : Int32)) := D_10 (Or.inl (wd89 hw)) (ty := .int) (by decide)
  refine r_dup d13_3 rfl rfl ?_
  refine r_new d13_4 rfl (wd98 hw) (wd99 hw) (wd100 hw) (by decide) (by decide) ?_
  intro h_19 b_18 gb_18 ltb_18 E_20 A_21 D_22 U_23
  have szh_19 := E_20.1
  have geb_18 : n0 ≤ b_18 := by omega
  have F_24 : Fld Z h_19 b_18 "java/lang/AbstractStringBuilder" "value" "[B" .null := D_22 (Or.inl (wd113 hw)) (ty := (.array .byte)) (by decide)
  have F_25 : Fld Z h_19 b_18 "java/lang/AbstractStringBuilder" "coder" "B" (.int (0 : Int32)) := D_22 (Or.inl (wd115 hw)) (ty := .byte) (by decide)
  have F_26 : Fld Z h_19 b_18 "java/lang/AbstractStringBuilder" "count" "I" (.int (0 : Int32)) := D_22 (Or.inl (wd137 hw)) (ty := .int) (by decide)
  have F_27 : Fld Z h_19 b_18 "java/lang/AbstractStringBuilder" "maybeLatin1" "Z" (.int (0 : Int32)) := D_22 (Or.inl (wd297 hw)) (ty := .boolean) (by decide)
  refine r_dup d13_7 rfl rfl ?_
  refine r_specialF (y := (⟨"java/lang/StringBuilder", "<init>", "()V"⟩ : MethodName)) (argsL := []) (rest := [(.ref b_18), (.ref b_6), (.ref b_6)]) (W := 3) (kc := 1) (ks := 16) (wl := [b_18]) d13_8 rfl rfl (wd101 hw) (wd102 hw) (wd103 hw) (by decide) (lenOf pd_22 rfl) rfl rfl (Nat.le_of_ble_eq_true rfl) (Ok.pays (ok_sbi hw b_18 SC nC A_21 F_24 F_25 F_26 F_27 geb_18) (wd103 hw) (wd100 hw) (by decide) (by decide)) (fun v h' q => q.2.1) (allS ⟨geb_18, (Sf.exa A_21 (by decide) (by decide))⟩ all0) (by decide) (by decide) ?_
  rintro _ h_28 ⟨rfl, KS, t, hgt, FB⟩
  refine ⟨[t], (allS ⟨Or.inr hgt, SB0.ltB FB⟩ all0), ?_⟩
  refine Run.cast (st' := [(.ref b_18), (.ref b_6), (.ref b_6)]) rfl ?_
  have szh_28 := KS.1
  have lt_29 : @LT.lt Nat instLTNat t (Array.size h_28) := SB0.ltB FB
  have FG : SBG Z h_28 n0 b_18 t [] 16 := Or.inl FB
  refine r_aloadN d13_11 rfl rfl rfl ?_
  have ne_30 : ta ≠ b_18 := StrG.neB (StrG.ext E_20 (StrG.ext E_8 G)) A_21 (wd99 hw)
  have ne_31 : @Ne Nat a b_18 := by omega
  have G_32 : StrG Z h_28 a ta ps := (StrG.keep (StrG.ext E_20 (StrG.ext E_8 G)) KS (ninS ne_31 nin0) (ninS ne_30 nin0))
  have ne_37 : @Ne Nat t ta := by omega
  refine r_virtualF (y := (⟨"java/lang/StringBuilder", "append", "(Ljava/lang/String;)Ljava/lang/StringBuilder;"⟩ : MethodName)) (argsL := [(.ref a)]) (rest := [(.ref b_6), (.ref b_6)]) (W := 2) (kc := 1) (ks := 32) (wl := [b_18, t]) d13_12 rfl (wd116 hw) (wd117 hw) (wd119 hw) (wd118 hw) (by decide) ⟨rfl, rfl⟩ (SB0.exa FB) (lenOf pd_35 rfl) rfl rfl (Nat.le_of_ble_eq_true rfl) (ok_gapp hw b_18 t a ta (cap := 16) (by decide) (by rw [List.length_nil]; omega) (Ne.symm ne_31) ne_37 SC nC SF rF SA SH SL8 FG G_32 (by decide) (by decide)) (fun v h' q => q.2.1) (allS ⟨geb_18, (Sf.exa (SB0.exa FB) (by decide) (by decide))⟩ (allS ⟨(SBG.gt FG), (Sf.my (by simp))⟩ all0)) (by decide) (by decide) ?_
  rintro _ h_38 ⟨rfl, KK_34, t_33, hor_35, FB_36⟩
  refine ⟨[t_33], (allS ⟨Or.imp (fun q => by rw [q]; simp) id hor_35, SBG.ltB FB_36⟩ all0), ?_⟩
  refine Run.cast (st' := [(.ref b_18), (.ref b_6), (.ref b_6)]) rfl ?_
  have szh_38 := KK_34.1
  have lt_39 : @LT.lt Nat instLTNat t_33 (Array.size h_38) := (SBG.ltB FB_36)
  have hot_33 : @Eq Nat t_33 t ∨ @LE.le Nat instLENat (Array.size h_28) t_33 := hor_35
  rw [List.nil_append] at FB_36
  refine r_ldcS (z := 2) (n := 8) (vs := [(.int (58 : Int32)), (.int (32 : Int32))]) rfl d13_15 rfl (wd163 hw) (strAtoms hw) (by simp [consts_1]) ⟨by decide, by decide⟩ (by decide) (by decide) (by decide) (by decide) (by decide) (by decide) ?_
  intro h_40 a_41 t_42 k_43 E_44 A_45 C_46 V_47 K_48 N_49
  have szh_40 := E_44.1
  have ne_50 := N_49 t_33 (by simp)
  have ne_51 := N_49 t (by simp)
  have ne_52 := N_49 b_18 (by simp)
  have ne_53 := N_49 b_6 (by simp)
  have GS : StrG Z h_40 a_41 t_42 sep := Or.inl ⟨by intro c hc; simp only [List.mem_cons, List.not_mem_nil, or_false] at hc; rcases hc with rfl | rfl <;> decide, A_45, C_46, V_47, k_43, K_48⟩
  have lt_54 : @LT.lt Nat instLTNat a_41 (Array.size h_40) := (StrG.lt GS)
  have lt_55 : @LT.lt Nat instLTNat t_42 (Array.size h_40) := (StrG.ltB GS)
  have FB_56 : SBG Z h_40 n0 b_18 t_33 ps 16 := SBG.keep FB_36 (Keep.ext (Keep.refl _ _) E_44) nin0 nin0
  have A_62 : Exa Z h_40 b_18 "java/lang/StringBuilder" := (Exa.ext E_44 (SBG.exa FB_36))
  refine r_virtualF (y := (⟨"java/lang/StringBuilder", "append", "(Ljava/lang/String;)Ljava/lang/StringBuilder;"⟩ : MethodName)) (argsL := [(.ref a_41)]) (rest := [(.ref b_6), (.ref b_6)]) (W := 2) (kc := 1) (ks := 32) (wl := [b_18, t_33]) d13_17 rfl (wd116 hw) (wd117 hw) (wd119 hw) (wd118 hw) (by decide) ⟨rfl, rfl⟩ A_62 (lenOf pd_35 rfl) rfl rfl (Nat.le_of_ble_eq_true rfl) (ok_gapp hw b_18 t_33 a_41 t_42 (cap := 16) (by decide) (by show _ + 2 ≤ 16; omega) ne_52.1 ne_50.2 SC nC SF rF SA SH SL8 FB_56 GS (by decide) (by decide)) (fun v h' q => q.2.1) (allS ⟨(SBG.gx FB_36), (Sf.exa A_62 (by decide) (by decide))⟩ (allS ⟨(SBG.gt FB_36), (Sf.my (by simp))⟩ all0)) (by decide) (by decide) ?_
  rintro _ h_61 ⟨rfl, KK_58, t_57, hor_59, FB_60⟩
  refine ⟨[t_57], (allS ⟨Or.imp (fun q => by rw [q]; simp) id hor_59, SBG.ltB FB_60⟩ all0), ?_⟩
  refine Run.cast (st' := [(.ref b_18), (.ref b_6), (.ref b_6)]) rfl ?_
  have szh_61 := KK_58.1
  have lt_63 : @LT.lt Nat instLTNat t_57 (Array.size h_61) := (SBG.ltB FB_60)
  have hot_57 : @Eq Nat t_57 t_33 ∨ @LE.le Nat instLENat (Array.size h_40) t_57 := hor_59
  refine r_aloadN d13_20 rfl rfl rfl ?_
  have ne_64 : @Ne Nat x b_18 := by omega
  have ne_65 : @Ne Nat x t := by omega
  have ne_66 : @Ne Nat x t_33 := by omega
  have F_67 : Fld Z h_61 x "java/lang/Throwable" "detailMessage" "Ljava/lang/String;" (.ref m) := (Fld.keep (Fld.ext E_44 (Fld.keep (Fld.keep (Fld.ext E_20 (Fld.ext E_8 FM)) KS (ninS ne_64 nin0)) KK_34 (ninS ne_64 (ninS ne_65 nin0)))) KK_58 (ninS ne_64 (ninS ne_66 nin0)))
  have A_69 : Exa Z h_61 x "com/example/fate_of_jobs/fateofjobs/conformance/CaseFormatException" := (Exa.keep (Exa.ext E_44 (Exa.keep (Exa.keep (Exa.ext E_20 (Exa.ext E_8 E)) KS) KK_34)) KK_58)
  refine r_virtualUp (y := (⟨"java/lang/Throwable", "getMessage", "()Ljava/lang/String;"⟩ : MethodName)) (argsL := []) (rest := [(.ref b_18), (.ref b_6), (.ref b_6)]) (W := 3) (kc := 0) (ks := 0) (wl := []) d13_21 rfl (wd164 hw) (wd165 hw) (wd166 hw) (by decide) (wd168 hw) (wd167 hw) A_69 (lenOf pd_36 rfl) rfl rfl (Nat.le_of_ble_eq_true rfl) (Ok.pays (ok_gm hw x m F_67) (wd169 hw) (wd53 hw) (by decide) (by decide)) (fun v h' q => q.2 ▸ Keep.refl _ _) all0 (by decide) (by decide) ?_
  rintro _ h_68 ⟨rfl, eqh⟩
  subst h_68
  refine Run.cast (st' := [(.ref m), (.ref b_18), (.ref b_6), (.ref b_6)]) rfl ?_
  have ne_70 : tm ≠ b_18 := StrG.neB (StrG.ext E_20 (StrG.ext E_8 GM)) A_21 (wd99 hw)
  have ne_71 : @Ne Nat m b_18 := by omega
  have ne_72 : @Ne Nat m t := by omega
  have ne_73 : @Ne Nat tm t := by omega
  have ne_74 : @Ne Nat m t_33 := by omega
  have ne_75 : @Ne Nat tm t_33 := by omega
  have G_76 : StrG Z h_61 m tm ms := (StrG.keep (StrG.ext E_44 (StrG.keep (StrG.keep (StrG.ext E_20 (StrG.ext E_8 GM)) KS (ninS ne_71 nin0) (ninS ne_70 nin0)) KK_34 (ninS ne_71 (ninS ne_72 nin0)) (ninS ne_70 (ninS ne_73 nin0)))) KK_58 (ninS ne_71 (ninS ne_74 nin0)) (ninS ne_70 (ninS ne_75 nin0)))
  have ne_81 : @Ne Nat t_57 tm := by omega
  refine r_virtualF (y := (⟨"java/lang/StringBuilder", "append", "(Ljava/lang/String;)Ljava/lang/StringBuilder;"⟩ : MethodName)) (argsL := [(.ref m)]) (rest := [(.ref b_6), (.ref b_6)]) (W := 2) (kc := 1) (ks := 32) (wl := [b_18, t_57]) d13_24 rfl (wd116 hw) (wd117 hw) (wd119 hw) (wd118 hw) (by decide) ⟨rfl, rfl⟩ (SBG.exa FB_60) (lenOf pd_35 rfl) rfl rfl (Nat.le_of_ble_eq_true rfl) (ok_gapp hw b_18 t_57 m tm (cap := 16) (by decide) (by rw [List.length_append]; show _ + 2 + _ ≤ 16; omega) (Ne.symm ne_71) ne_81 SC nC SF rF SA SH SL8 FB_60 G_76 (by decide) (by decide)) (fun v h' q => q.2.1) (allS ⟨(SBG.gx FB_60), (Sf.exa (SBG.exa FB_60) (by decide) (by decide))⟩ (allS ⟨(SBG.gt FB_60), (Sf.my (by simp))⟩ all0)) (by decide) (by decide) ?_
  rintro _ h_82 ⟨rfl, KK_78, t_77, hor_79, FB_80⟩
  refine ⟨[t_77], (allS ⟨Or.imp (fun q => by rw [q]; simp) id hor_79, SBG.ltB FB_80⟩ all0), ?_⟩
  refine Run.cast (st' := [(.ref b_18), (.ref b_6), (.ref b_6)]) rfl ?_
  have szh_82 := KK_78.1
  have lt_83 : @LT.lt Nat instLTNat t_77 (Array.size h_82) := (SBG.ltB FB_80)
  have hot_77 : @Eq Nat t_77 t_57 ∨ @LE.le Nat instLENat (Array.size h_61) t_77 := hor_79
  refine r_virtual (y := (⟨"java/lang/StringBuilder", "toString", "()Ljava/lang/String;"⟩ : MethodName)) (argsL := []) (rest := [(.ref b_6), (.ref b_6)]) (W := 2) (kc := 2) (ks := 36) (wl := []) d13_27 rfl (wd170 hw) (wd171 hw) (wd173 hw) (wd172 hw) (by decide) ⟨rfl, rfl⟩ (SBG.exa FB_80) (lenOf pd_36 rfl) rfl rfl (Nat.le_of_ble_eq_true rfl) (ok_gtos hw b_18 t_77 (by decide) (by rw [List.length_append, List.length_append]; show 0 < _ + 2 + _; omega) (by rw [List.length_append, List.length_append]; show _ + 2 + _ < 16; omega) SC nC FB_80 (by decide) (by decide)) (fun v h' q => by obtain ⟨_, _, _, K, _⟩ := q; exact K) all0 (by decide) (by decide) ?_
  rintro _ h_84 ⟨ra, rt, rfl, KR, hgr, GR⟩
  refine Run.cast (st' := [(.ref ra), (.ref b_6), (.ref b_6)]) rfl ?_
  have szh_84 := KR.1
  have lt_85 : @LT.lt Nat instLTNat ra (Array.size h_84) := (StrG.lt GR)
  have lt_86 : @LT.lt Nat instLTNat rt (Array.size h_84) := (StrG.ltB GR)
  have A_87 : Exa Z h_84 b_6 "com/example/fate_of_jobs/fateofjobs/conformance/CaseFormatException" := (Exa.keep (Exa.keep (Exa.keep (Exa.ext E_44 (Exa.keep (Exa.keep (Exa.ext E_20 A_9) KS) KK_34)) KK_58) KK_78) KR)
  have ne_88 : @Ne Nat b_6 b_18 := by omega
  have ne_89 : @Ne Nat b_6 t := by omega
  have ne_90 : @Ne Nat b_6 t_33 := by omega
  have ne_91 : @Ne Nat b_6 t_57 := by omega
  have F_92 : Fld Z h_84 b_6 "java/lang/Throwable" "backtrace" "Ljava/lang/Object;" .null := (Fld.keep (Fld.keep (Fld.keep (Fld.ext E_44 (Fld.keep (Fld.keep (Fld.ext E_20 F_16) KS (ninS ne_88 nin0)) KK_34 (ninS ne_88 (ninS ne_89 nin0)))) KK_58 (ninS ne_88 (ninS ne_90 nin0))) KK_78 (ninS ne_88 (ninS ne_91 nin0))) KR nin0)
  have F_93 : Fld Z h_84 b_6 "java/lang/Throwable" "detailMessage" "Ljava/lang/String;" .null := (Fld.keep (Fld.keep (Fld.keep (Fld.ext E_44 (Fld.keep (Fld.keep (Fld.ext E_20 F_15) KS (ninS ne_88 nin0)) KK_34 (ninS ne_88 (ninS ne_89 nin0)))) KK_58 (ninS ne_88 (ninS ne_90 nin0))) KK_78 (ninS ne_88 (ninS ne_91 nin0))) KR nin0)
  have F_94 : Fld Z h_84 b_6 "java/lang/Throwable" "cause" "Ljava/lang/Throwable;" .null := (Fld.keep (Fld.keep (Fld.keep (Fld.ext E_44 (Fld.keep (Fld.keep (Fld.ext E_20 F_12) KS (ninS ne_88 nin0)) KK_34 (ninS ne_88 (ninS ne_89 nin0)))) KK_58 (ninS ne_88 (ninS ne_90 nin0))) KK_78 (ninS ne_88 (ninS ne_91 nin0))) KR nin0)
  have F_95 : Fld Z h_84 b_6 "java/lang/Throwable" "stackTrace" "[Ljava/lang/StackTraceElement;" .null := (Fld.keep (Fld.keep (Fld.keep (Fld.ext E_44 (Fld.keep (Fld.keep (Fld.ext E_20 F_13) KS (ninS ne_88 nin0)) KK_34 (ninS ne_88 (ninS ne_89 nin0)))) KK_58 (ninS ne_88 (ninS ne_90 nin0))) KK_78 (ninS ne_88 (ninS ne_91 nin0))) KR nin0)
  have F_96 : Fld Z h_84 b_6 "java/lang/Throwable" "suppressedExceptions" "Ljava/util/List;" .null := (Fld.keep (Fld.keep (Fld.keep (Fld.ext E_44 (Fld.keep (Fld.keep (Fld.ext E_20 F_14) KS (ninS ne_88 nin0)) KK_34 (ninS ne_88 (ninS ne_89 nin0)))) KK_58 (ninS ne_88 (ninS ne_90 nin0))) KK_78 (ninS ne_88 (ninS ne_91 nin0))) KR nin0)
  refine r_special (y := (⟨"com/example/fate_of_jobs/fateofjobs/conformance/CaseFormatException", "<init>", "(Ljava/lang/String;)V"⟩ : MethodName)) (argsL := [(.ref ra)]) (rest := [(.ref b_6)]) (W := 1) (kc := 1) (ks := 2752) (wl := [b_6]) d13_30 rfl rfl (wd215 hw) (wd42 hw) (wd43 hw) (by decide) (lenOf pd_23 rfl) rfl rfl (Nat.le_of_ble_eq_true rfl) (Ok.pays (ok_cfi hw b_6 ra hst SU SN A_87 (Unt.keep KR nin0 (Unt.keep KK_78 (ninS ne_88 (ninS ne_91 nin0)) (Unt.keep KK_58 (ninS ne_88 (ninS ne_90 nin0)) (Unt.keep (Keep.ext (Keep.refl _ _) E_44) nin0 (Unt.keep KK_34 (ninS ne_88 (ninS ne_89 nin0)) (Unt.keep KS (ninS ne_88 nin0) (Unt.keep (Keep.ext (Keep.refl _ _) E_20) nin0 U_11))))))) geb_6 F_92 F_93 F_94 F_95 F_96) (wd43 hw) (wd40 hw) (by decide) (by decide)) (fun v h' q => q.2.1) (allS ⟨geb_6, (Sf.exa A_87 (by decide) (by decide))⟩ all0) (by decide) (by decide) ?_
  rintro _ h_99 ⟨rfl, KK_97, F_98⟩
  refine Run.cast (st' := [(.ref b_6)]) rfl ?_
  have szh_99 := KK_97.1
  have A_100 : Exa Z h_99 b_6 "com/example/fate_of_jobs/fateofjobs/conformance/CaseFormatException" := (Exa.keep A_87 KK_97)
  have ne_101 : rt ≠ b_6 := StrG.neB GR (Exa.keep (Exa.keep (Exa.keep (Exa.ext E_44 (Exa.keep (Exa.keep (Exa.ext E_20 A_9) KS) KK_34)) KK_58) KK_78) KR) (wd39 hw)
  have ne_102 : @Ne Nat ra b_6 := by omega
  have G_103 : StrG Z h_99 ra rt (ps ++ sep ++ ms) := (StrG.keep GR KK_97 (ninS ne_102 nin0) (ninS ne_101 nin0))
  exact r_areturn d13_33 rfl rfl rfl rfl ⟨b_6, ra, rt, rfl, (Keep.trans (Keep.trans (Keep.trans (Keep.trans (Keep.ext (Keep.trans (Keep.trans (Keep.ext (Keep.ext (Keep.refl _ _) E_8) E_20) KS (allS (Or.inr (by omega)) all0)) KK_34 (allS (Or.inr (by omega)) (allS (Or.inr (by omega)) all0))) E_44) KK_58 (allS (Or.inr (by omega)) (allS (Or.inr (by omega)) all0))) KK_78 (allS (Or.inr (by omega)) (allS (Or.inr (by omega)) all0))) KR all0) KK_97 (allS (Or.inr (by omega)) all0)), by omega, A_100, F_98, G_103⟩ (by simp) (by decide) (by decide)
theorem mod3 (x : Int32) (h : 0 ≤ x.toInt ∧ x.toInt ≤ 3) : x % (3 : Int32) = 0 ∨ x % (3 : Int32) = 1 ∨ x % (3 : Int32) = 2 := by
  have h2 := (c_irem x 3 3 (by decide)).1 h.1
  simp only [← Int32.toInt_inj]
  have e0 : (0 : Int32).toInt = 0 := rfl
  have e1 : (1 : Int32).toInt = 1 := rfl
  have e2 : (2 : Int32).toInt = 2 := rfl
  omega
theorem and3 (x : Int32) : 0 ≤ (x &&& (3 : Int32)).toInt ∧ (x &&& (3 : Int32)).toInt ≤ 3 := c_and x 3 (by decide)
theorem mkc_len {n : Int32} (p : Int32) (h : n = 0 ∨ n = 1 ∨ n = 2) : Int32.ofNat (mkc n p).length = n ∧ (mkc n p).length ≤ 2 := by
  rcases h with rfl | rfl | rfl <;> simp +decide [mkc]
theorem app_at1 (ps ms : List Int32) (i : Nat) (h : i < ps.length) : (ps ++ sep ++ ms).getD i 0 = ps.getD i 0 := by
  rw [List.append_assoc]; simp [List.getD_eq_getElem?_getD, List.getElem?_append_left h]
theorem app_at2 (ps ms : List Int32) (i : Nat) (h : i < 2) : (ps ++ sep ++ ms).getD (ps.length + i) 0 = sep.getD i 0 := by
  rw [List.append_assoc]; simp only [List.getD_eq_getElem?_getD]
  rw [List.getElem?_append_right (by omega), Nat.add_sub_cancel_left, List.getElem?_append_left (by show i < 2; exact h)]
theorem app_at3 (ps ms : List Int32) (i : Nat) : (ps ++ sep ++ ms).getD (ps.length + (i + 2)) 0 = ms.getD i 0 := by
  rw [List.append_assoc]; simp only [List.getD_eq_getElem?_getD]
  rw [List.getElem?_append_right (by omega), Nat.add_sub_cancel_left, List.getElem?_append_right (by show 2 ≤ i + 2; omega)]
  rfl
theorem app_len (ps ms : List Int32) : (ps ++ sep ++ ms).length = ps.length + 2 + ms.length := by
  rw [List.length_append, List.length_append]; rfl
theorem gt_of {m i : Nat} (hi : i < 2 ^ 31) (h : Int32.ofNat i < Int32.ofNat m) : i < m := Classical.byContradiction fun q => ofNat_nlt (by omega) hi h
set_option maxRecDepth 65536 in
set_option maxHeartbeats 40000000 in
theorem ok_seq {l : Launch} {Z : State} {a0 : Array Value} (hw : ∀ d ∈ tables_1, d.before a0 Z = true) {n0 : Nat} (a : Addr) {h0 : Heap} :
    Ok false l Z [] n0 [] (⟨"java/lang/String", "equals", "(Ljava/lang/Object;)Z"⟩ : MethodName) jdk_42_method_66_code 3 (Option.some Jvm.ClassFile.FieldType.boolean) ({ frames := 0, cells := 0, slots := 0, locals := 0 } : Room) #[(.ref a), (.ref a)] h0 (fun v h => v = some (.int 1) ∧ h = h0) (fun _ => []) := by
  refine Ok.of_run (ls0 := #[.val (.ref a), .val (.ref a), .unset]) (plainFor_of_name (by first | (simp [plainName, overriddenIn]; done) | decide +kernel)) (fun m => by first | (simp [entryFrame, mkF, argsToLocals, Value.category]; done) | rfl) rfl ?_
  refine Run.old fun hO => ?_
  have hn0 : n0 ≤ h0.size := hO.1 ▸ hO.2.1
  refine r_aloadN d41_0 rfl rfl rfl ?_
  refine r_aloadN d41_1 rfl rfl rfl ?_
  refine r_acmp (pc2 := 7) rfl rfl d41_2 rfl rfl (fun cc => absurd cc (by simp [XT.acmp])) (fun _ => ?_)
  refine r_iconst (v := 1) d41_5 rfl rfl ?_
  exact r_ireturnN (t := .boolean) d41_6 rfl (by simp) ⟨rfl, rfl⟩ (by simp) (by decide) (by decide)
set_option maxRecDepth 65536 in
set_option maxHeartbeats 40000000 in
theorem ok_law {l : Launch} {Z : State} {a0 : Array Value} (hw : ∀ d ∈ tables_1, d.before a0 Z = true) {n0 : Nat} (p0 p1 p2 : Int32) {aU aN : Addr} {zC : Int32} {vF : Value} {h0 : Heap} (hst : l.stackTraces = true) (SU : Sta Z Z.heap "java/lang/Throwable" "UNASSIGNED_STACK" "[Ljava/lang/StackTraceElement;" (.ref aU)) (SN : Sta Z Z.heap "java/lang/Throwable" "SUPPRESSED_SENTINEL" "Ljava/util/List;" (.ref aN)) (SC : Sta Z Z.heap "java/lang/String" "COMPACT_STRINGS" "Z" (.int zC)) (nC : ¬ zC = 0) (SF : Sta Z Z.heap "jdk/internal/util/Preconditions" "SIOOBE_FORMATTER" "Ljava/util/function/BiFunction;" vF) (rF : vF.isRef = true) (SA : Sta Z Z.heap "java/lang/StringUTF16" "$assertionsDisabled" "Z" (.int 1)) (SH : Sta Z Z.heap "java/lang/StringUTF16" "HI_BYTE_SHIFT" "I" (.int 0)) (SL8 : Sta Z Z.heap "java/lang/StringUTF16" "LO_BYTE_SHIFT" "I" (.int 8)) :
    Ok true l Z consts_1 n0 [] (⟨"com/example/fate_of_jobs/fateofjobs/conformance/CaseFormatExceptionWithinPinLaw", "law", "(III)Z"⟩ : MethodName) code maxLocals ret room_1 #[(.int p0), (.int p1), (.int p2)] h0 (fun v h => v = some (.int 1)) (fun _ => []) := by
  refine Ok.of_run (ls0 := #[.val (.int p0), .val (.int p1), .val (.int p2), .unset, .unset, .unset, .unset, .unset, .unset, .unset, .unset, .unset]) (plainFor_of_name (by first | (simp [plainName, overriddenIn]; done) | decide +kernel)) (fun m => by first | (simp [entryFrame, mkF, argsToLocals, Value.category, maxLocals]; done) | rfl) rfl ?_
  refine Run.old fun hO => ?_
  have hn0 : n0 ≤ h0.size := hO.1 ▸ hO.2.1
  refine r_iloadN at_0 rfl rfl ?_
  refine r_iconst (v := 3) at_1 rfl rfl ?_
  refine r_iand at_2 rfl ?_
  refine r_iconst (v := 3) at_3 rfl rfl ?_
  refine r_irem at_4 rfl (by decide) ?_
  have hn3 := mod3 _ (and3 p2)
  generalize (p2 &&& (3 : Int32)) % (3 : Int32) = n at hn3 ⊢
  refine r_istoreN (l' := #[.val (.int p0), .val (.int p1), .val (.int p2), .val (.int n), .unset, .unset, .unset, .unset, .unset, .unset, .unset, .unset]) at_5 rfl rfl ?_
  refine r_iloadN at_6 rfl rfl ?_
  refine r_iconst (v := 2) at_7 rfl rfl ?_
  refine r_iushr at_8 rfl ?_
  refine r_iconst (v := 3) at_9 rfl rfl ?_
  refine r_iand at_10 rfl ?_
  refine r_iconst (v := 3) at_11 rfl rfl ?_
  refine r_irem at_12 rfl (by decide) ?_
  have hq3 := mod3 _ (and3 (p2.toUInt32 >>> ((2 : Int32) &&& 31).toUInt32).toInt32)
  generalize ((p2.toUInt32 >>> ((2 : Int32) &&& 31).toUInt32).toInt32 &&& (3 : Int32)) % (3 : Int32) = q at hq3 ⊢
  obtain ⟨ln, ln2⟩ := mkc_len p0 hn3
  obtain ⟨lq, lq2⟩ := mkc_len p1 hq3
  refine r_istore (l' := #[.val (.int p0), .val (.int p1), .val (.int p2), .val (.int n), .val (.int q), .unset, .unset, .unset, .unset, .unset, .unset, .unset]) at_13 rfl rfl ?_
  refine r_iloadN at_15 rfl rfl ?_
  refine r_iloadN at_16 rfl rfl ?_
  refine r_staticW (y := (⟨"com/example/fate_of_jobs/fateofjobs/conformance/CaseFormatExceptionWithinPinLaw", "mk", "(II)Ljava/lang/String;"⟩ : MethodName)) (argsL := [(.int n), (.int p0)]) (rest := []) (W := 0) (kc := 4) (ks := 54) (wl := []) rfl at_17 rfl (wd0 hw) (wd1 hw) (wd2 hw) (wd3 hw) (by decide) (lenOf pd_37 rfl) rfl rfl (Nat.le_of_ble_eq_true rfl) (Ok.paysW (ok_mk hw n p0 SC nC SA SH SL8) (wd3 hw) (wd2 hw) (by decide) (by decide)) (by simp) (fun v h' q => by obtain ⟨_, _, _, K, _⟩ := q; exact K) all0 (by decide) (by decide) ?_
  rintro _ h_3 ⟨pa, pt, rfl, KK_1, SS_2⟩
  refine Run.forget (My' := []) (by simp [refs]) ?_
  refine Run.cast (st' := [(.ref pa)]) rfl ?_
  have szh_3 := KK_1.1
  have lt_4 : @LT.lt Nat instLTNat pa (Array.size h_3) := (StrG.lt SS_2)
  have lt_5 : @LT.lt Nat instLTNat pt (Array.size h_3) := (StrG.ltB SS_2)
  refine r_astore (l' := #[.val (.int p0), .val (.int p1), .val (.int p2), .val (.int n), .val (.int q), .val (.ref pa), .unset, .unset, .unset, .unset, .unset, .unset]) at_20 rfl rfl rfl ?_
  refine r_iload at_22 rfl rfl ?_
  refine r_iloadN at_24 rfl rfl ?_
  refine r_staticW (y := (⟨"com/example/fate_of_jobs/fateofjobs/conformance/CaseFormatExceptionWithinPinLaw", "mk", "(II)Ljava/lang/String;"⟩ : MethodName)) (argsL := [(.int q), (.int p1)]) (rest := []) (W := 0) (kc := 4) (ks := 54) (wl := []) rfl at_25 rfl (wd0 hw) (wd1 hw) (wd2 hw) (wd3 hw) (by decide) (lenOf pd_37 rfl) rfl rfl (Nat.le_of_ble_eq_true rfl) (Ok.paysW (ok_mk hw q p1 SC nC SA SH SL8) (wd3 hw) (wd2 hw) (by decide) (by decide)) (by simp) (fun v h' q => by obtain ⟨_, _, _, K, _⟩ := q; exact K) all0 (by decide) (by decide) ?_
  rintro _ h_8 ⟨ma, mt, rfl, KK_6, SS_7⟩
  refine Run.forget (My' := []) (by simp [refs]) ?_
  refine Run.cast (st' := [(.ref ma)]) rfl ?_
  have szh_8 := KK_6.1
  have lt_9 : @LT.lt Nat instLTNat ma (Array.size h_8) := (StrG.lt SS_7)
  have lt_10 : @LT.lt Nat instLTNat mt (Array.size h_8) := (StrG.ltB SS_7)
  refine r_astore (l' := #[.val (.int p0), .val (.int p1), .val (.int p2), .val (.int n), .val (.int q), .val (.ref pa), .val (.ref ma), .unset, .unset, .unset, .unset, .unset]) at_28 rfl rfl rfl ?_
  refine r_new at_30 rfl (wd38 hw) (wd39 hw) (wd40 hw) (by decide) (by decide) ?_
  intro h_12 b_11 gb_11 ltb_11 E_13 A_14 D_15 U_16
  have szh_12 := E_13.1
  have geb_11 : n0 ≤ b_11 := by omega
  have F_17 : Fld Z h_12 b_11 "java/lang/Throwable" "cause" "Ljava/lang/Throwable;" .null := D_15 (Or.inl (wd57 hw)) (ty := (.object "java/lang/Throwable")) (by decide)
  have F_18 : Fld Z h_12 b_11 "java/lang/Throwable" "stackTrace" "[Ljava/lang/StackTraceElement;" .null := D_15 (Or.inl (wd60 hw)) (ty := (.array (.object "java/lang/StackTraceElement"))) (by decide)
  have F_19 : Fld Z h_12 b_11 "java/lang/Throwable" "suppressedExceptions" "Ljava/util/List;" .null := D_15 (Or.inl (wd63 hw)) (ty := (.object "java/util/List")) (by decide)
  have F_20 : Fld Z h_12 b_11 "java/lang/Throwable" "detailMessage" "Ljava/lang/String;" .null := D_15 (Or.inl (wd87 hw)) (ty := (.object "java/lang/String")) (by decide)
  have F_21 : Fld Z h_12 b_11 "java/lang/Throwable" "backtrace" "Ljava/lang/Object;" .null := D_15 (Or.inl (wd88 hw)) (ty := (.object "java/lang/Object")) (by decide)
  have F_22 : Fld Z h_12 b_11 "java/lang/Throwable" "depth" "I" (.int (0 : Int32)) := D_15 (Or.inl (wd89 hw)) (ty := .int) (by decide)
  refine r_dup at_33 rfl rfl ?_
  refine r_aload at_34 rfl rfl rfl ?_
  refine r_special (y := (⟨"com/example/fate_of_jobs/fateofjobs/conformance/CaseFormatException", "<init>", "(Ljava/lang/String;)V"⟩ : MethodName)) (argsL := [(.ref ma)]) (rest := [(.ref b_11)]) (W := 1) (kc := 1) (ks := 2752) (wl := [b_11]) at_36 rfl rfl (wd41 hw) (wd42 hw) (wd43 hw) (by decide) (lenOf pd_23 rfl) rfl rfl (Nat.le_of_ble_eq_true rfl) (Ok.pays (ok_cfi hw b_11 ma hst SU SN A_14 U_16 geb_11 F_21 F_20 F_17 F_18 F_19) (wd43 hw) (wd40 hw) (by decide) (by decide)) (fun v h' q => q.2.1) (allS ⟨geb_11, (Sf.exa A_14 (by decide) (by decide))⟩ all0) (by decide) (by decide) ?_
  rintro _ h_25 ⟨rfl, KK_23, F_24⟩
  refine Run.cast (st' := [(.ref b_11)]) rfl ?_
  have szh_25 := KK_23.1
  refine r_astore (l' := #[.val (.int p0), .val (.int p1), .val (.int p2), .val (.int n), .val (.int q), .val (.ref pa), .val (.ref ma), .val (.ref b_11), .unset, .unset, .unset, .unset]) at_39 rfl rfl rfl ?_
  refine r_aload at_41 rfl rfl rfl ?_
  refine r_aload at_43 rfl rfl rfl ?_
  have A_26 : Exa Z h_25 b_11 "com/example/fate_of_jobs/fateofjobs/conformance/CaseFormatException" := (Exa.keep A_14 KK_23)
  have ne_27 : pt ≠ b_11 := StrG.neB (StrG.ext E_13 (StrG.keep SS_2 KK_6 nin0 nin0)) A_14 (wd39 hw)
  have ne_28 : @Ne Nat pa b_11 := by omega
  have G_29 : StrG Z h_25 pa pt (mkc n p0) := (StrG.keep (StrG.ext E_13 (StrG.keep SS_2 KK_6 nin0 nin0)) KK_23 (ninS ne_28 nin0) (ninS ne_27 nin0))
  have ne_30 : mt ≠ b_11 := StrG.neB (StrG.ext E_13 SS_7) A_14 (wd39 hw)
  have ne_31 : @Ne Nat ma b_11 := by omega
  have G_32 : StrG Z h_25 ma mt (mkc q p1) := (StrG.keep (StrG.ext E_13 SS_7) KK_23 (ninS ne_31 nin0) (ninS ne_30 nin0))
  refine r_virtualW (y := (⟨"com/example/fate_of_jobs/fateofjobs/conformance/CaseFormatException", "within", "(Ljava/lang/String;)Lcom/example/fate_of_jobs/fateofjobs/conformance/CaseFormatException;"⟩ : MethodName)) (argsL := [(.ref pa)]) (rest := []) (W := 0) (kc := 11) (ks := 2922) (wl := []) rfl at_45 rfl (wd92 hw) (wd93 hw) (wd95 hw) (wd94 hw) (by decide) ⟨rfl, rfl⟩ A_26 (lenOf pd_38 rfl) rfl rfl (Nat.le_of_ble_eq_true rfl) (Ok.paysW (ok_wi hw b_11 pa pt ma mt ln2 lq2 hst SU SN SC nC SF rF SA SH SL8 A_26 F_24 G_29 G_32) (wd96 hw) (wd40 hw) (by decide) (by decide)) (by simp) (fun v h' q => by obtain ⟨_, _, _, _, K, _⟩ := q; exact K) all0 (by decide) (by decide) ?_
  rintro _ h_33 ⟨we, ra, rt, rfl, KW, hgw, EW_, FW, GW⟩
  refine Run.forget (My' := [b_11]) (by simp [refs]) ?_
  refine Run.cast (st' := [(.ref we)]) rfl ?_
  have szh_33 := KW.1
  have lt_34 : @LT.lt Nat instLTNat ra (Array.size h_33) := (StrG.lt GW)
  have lt_35 : @LT.lt Nat instLTNat rt (Array.size h_33) := (StrG.ltB GW)
  have lt_36 : @LT.lt Nat instLTNat we (Array.size h_33) := EW_.lt
  refine r_astore (l' := #[.val (.int p0), .val (.int p1), .val (.int p2), .val (.int n), .val (.int q), .val (.ref pa), .val (.ref ma), .val (.ref b_11), .val (.ref we), .unset, .unset, .unset]) at_48 rfl rfl rfl ?_
  refine r_aload at_50 rfl rfl rfl ?_
  refine r_ifnullN at_52 rfl ?_
  refine r_aload at_55 rfl rfl rfl ?_
  refine r_aload at_57 rfl rfl rfl ?_
  have nee : @Ne Nat we b_11 := by omega
  refine r_acmp (pc2 := 64) rfl rfl at_59 rfl rfl (fun _ => ?_) (fun cc => absurd cc (by simp [XT.acmp]; exact nee))
  refine r_aload at_64 rfl rfl rfl ?_
  refine r_virtualUp (y := (⟨"java/lang/Throwable", "getMessage", "()Ljava/lang/String;"⟩ : MethodName)) (argsL := []) (rest := []) (W := 0) (kc := 0) (ks := 0) (wl := []) at_66 rfl (wd216 hw) (wd165 hw) (wd166 hw) (by decide) (wd168 hw) (wd167 hw) EW_ (lenOf pd_36 rfl) rfl rfl (Nat.le_of_ble_eq_true rfl) (Ok.pays (ok_gm hw we ra FW) (wd169 hw) (wd53 hw) (by decide) (by decide)) (fun v h' q => q.2 ▸ Keep.refl _ _) all0 (by decide) (by decide) ?_
  rintro _ h_37 ⟨rfl, eqh⟩
  subst h_37
  refine Run.cast (st' := [(.ref ra)]) rfl ?_
  refine r_astore (l' := #[.val (.int p0), .val (.int p1), .val (.int p2), .val (.int n), .val (.int q), .val (.ref pa), .val (.ref ma), .val (.ref b_11), .val (.ref we), .val (.ref ra), .unset, .unset]) at_69 rfl rfl rfl ?_
  refine r_aload at_71 rfl rfl rfl ?_
  refine r_ifnonnullY (pc2 := 78) at_73 rfl ?_
  refine r_aload at_78 rfl rfl rfl ?_
  refine r_virtual (y := (⟨"java/lang/String", "length", "()I"⟩ : MethodName)) (argsL := []) (rest := []) (W := 0) (kc := 0) (ks := 0) (wl := []) at_80 rfl (wd217 hw) (wd127 hw) (wd129 hw) (wd128 hw) (by decide) ⟨rfl, rfl⟩ (StrG.exa GW) (lenOf pd_25 rfl) rfl rfl (Nat.le_of_ble_eq_true rfl) (Ok.pays (ok_glen hw ra rt (by rw [app_len]; omega) SC nC GW) (wd130 hw) (wd6 hw) (by decide) (by decide)) (fun v h' q => q.2 ▸ Keep.refl _ _) all0 (by decide) (by decide) ?_
  rintro _ h_38 ⟨rfl, eqh⟩
  subst h_38
  refine Run.cast (st' := [(.int (Int32.ofNat ((mkc n p0) ++ sep ++ (mkc q p1)).length))]) rfl ?_
  refine r_iloadN at_83 rfl rfl ?_
  refine r_iconst (v := 2) at_84 rfl rfl ?_
  refine r_iadd at_85 rfl ?_
  refine r_iload at_86 rfl rfl ?_
  refine r_iadd at_88 rfl ?_
  refine r_icmpeq (pc2 := 94) at_89 rfl rfl (fun _ => ?_) (fun cc => absurd (by rw [app_len, ← ofNat_add', ← ofNat_add', ln, lq]; rfl) cc)
  refine r_iconst (v := 1) at_94 rfl rfl ?_
  refine r_istore (l' := #[.val (.int p0), .val (.int p1), .val (.int p2), .val (.int n), .val (.int q), .val (.ref pa), .val (.ref ma), .val (.ref b_11), .val (.ref we), .val (.ref ra), .val (.int (1 : Int32)), .unset]) at_95 rfl rfl ?_
  refine Run.join (pc' := 128) (P := fun (u_ : Unit) => True) (ls' := fun u_ => #[.val (.int p0), .val (.int p1), .val (.int p2), .val (.int n), .val (.int q), .val (.ref pa), .val (.ref ma), .val (.ref b_11), .val (.ref we), .val (.ref ra), .val (.int (1 : Int32)), .unset]) (st' := fun u_ => []) ?_ ?_
  · intro u_ hv_40
    refine Run.join (pc' := 160) (P := fun (u_ : Unit) => True) (ls' := fun u_ => #[.val (.int p0), .val (.int p1), .val (.int p2), .val (.int n), .val (.int q), .val (.ref pa), .val (.ref ma), .val (.ref b_11), .val (.ref we), .val (.ref ra), .val (.int (1 : Int32)), .unset]) (st' := fun u_ => []) ?_ ?_
    · intro u_ hv_42
      refine r_iload at_160 rfl rfl ?_
      refine r_ifeq (pc2 := 180) at_162 rfl rfl (fun cc => absurd cc (by decide)) (fun _ => ?_)
      refine r_aload at_165 rfl rfl rfl ?_
      refine r_iloadN at_167 rfl rfl ?_
      refine Run.cast (st' := [(.int (Int32.ofNat ((mkc n p0).length + 0))), (.ref ra)]) (by rw [show (Int32.ofNat ((mkc n p0).length + 0)) = n from (by rw [Nat.add_zero, ln])]) ?_
      refine r_virtual (y := (⟨"java/lang/String", "charAt", "(I)C"⟩ : MethodName)) (argsL := [(.int (Int32.ofNat ((mkc n p0).length + 0)))]) (rest := []) (W := 0) (kc := 0) (ks := 0) (wl := []) at_168 rfl (wd218 hw) (wd219 hw) (wd221 hw) (wd220 hw) (by decide) ⟨rfl, rfl⟩ (StrG.exa GW) (lenOf pd_39 rfl) rfl rfl (Nat.le_of_ble_eq_true rfl) (Ok.pays (ok_gch hw ra rt (by rw [app_len]; omega) ((mkc n p0).length + 0) (by rw [app_len]; omega) SC nC SF rF SA SH SL8 GW) (wd222 hw) (wd6 hw) (by decide) (by decide)) (fun v h' q => q.2 ▸ Keep.refl _ _) all0 (by decide) (by decide) ?_
      rintro _ h_43 ⟨rfl, eqh⟩
      subst h_43
      refine Run.cast (st' := [(.int (((mkc n p0) ++ sep ++ (mkc q p1)).getD ((mkc n p0).length + 0) 0))]) rfl ?_
      refine r_bipush (v := 58) at_171 rfl rfl ?_
      refine r_icmpne (pc2 := 180) at_173 rfl rfl (fun cc => absurd (app_at2 _ _ 0 (by decide)) cc) (fun _ => ?_)
      refine r_iconst (v := 1) at_176 rfl rfl ?_
      refine r_goto (pc' := 181) at_177 rfl ?_
      refine r_istore (l' := #[.val (.int p0), .val (.int p1), .val (.int p2), .val (.int n), .val (.int q), .val (.ref pa), .val (.ref ma), .val (.ref b_11), .val (.ref we), .val (.ref ra), .val (.int (1 : Int32)), .unset]) at_181 rfl rfl ?_
      refine r_iload at_183 rfl rfl ?_
      refine r_ifeq (pc2 := 205) at_185 rfl rfl (fun cc => absurd cc (by decide)) (fun _ => ?_)
      refine r_aload at_188 rfl rfl rfl ?_
      refine r_iloadN at_190 rfl rfl ?_
      refine r_iconst (v := 1) at_191 rfl rfl ?_
      refine r_iadd at_192 rfl ?_
      refine Run.cast (st' := [(.int (Int32.ofNat ((mkc n p0).length + 1))), (.ref ra)]) (by rw [show (Int32.ofNat ((mkc n p0).length + 1)) = (n + (1 : Int32)) from (by rw [← ofNat_add', ln]; rfl)]) ?_
      refine r_virtual (y := (⟨"java/lang/String", "charAt", "(I)C"⟩ : MethodName)) (argsL := [(.int (Int32.ofNat ((mkc n p0).length + 1)))]) (rest := []) (W := 0) (kc := 0) (ks := 0) (wl := []) at_193 rfl (wd218 hw) (wd219 hw) (wd221 hw) (wd220 hw) (by decide) ⟨rfl, rfl⟩ (StrG.exa GW) (lenOf pd_39 rfl) rfl rfl (Nat.le_of_ble_eq_true rfl) (Ok.pays (ok_gch hw ra rt (by rw [app_len]; omega) ((mkc n p0).length + 1) (by rw [app_len]; omega) SC nC SF rF SA SH SL8 GW) (wd222 hw) (wd6 hw) (by decide) (by decide)) (fun v h' q => q.2 ▸ Keep.refl _ _) all0 (by decide) (by decide) ?_
      rintro _ h_44 ⟨rfl, eqh⟩
      subst h_44
      refine Run.cast (st' := [(.int (((mkc n p0) ++ sep ++ (mkc q p1)).getD ((mkc n p0).length + 1) 0))]) rfl ?_
      refine r_bipush (v := 32) at_196 rfl rfl ?_
      refine r_icmpne (pc2 := 205) at_198 rfl rfl (fun cc => absurd (app_at2 _ _ 1 (by decide)) cc) (fun _ => ?_)
      refine r_iconst (v := 1) at_201 rfl rfl ?_
      refine r_goto (pc' := 206) at_202 rfl ?_
      refine r_istore (l' := #[.val (.int p0), .val (.int p1), .val (.int p2), .val (.int n), .val (.int q), .val (.ref pa), .val (.ref ma), .val (.ref b_11), .val (.ref we), .val (.ref ra), .val (.int (1 : Int32)), .unset]) at_206 rfl rfl ?_
      refine Run.join (pc' := 242) (P := fun (u_ : Unit) => True) (ls' := fun u_ => #[.val (.int p0), .val (.int p1), .val (.int p2), .val (.int n), .val (.int q), .val (.ref pa), .val (.ref ma), .val (.ref b_11), .val (.ref we), .val (.ref ra), .val (.int (1 : Int32)), .unset]) (st' := fun u_ => []) ?_ ?_
      · intro u_ hv_46
        refine Run.join (pc' := 277) (P := fun (u_ : Unit) => True) (ls' := fun u_ => #[.val (.int p0), .val (.int p1), .val (.int p2), .val (.int n), .val (.int q), .val (.ref pa), .val (.ref ma), .val (.ref b_11), .val (.ref we), .val (.ref ra), .val (.int (1 : Int32)), .unset]) (st' := fun u_ => []) ?_ ?_
        · intro u_ hv_48
          refine r_aload at_277 rfl rfl rfl ?_
          have F_49 : Fld Z h_33 b_11 "java/lang/Throwable" "detailMessage" "Ljava/lang/String;" (.ref ma) := (Fld.keep F_24 KW nin0)
          have A_51 : Exa Z h_33 b_11 "com/example/fate_of_jobs/fateofjobs/conformance/CaseFormatException" := (Exa.keep A_26 KW)
          refine r_virtualUp (y := (⟨"java/lang/Throwable", "getMessage", "()Ljava/lang/String;"⟩ : MethodName)) (argsL := []) (rest := []) (W := 0) (kc := 0) (ks := 0) (wl := []) at_279 rfl (wd216 hw) (wd165 hw) (wd166 hw) (by decide) (wd168 hw) (wd167 hw) A_51 (lenOf pd_36 rfl) rfl rfl (Nat.le_of_ble_eq_true rfl) (Ok.pays (ok_gm hw b_11 ma F_49) (wd169 hw) (wd53 hw) (by decide) (by decide)) (fun v h' q => q.2 ▸ Keep.refl _ _) all0 (by decide) (by decide) ?_
          rintro _ h_50 ⟨rfl, eqh⟩
          subst h_50
          refine Run.cast (st' := [(.ref ma)]) rfl ?_
          refine r_astore (l' := #[.val (.int p0), .val (.int p1), .val (.int p2), .val (.int n), .val (.int q), .val (.ref pa), .val (.ref ma), .val (.ref b_11), .val (.ref we), .val (.ref ra), .val (.int (1 : Int32)), .val (.ref ma)]) at_282 rfl rfl rfl ?_
          refine r_iload at_284 rfl rfl ?_
          refine r_ifeq (pc2 := 308) at_286 rfl rfl (fun cc => absurd cc (by decide)) (fun _ => ?_)
          refine r_aload at_289 rfl rfl rfl ?_
          refine r_ifnullN at_291 rfl ?_
          refine r_aload at_294 rfl rfl rfl ?_
          refine r_aload at_296 rfl rfl rfl ?_
          have A_53 : Exa Z h_33 ma "java/lang/String" := (Exa.keep (Exa.keep (Exa.ext E_13 (StrG.exa SS_7)) KK_23) KW)
          refine r_virtual (y := (⟨"java/lang/String", "equals", "(Ljava/lang/Object;)Z"⟩ : MethodName)) (argsL := [(.ref ma)]) (rest := []) (W := 0) (kc := 0) (ks := 0) (wl := []) at_298 rfl (wd240 hw) (wd241 hw) (wd243 hw) (wd242 hw) (by decide) ⟨rfl, rfl⟩ A_53 (lenOf pd_40 rfl) rfl rfl (Nat.le_of_ble_eq_true rfl) (Ok.pays (ok_seq hw ma) (wd244 hw) (wd6 hw) (by decide) (by decide)) (fun v h' q => q.2 ▸ Keep.refl _ _) all0 (by decide) (by decide) ?_
          rintro _ h_52 ⟨rfl, eqh⟩
          subst h_52
          refine Run.cast (st' := [(.int (1 : Int32))]) rfl ?_
          refine r_ifeq (pc2 := 308) at_301 rfl rfl (fun cc => absurd cc (by decide)) (fun _ => ?_)
          refine r_iconst (v := 1) at_304 rfl rfl ?_
          refine r_goto (pc' := 309) at_305 rfl ?_
          refine r_istore (l' := #[.val (.int p0), .val (.int p1), .val (.int p2), .val (.int n), .val (.int q), .val (.ref pa), .val (.ref ma), .val (.ref b_11), .val (.ref we), .val (.ref ra), .val (.int (1 : Int32)), .val (.ref ma)]) at_309 rfl rfl ?_
          refine r_iload at_311 rfl rfl ?_
          exact r_ireturnN (t := .boolean) at_313 rfl (by simp) rfl (by simp) (by decide) (by decide)
        · intro J_47
          refine r_iload at_242 rfl rfl ?_
          refine r_iconst (v := 1) at_244 rfl rfl ?_
          refine r_icmple (pc2 := 277) at_245 rfl rfl (fun c_54 => ?_) (fun c_54 => ?_)
          · exact J_47 () trivial
          · have hk : 1 < (mkc q p1).length := gt_of (by decide) (by rw [lq]; exact c_54)
            refine r_iload at_248 rfl rfl ?_
            refine r_ifeq (pc2 := 274) at_250 rfl rfl (fun cc => absurd cc (by decide)) (fun _ => ?_)
            refine r_aload at_253 rfl rfl rfl ?_
            refine r_iloadN at_255 rfl rfl ?_
            refine r_iconst (v := 3) at_256 rfl rfl ?_
            refine r_iadd at_257 rfl ?_
            refine Run.cast (st' := [(.int (Int32.ofNat ((mkc n p0).length + (1 + 2)))), (.ref ra)]) (by rw [show (Int32.ofNat ((mkc n p0).length + (1 + 2))) = (n + (3 : Int32)) from (by rw [← ofNat_add', ln]; rfl)]) ?_
            refine r_virtual (y := (⟨"java/lang/String", "charAt", "(I)C"⟩ : MethodName)) (argsL := [(.int (Int32.ofNat ((mkc n p0).length + (1 + 2))))]) (rest := []) (W := 0) (kc := 0) (ks := 0) (wl := []) at_258 rfl (wd218 hw) (wd219 hw) (wd221 hw) (wd220 hw) (by decide) ⟨rfl, rfl⟩ (StrG.exa GW) (lenOf pd_39 rfl) rfl rfl (Nat.le_of_ble_eq_true rfl) (Ok.pays (ok_gch hw ra rt (by rw [app_len]; omega) ((mkc n p0).length + (1 + 2)) (by rw [app_len]; omega) SC nC SF rF SA SH SL8 GW) (wd222 hw) (wd6 hw) (by decide) (by decide)) (fun v h' q => q.2 ▸ Keep.refl _ _) all0 (by decide) (by decide) ?_
            rintro _ h_55 ⟨rfl, eqh⟩
            subst h_55
            refine Run.cast (st' := [(.int (((mkc n p0) ++ sep ++ (mkc q p1)).getD ((mkc n p0).length + (1 + 2)) 0))]) rfl ?_
            refine r_aload at_261 rfl rfl rfl ?_
            refine r_iconst (v := 1) at_263 rfl rfl ?_
            refine Run.cast (st' := [(.int (Int32.ofNat 1)), (.ref ma), (.int (((mkc n p0) ++ sep ++ (mkc q p1)).getD ((mkc n p0).length + (1 + 2)) 0))]) (by rw [show (Int32.ofNat 1) = (1 : Int32) from rfl]) ?_
            have G_56 : StrG Z h_33 ma mt (mkc q p1) := (StrG.keep G_32 KW nin0 nin0)
            have A_58 : Exa Z h_33 ma "java/lang/String" := (Exa.keep (Exa.keep (Exa.ext E_13 (StrG.exa SS_7)) KK_23) KW)
            refine r_virtual (y := (⟨"java/lang/String", "charAt", "(I)C"⟩ : MethodName)) (argsL := [(.int (Int32.ofNat 1))]) (rest := [(.int (((mkc n p0) ++ sep ++ (mkc q p1)).getD ((mkc n p0).length + (1 + 2)) 0))]) (W := 1) (kc := 0) (ks := 0) (wl := []) at_264 rfl (wd218 hw) (wd219 hw) (wd221 hw) (wd220 hw) (by decide) ⟨rfl, rfl⟩ A_58 (lenOf pd_39 rfl) rfl rfl (Nat.le_of_ble_eq_true rfl) (Ok.pays (ok_gch hw ma mt (by omega) 1 hk SC nC SF rF SA SH SL8 G_56) (wd222 hw) (wd6 hw) (by decide) (by decide)) (fun v h' q => q.2 ▸ Keep.refl _ _) all0 (by decide) (by decide) ?_
            rintro _ h_57 ⟨rfl, eqh⟩
            subst h_57
            refine Run.cast (st' := [(.int ((mkc q p1).getD 1 0)), (.int (((mkc n p0) ++ sep ++ (mkc q p1)).getD ((mkc n p0).length + (1 + 2)) 0))]) rfl ?_
            refine r_icmpne (pc2 := 274) at_267 rfl rfl (fun cc => absurd (app_at3 _ _ 1) cc) (fun _ => ?_)
            refine r_iconst (v := 1) at_270 rfl rfl ?_
            refine r_goto (pc' := 275) at_271 rfl ?_
            refine r_istore (l' := #[.val (.int p0), .val (.int p1), .val (.int p2), .val (.int n), .val (.int q), .val (.ref pa), .val (.ref ma), .val (.ref b_11), .val (.ref we), .val (.ref ra), .val (.int (1 : Int32)), .unset]) at_275 rfl rfl ?_
            exact J_47 () trivial
      · intro J_45
        refine r_iload at_208 rfl rfl ?_
        refine r_ifle (pc2 := 242) at_210 rfl rfl (fun c_59 => ?_) (fun c_59 => ?_)
        · exact J_45 () trivial
        · have hk : 0 < (mkc q p1).length := gt_of (by decide) (by rw [lq]; exact c_59)
          refine r_iload at_213 rfl rfl ?_
          refine r_ifeq (pc2 := 239) at_215 rfl rfl (fun cc => absurd cc (by decide)) (fun _ => ?_)
          refine r_aload at_218 rfl rfl rfl ?_
          refine r_iloadN at_220 rfl rfl ?_
          refine r_iconst (v := 2) at_221 rfl rfl ?_
          refine r_iadd at_222 rfl ?_
          refine Run.cast (st' := [(.int (Int32.ofNat ((mkc n p0).length + (0 + 2)))), (.ref ra)]) (by rw [show (Int32.ofNat ((mkc n p0).length + (0 + 2))) = (n + (2 : Int32)) from (by rw [← ofNat_add', ln]; rfl)]) ?_
          refine r_virtual (y := (⟨"java/lang/String", "charAt", "(I)C"⟩ : MethodName)) (argsL := [(.int (Int32.ofNat ((mkc n p0).length + (0 + 2))))]) (rest := []) (W := 0) (kc := 0) (ks := 0) (wl := []) at_223 rfl (wd218 hw) (wd219 hw) (wd221 hw) (wd220 hw) (by decide) ⟨rfl, rfl⟩ (StrG.exa GW) (lenOf pd_39 rfl) rfl rfl (Nat.le_of_ble_eq_true rfl) (Ok.pays (ok_gch hw ra rt (by rw [app_len]; omega) ((mkc n p0).length + (0 + 2)) (by rw [app_len]; omega) SC nC SF rF SA SH SL8 GW) (wd222 hw) (wd6 hw) (by decide) (by decide)) (fun v h' q => q.2 ▸ Keep.refl _ _) all0 (by decide) (by decide) ?_
          rintro _ h_60 ⟨rfl, eqh⟩
          subst h_60
          refine Run.cast (st' := [(.int (((mkc n p0) ++ sep ++ (mkc q p1)).getD ((mkc n p0).length + (0 + 2)) 0))]) rfl ?_
          refine r_aload at_226 rfl rfl rfl ?_
          refine r_iconst (v := 0) at_228 rfl rfl ?_
          refine Run.cast (st' := [(.int (Int32.ofNat 0)), (.ref ma), (.int (((mkc n p0) ++ sep ++ (mkc q p1)).getD ((mkc n p0).length + (0 + 2)) 0))]) (by rw [show (Int32.ofNat 0) = (0 : Int32) from rfl]) ?_
          have G_61 : StrG Z h_33 ma mt (mkc q p1) := (StrG.keep G_32 KW nin0 nin0)
          have A_63 : Exa Z h_33 ma "java/lang/String" := (Exa.keep (Exa.keep (Exa.ext E_13 (StrG.exa SS_7)) KK_23) KW)
          refine r_virtual (y := (⟨"java/lang/String", "charAt", "(I)C"⟩ : MethodName)) (argsL := [(.int (Int32.ofNat 0))]) (rest := [(.int (((mkc n p0) ++ sep ++ (mkc q p1)).getD ((mkc n p0).length + (0 + 2)) 0))]) (W := 1) (kc := 0) (ks := 0) (wl := []) at_229 rfl (wd218 hw) (wd219 hw) (wd221 hw) (wd220 hw) (by decide) ⟨rfl, rfl⟩ A_63 (lenOf pd_39 rfl) rfl rfl (Nat.le_of_ble_eq_true rfl) (Ok.pays (ok_gch hw ma mt (by omega) 0 hk SC nC SF rF SA SH SL8 G_61) (wd222 hw) (wd6 hw) (by decide) (by decide)) (fun v h' q => q.2 ▸ Keep.refl _ _) all0 (by decide) (by decide) ?_
          rintro _ h_62 ⟨rfl, eqh⟩
          subst h_62
          refine Run.cast (st' := [(.int ((mkc q p1).getD 0 0)), (.int (((mkc n p0) ++ sep ++ (mkc q p1)).getD ((mkc n p0).length + (0 + 2)) 0))]) rfl ?_
          refine r_icmpne (pc2 := 239) at_232 rfl rfl (fun cc => absurd (app_at3 _ _ 0) cc) (fun _ => ?_)
          refine r_iconst (v := 1) at_235 rfl rfl ?_
          refine r_goto (pc' := 240) at_236 rfl ?_
          refine r_istore (l' := #[.val (.int p0), .val (.int p1), .val (.int p2), .val (.int n), .val (.int q), .val (.ref pa), .val (.ref ma), .val (.ref b_11), .val (.ref we), .val (.ref ra), .val (.int (1 : Int32)), .unset]) at_240 rfl rfl ?_
          exact J_45 () trivial
    · intro J_41
      refine r_iloadN at_128 rfl rfl ?_
      refine r_iconst (v := 1) at_129 rfl rfl ?_
      refine r_icmple (pc2 := 160) at_130 rfl rfl (fun c_64 => ?_) (fun c_64 => ?_)
      · exact J_41 () trivial
      · have hk : 1 < (mkc n p0).length := gt_of (by decide) (by rw [ln]; exact c_64)
        refine r_iload at_133 rfl rfl ?_
        refine r_ifeq (pc2 := 157) at_135 rfl rfl (fun cc => absurd cc (by decide)) (fun _ => ?_)
        refine r_aload at_138 rfl rfl rfl ?_
        refine r_iconst (v := 1) at_140 rfl rfl ?_
        refine Run.cast (st' := [(.int (Int32.ofNat 1)), (.ref ra)]) (by rw [show (Int32.ofNat 1) = (1 : Int32) from rfl]) ?_
        refine r_virtual (y := (⟨"java/lang/String", "charAt", "(I)C"⟩ : MethodName)) (argsL := [(.int (Int32.ofNat 1))]) (rest := []) (W := 0) (kc := 0) (ks := 0) (wl := []) at_141 rfl (wd218 hw) (wd219 hw) (wd221 hw) (wd220 hw) (by decide) ⟨rfl, rfl⟩ (StrG.exa GW) (lenOf pd_39 rfl) rfl rfl (Nat.le_of_ble_eq_true rfl) (Ok.pays (ok_gch hw ra rt (by rw [app_len]; omega) 1 (by rw [app_len]; omega) SC nC SF rF SA SH SL8 GW) (wd222 hw) (wd6 hw) (by decide) (by decide)) (fun v h' q => q.2 ▸ Keep.refl _ _) all0 (by decide) (by decide) ?_
        rintro _ h_65 ⟨rfl, eqh⟩
        subst h_65
        refine Run.cast (st' := [(.int (((mkc n p0) ++ sep ++ (mkc q p1)).getD 1 0))]) rfl ?_
        refine r_aload at_144 rfl rfl rfl ?_
        refine r_iconst (v := 1) at_146 rfl rfl ?_
        refine Run.cast (st' := [(.int (Int32.ofNat 1)), (.ref pa), (.int (((mkc n p0) ++ sep ++ (mkc q p1)).getD 1 0))]) (by rw [show (Int32.ofNat 1) = (1 : Int32) from rfl]) ?_
        have G_66 : StrG Z h_33 pa pt (mkc n p0) := (StrG.keep G_29 KW nin0 nin0)
        have A_68 : Exa Z h_33 pa "java/lang/String" := (Exa.keep (Exa.keep (Exa.ext E_13 (Exa.keep (StrG.exa SS_2) KK_6)) KK_23) KW)
        refine r_virtual (y := (⟨"java/lang/String", "charAt", "(I)C"⟩ : MethodName)) (argsL := [(.int (Int32.ofNat 1))]) (rest := [(.int (((mkc n p0) ++ sep ++ (mkc q p1)).getD 1 0))]) (W := 1) (kc := 0) (ks := 0) (wl := []) at_147 rfl (wd218 hw) (wd219 hw) (wd221 hw) (wd220 hw) (by decide) ⟨rfl, rfl⟩ A_68 (lenOf pd_39 rfl) rfl rfl (Nat.le_of_ble_eq_true rfl) (Ok.pays (ok_gch hw pa pt (by omega) 1 hk SC nC SF rF SA SH SL8 G_66) (wd222 hw) (wd6 hw) (by decide) (by decide)) (fun v h' q => q.2 ▸ Keep.refl _ _) all0 (by decide) (by decide) ?_
        rintro _ h_67 ⟨rfl, eqh⟩
        subst h_67
        refine Run.cast (st' := [(.int ((mkc n p0).getD 1 0)), (.int (((mkc n p0) ++ sep ++ (mkc q p1)).getD 1 0))]) rfl ?_
        refine r_icmpne (pc2 := 157) at_150 rfl rfl (fun cc => absurd (app_at1 _ _ _ hk) cc) (fun _ => ?_)
        refine r_iconst (v := 1) at_153 rfl rfl ?_
        refine r_goto (pc' := 158) at_154 rfl ?_
        refine r_istore (l' := #[.val (.int p0), .val (.int p1), .val (.int p2), .val (.int n), .val (.int q), .val (.ref pa), .val (.ref ma), .val (.ref b_11), .val (.ref we), .val (.ref ra), .val (.int (1 : Int32)), .unset]) at_158 rfl rfl ?_
        exact J_41 () trivial
  · intro J_39
    refine r_iloadN at_97 rfl rfl ?_
    refine r_ifle (pc2 := 128) at_98 rfl rfl (fun c_69 => ?_) (fun c_69 => ?_)
    · exact J_39 () trivial
    · have hk : 0 < (mkc n p0).length := gt_of (by decide) (by rw [ln]; exact c_69)
      refine r_iload at_101 rfl rfl ?_
      refine r_ifeq (pc2 := 125) at_103 rfl rfl (fun cc => absurd cc (by decide)) (fun _ => ?_)
      refine r_aload at_106 rfl rfl rfl ?_
      refine r_iconst (v := 0) at_108 rfl rfl ?_
      refine Run.cast (st' := [(.int (Int32.ofNat 0)), (.ref ra)]) (by rw [show (Int32.ofNat 0) = (0 : Int32) from rfl]) ?_
      refine r_virtual (y := (⟨"java/lang/String", "charAt", "(I)C"⟩ : MethodName)) (argsL := [(.int (Int32.ofNat 0))]) (rest := []) (W := 0) (kc := 0) (ks := 0) (wl := []) at_109 rfl (wd218 hw) (wd219 hw) (wd221 hw) (wd220 hw) (by decide) ⟨rfl, rfl⟩ (StrG.exa GW) (lenOf pd_39 rfl) rfl rfl (Nat.le_of_ble_eq_true rfl) (Ok.pays (ok_gch hw ra rt (by rw [app_len]; omega) 0 (by rw [app_len]; omega) SC nC SF rF SA SH SL8 GW) (wd222 hw) (wd6 hw) (by decide) (by decide)) (fun v h' q => q.2 ▸ Keep.refl _ _) all0 (by decide) (by decide) ?_
      rintro _ h_70 ⟨rfl, eqh⟩
      subst h_70
      refine Run.cast (st' := [(.int (((mkc n p0) ++ sep ++ (mkc q p1)).getD 0 0))]) rfl ?_
      refine r_aload at_112 rfl rfl rfl ?_
      refine r_iconst (v := 0) at_114 rfl rfl ?_
      refine Run.cast (st' := [(.int (Int32.ofNat 0)), (.ref pa), (.int (((mkc n p0) ++ sep ++ (mkc q p1)).getD 0 0))]) (by rw [show (Int32.ofNat 0) = (0 : Int32) from rfl]) ?_
      have G_71 : StrG Z h_33 pa pt (mkc n p0) := (StrG.keep G_29 KW nin0 nin0)
      have A_73 : Exa Z h_33 pa "java/lang/String" := (Exa.keep (Exa.keep (Exa.ext E_13 (Exa.keep (StrG.exa SS_2) KK_6)) KK_23) KW)
      refine r_virtual (y := (⟨"java/lang/String", "charAt", "(I)C"⟩ : MethodName)) (argsL := [(.int (Int32.ofNat 0))]) (rest := [(.int (((mkc n p0) ++ sep ++ (mkc q p1)).getD 0 0))]) (W := 1) (kc := 0) (ks := 0) (wl := []) at_115 rfl (wd218 hw) (wd219 hw) (wd221 hw) (wd220 hw) (by decide) ⟨rfl, rfl⟩ A_73 (lenOf pd_39 rfl) rfl rfl (Nat.le_of_ble_eq_true rfl) (Ok.pays (ok_gch hw pa pt (by omega) 0 hk SC nC SF rF SA SH SL8 G_71) (wd222 hw) (wd6 hw) (by decide) (by decide)) (fun v h' q => q.2 ▸ Keep.refl _ _) all0 (by decide) (by decide) ?_
      rintro _ h_72 ⟨rfl, eqh⟩
      subst h_72
      refine Run.cast (st' := [(.int ((mkc n p0).getD 0 0)), (.int (((mkc n p0) ++ sep ++ (mkc q p1)).getD 0 0))]) rfl ?_
      refine r_icmpne (pc2 := 125) at_118 rfl rfl (fun cc => absurd (app_at1 _ _ _ hk) cc) (fun _ => ?_)
      refine r_iconst (v := 1) at_121 rfl rfl ?_
      refine r_goto (pc' := 126) at_122 rfl ?_
      refine r_istore (l' := #[.val (.int p0), .val (.int p1), .val (.int p2), .val (.int n), .val (.int q), .val (.ref pa), .val (.ref ma), .val (.ref b_11), .val (.ref we), .val (.ref ra), .val (.int (1 : Int32)), .unset]) at_126 rfl rfl ?_
      exact J_39 () trivial
theorem eqI_v {t : Term} {k : Int32} {args : Array Value} {first s : State} {o : Option Outcome} {idx : List Nat} (h : (Cond.eq t (Term.int k)).value args first o s idx = some true) : t.eval args first o idx s = some (.int k) := by
  simp only [Cond.value, Term.int_eval] at h
  cases ht : t.eval args first o idx s with
  | none => simp [ht] at h
  | some v => cases v <;> simp [ht] at h ⊢ <;> exact h
theorem mkn {vm : Vm} {m : MethodId} (h : methodKnown vm m = true) : vm.knowsMethod m := by
  unfold methodKnown at h
  cases hc : vm.classes[m.cls]? with
  | none => rw [hc] at h; cases h
  | some k =>
    refine ⟨k, hc, fun cf hcf => ?_⟩
    rw [hc] at h
    simp only [hcf] at h
    exact h
theorem fk_of {s : State} {m : MethodId} {args : Array Value} {below : List Frame} (hf : s.frames = Frame.invoking m args :: below) (h : framesKnown s = true) : s.vm.FramesKnown below := fun y hy m' hm' => by
  have q := List.all_eq_true.mp h y (by rw [hf]; exact List.mem_cons_of_mem _ hy)
  cases y with
  | java g => cases hm'; exact mkn q
  | native g => cases hm'; exact mkn q
  | _ => cases hm'
set_option maxRecDepth 65536 in
set_option maxHeartbeats 40000000 in
theorem comes_1 {Post : Tables → Env → Array Value → State → Outcome → State → Prop} (hpost : ∀ tb e args s v u, (limb_1_1.after args s (.returned v) u = true ∧ limb_1_2.after args s (.returned v) u = true ∧ True) → Jvm.D.FramedW s (.returned v) u (Jvm.fieldLocs frame_1_writes args s ++ Jvm.arrayLocs frame_1_arrays args s ++ Jvm.staticLocs frame_1_statics s) 48 13376 → Post tb e args s (.returned v) u) :
    ArmFor flags0 classFile x code maxLocals ret World_1 tables_1 room_1 Calls_1 rest_1 Pre_1 Post := by
  intro l hfl _ _ p e ha hc hk s m args below hf hA hF happ hP
  obtain ⟨hcalls, hrest, hpre⟩ := hP
  obtain ⟨-, -, -, hnamed, -, -, -, hat⟩ := (Spec.applies_iff hf).mp happ
  obtain ⟨hg, hn⟩ := and_e (Cond.before_iff.mp (show (Jvm.Cond.and given_1 narrow_1).before args s = true from hpre))
  obtain ⟨gc, gr0⟩ := and_e hg
  obtain ⟨ga0, gr1⟩ := and_e gr0
  obtain ⟨ga1, gr2⟩ := and_e gr1
  obtain ⟨w0, w1, w2, rfl⟩ : ∃ w0 w1 w2 : Value, args = #[w0, w1, w2] := by
    have hs : args.size = 3 := by simpa [Cond.value, given_1] using gc
    obtain ⟨L⟩ := args
    match L, hs with
    | [w0, w1, w2], _ => exact ⟨w0, w1, w2, rfl⟩
  have hw := fun d (hd : d ∈ tables_1) => atoms_spec (ws := Jvm.Cond.code x code maxLocals ret :: tables_1) hat d (List.mem_cons_of_mem _ hd)
  have hfit : Fit s := fun {y c} hc i hi => by
    obtain ⟨ha, rfl⟩ := Array.getElem?_eq_some_iff.mp hc
    have q := List.all_eq_true.mp ((Array.all_eq_true_iff_forall_mem.mp hF) _ (Array.getElem_mem ha)) i (List.mem_range.mpr hi)
    simpa [Array.getElem?_eq_getElem hi] using q
  obtain ⟨hsets, hown0⟩ := atoms_of _ (rest_1_c_eq ▸ (show rest_1_c.before _ s = true from hrest))
  obtain ⟨i0, ei0⟩ := is_v ga0
  obtain rfl : w0 = (.int i0) := Option.some.inj ei0
  obtain ⟨i1, ei1⟩ := is_v ga1
  obtain rfl : w1 = (.int i1) := Option.some.inj ei1
  obtain ⟨i2, ei2⟩ := is_v gr2
  obtain rfl : w2 = (.int i2) := Option.some.inj ei2
  have n5 := not_v (Cond.before_iff.mp (hsets _ (List.mem_of_getElem? (i := 2) rfl)))
  obtain ⟨zC, eC⟩ := is_v (Cond.before_iff.mp (hsets _ (List.mem_of_getElem? (i := 1) rfl)))
  have SC : Sta s s.heap "java/lang/String" "COMPACT_STRINGS" "Z" (.int zC) := Sta.start eC (Or.inl (hsets _ (List.mem_of_getElem? (i := 0) rfl)))
  have nC : ¬ (zC = (0 : Int32)) := gotF (Cond.eq_ints eC (Term.int_eval (0))) n5
  obtain ⟨vF, eF, rF⟩ := isR_v (Cond.before_iff.mp (hsets _ (List.mem_of_getElem? (i := 8) rfl)))
  have SF : Sta s s.heap "jdk/internal/util/Preconditions" "SIOOBE_FORMATTER" "Ljava/util/function/BiFunction;" vF := Sta.start eF (Or.inl (hsets _ (List.mem_of_getElem? (i := 7) rfl)))
  have SA : Sta s s.heap "java/lang/StringUTF16" "$assertionsDisabled" "Z" (.int 1) := Sta.start (eqI_v (Cond.before_iff.mp (hsets _ (List.mem_of_getElem? (i := 32) rfl)))) (Or.inl (hsets _ (List.mem_of_getElem? (i := 31) rfl)))
  have SH : Sta s s.heap "java/lang/StringUTF16" "HI_BYTE_SHIFT" "I" (.int 0) := Sta.start (eqI_v (Cond.before_iff.mp (hsets _ (List.mem_of_getElem? (i := 35) rfl)))) (Or.inl (hsets _ (List.mem_of_getElem? (i := 34) rfl)))
  have SL8 : Sta s s.heap "java/lang/StringUTF16" "LO_BYTE_SHIFT" "I" (.int 8) := Sta.start (eqI_v (Cond.before_iff.mp (hsets _ (List.mem_of_getElem? (i := 38) rfl)))) (Or.inl (hsets _ (List.mem_of_getElem? (i := 37) rfl)))
  obtain ⟨aU, eU⟩ := arr_v (Cond.before_iff.mp (hsets _ (List.mem_of_getElem? (i := 17) rfl)))
  have SU : Sta s s.heap "java/lang/Throwable" "UNASSIGNED_STACK" "[Ljava/lang/StackTraceElement;" (.ref aU) := Sta.start eU (Or.inl (hsets _ (List.mem_of_getElem? (i := 15) rfl)))
  obtain ⟨aN, eN⟩ := exa_v (Cond.before_iff.mp (hsets _ (List.mem_of_getElem? (i := 22) rfl)))
  have SN : Sta s s.heap "java/lang/Throwable" "SUPPRESSED_SENTINEL" "Ljava/util/List;" (.ref aN) := Sta.start eN (Or.inl (hsets _ (List.mem_of_getElem? (i := 20) rfl)))
  have hst : l.stackTraces = true := by rw [Launch.stackTraces, hfl]; decide +kernel
  have hKn : s.vm.MethodsKnown ∧ s.vm.FramesKnown below := ⟨mk_of hcalls.2.1, fk_of hf hcalls.1⟩
  obtain ⟨n, o, h1, h2, h3, v, L, rfl, rfl, N, hE⟩ := (ok_law hw i0 i1 i2 hst SU SN SC nC SF rF SA SH SL8) tables_1 p e ha hc hk s m _ below hf ((Spec.applies_iff_loose hf).mp happ).1 ⟨rfl, State.Warmed39.refl s, rfl, Old.start s, fun _ => by
    have hEW : EW s _ consts_1 := (EW.cons (wd163 hw) (by decide) (EW.cons (wd35 hw) (by decide) EW.nil))
    exact ⟨⟨_, hEW⟩, CHv.start hEW (fun p hp => hcalls.2.2.1 p hp) (hsets _ (List.mem_of_getElem? (i := 2) rfl)) (wd24 hw) (wd5 hw), fun x hx => nomatch hx⟩⟩ hKn
  have hq := (hE.2 rfl).1
  exact ⟨n, _, h1, h2, h3, hpost _ _ _ _ _ _ ⟨Cond.after_iff.mpr rfl, Cond.after_iff.mpr (eq_i res_at (Term.int_eval (1)) rfl), trivial⟩ ⟨hq.1, hq.2.1, hq.2.2.1, (hq.2.2.2.sift fun y hy => Or.inr (N y hy)).mono (by decide) (by decide)⟩⟩
theorem main_1_1 : Claimed_1_1 := comes_1 fun _ _ _ _ _ _ h hF => ⟨h.1, hF⟩
theorem main_1_2 : Claimed_1_2 := comes_1 fun _ _ _ _ _ _ h hF => ⟨h.2.1, hF⟩
end Jvm.Pilot.@@N@@
namespace Jvm.Pilot.@@N@@
open Jvm Jvm.ClassFile Sem Op Lib Jvm.Free Jvm.Stand Jvm.Pilot.@@N@@.Jvm.D
/-! MADE BY PROGRAM (witnessworld.py) out of the Statement's table words and the real class files: 41 classes; the members and pool entries that the words name. The judged class is class 1, her method 2. -/
namespace start1
open Jvm.ClassFile
def u (s : String) : CpInfo := .utf8 (stringToUtf16 s)
/-- a pool by its gaps: so many unusable entries, then the entry; so many at the end -/
def gap : Nat → List CpInfo → List CpInfo
  | 0, r => r
  | n + 1, r => .unusable :: gap n r
def poolList (es : List (Nat × CpInfo)) (last : Nat) : List CpInfo := es.foldr (fun e r => gap e.1 (e.2 :: r)) (gap last [])
def pool (es : List (Nat × CpInfo)) (last : Nat) : Array CpInfo := ⟨poolList es last⟩
def fileOf (pool : Array CpInfo) (this : Nat) (attrs : Array Attribute := #[]) (ms : Array MethodInfo := #[]) (fl : Nat := 33) (sup : Nat := 0) (ifs : Array Nat := #[]) (fds : Array FieldInfo := #[]) : ClassFile where
  minorVersion := 0
  majorVersion := 65
  constantPool := pool
  accessFlags := fl
  thisClass := this
  superClass := sup
  interfaces := ifs
  fields := fds
  methods := ms
  attributes := attrs
def plain (name : String) (sup : Option ClassId) : Class where
  name := name
  kind := .ordinary
  loader := none
  accessFlags := 33
  super := sup
  interfaces := #[]
  cf := none
  fields := #[]
  methods := #[]
  instanceTypes := #[]
  staticTypes := #[]
  resolved := #[]
  callSites := []
  init := .initialized
  statics := none
  mirror := none

def pool0 : Array CpInfo := pool [(5, u "<init>"), (0, u "()V"), (1, .class_ 10), (1, u "java/lang/Object")] 113

def k0c0 : Code := { maxStack := 0, maxLocals := 1, code := object_method_1_code, exceptionTable := #[], attributes := #[] }
def k0m0 : Method := { name := "<init>", desc := "()V", sig := { parameters := [], returnType := none }, accessFlags := 1, code := some k0c0 }
/-- java/lang/Object -/
def k0 : Class := { plain "java/lang/Object" none with
  accessFlags := 33
  interfaces := #[]
  cf := some (fileOf pool0 8 #[] #[{ accessFlags := 1, nameIndex := 5, descriptorIndex := 6, attributes := #[] }] 33 0 #[] #[])
  fields := #[]
  methods := #[k0m0]
  instanceTypes := #[]
  staticTypes := #[]
  resolved := Array.replicate 124 none
  statics := none }

def pool1 : Array CpInfo := pool [(2, .class_ 4), (1, u "java/lang/Object"), (0, u "<init>"), (0, u "()V"), (0, .string 8), (0, u ""), (0, .integer 65535), (0, .methodref 11 12), (0, .class_ 13), (0, .nameAndType 14 15), (0, u "java/lang/String"), (0, u "valueOf"), (0, u "(C)Ljava/lang/String;"), (0, .methodref 11 17), (0, .nameAndType 5 18), (0, u "([C)V"), (0, .methodref 20 21), (0, .class_ 22), (0, .nameAndType 23 24), (0, u "com/example/fate_of_jobs/fateofjobs/conformance/CaseFormatExceptionWithinPinLaw"), (0, u "mk"), (0, u "(II)Ljava/lang/String;"), (0, .class_ 26), (0, u "com/example/fate_of_jobs/fateofjobs/conformance/CaseFormatException"), (0, .methodref 25 28), (0, .nameAndType 5 29), (0, u "(Ljava/lang/String;)V"), (0, .methodref 25 31), (0, .nameAndType 32 33), (0, u "within"), (0, u "(Ljava/lang/String;)Lcom/example/fate_of_jobs/fateofjobs/conformance/CaseFormatException;"), (0, .methodref 25 35), (0, .nameAndType 36 37), (0, u "getMessage"), (0, u "()Ljava/lang/String;"), (0, .methodref 11 39), (0, .nameAndType 40 41), (0, u "length"), (0, u "()I"), (0, .methodref 11 43), (0, .nameAndType 44 45), (0, u "charAt"), (0, u "(I)C"), (0, .methodref 11 47), (0, .nameAndType 48 49), (0, u "equals"), (0, u "(Ljava/lang/Object;)Z"), (3, u "law"), (0, u "(III)Z")] 2

def k1m0 : Method := { name := "<init>", desc := "()V", sig := { parameters := [], returnType := none }, accessFlags := 1, code := none }
def k1c1 : Code := { maxStack := 7, maxLocals := 2, code := method_2_code, exceptionTable := #[], attributes := #[] }
def k1m1 : Method := { name := "mk", desc := "(II)Ljava/lang/String;", sig := { parameters := [.int, .int], returnType := some (.object "java/lang/String") }, accessFlags := 10, code := some k1c1 }
def k1c2 : Code := { maxStack := 3, maxLocals := 12, code := code, exceptionTable := #[], attributes := #[] }
def k1m2 : Method := { name := "law", desc := "(III)Z", sig := { parameters := [.int, .int, .int], returnType := some .boolean }, accessFlags := 9, code := some k1c2 }
/-- com/example/fate_of_jobs/fateofjobs/conformance/CaseFormatExceptionWithinPinLaw -/
def k1 : Class := { plain "com/example/fate_of_jobs/fateofjobs/conformance/CaseFormatExceptionWithinPinLaw" (some 0) with
  accessFlags := 49
  interfaces := #[]
  cf := some (fileOf pool1 20 #[] #[{ accessFlags := 1, nameIndex := 5, descriptorIndex := 6, attributes := #[] }, { accessFlags := 10, nameIndex := 23, descriptorIndex := 24, attributes := #[] }, { accessFlags := 9, nameIndex := 53, descriptorIndex := 54, attributes := #[] }] 49 2 #[] #[])
  fields := #[]
  methods := #[k1m0, k1m1, k1m2]
  instanceTypes := #[]
  staticTypes := #[]
  resolved := Array.replicate 57 none
  statics := none }

def pool2 : Array CpInfo := pool [(1, .class_ 2), (0, u "java/io/Serializable"), (0, .class_ 4), (0, u "java/lang/Object")] 2

/-- java/io/Serializable -/
def k2 : Class := { plain "java/io/Serializable" (some 0) with
  accessFlags := 1537
  interfaces := #[]
  cf := some (fileOf pool2 1 #[] #[] 1537 3 #[] #[])
  fields := #[]
  methods := #[]
  instanceTypes := #[]
  staticTypes := #[]
  resolved := Array.replicate 7 none
  statics := none }

def pool3 : Array CpInfo := pool [(1, .class_ 2), (0, u "java/lang/Comparable"), (0, .class_ 4), (0, u "java/lang/Object")] 7

/-- java/lang/Comparable -/
def k3 : Class := { plain "java/lang/Comparable" (some 0) with
  accessFlags := 1537
  interfaces := #[]
  cf := some (fileOf pool3 1 #[] #[] 1537 3 #[] #[])
  fields := #[]
  methods := #[]
  instanceTypes := #[]
  staticTypes := #[]
  resolved := Array.replicate 12 none
  statics := none }

def pool4 : Array CpInfo := pool [(2, .class_ 4), (1, u "java/lang/CharSequence"), (42, .class_ 48), (0, u "java/lang/CharSequence$1CodePointIterator"), (10, .class_ 60), (0, u "java/lang/CharSequence$1CharIterator"), (5, .class_ 67), (0, u "java/lang/Object")] 63

/-- java/lang/CharSequence -/
def k4 : Class := { plain "java/lang/CharSequence" (some 0) with
  accessFlags := 1537
  interfaces := #[]
  cf := some (fileOf pool4 2 #[.nestMembers #[47, 59]] #[] 1537 66 #[] #[])
  fields := #[]
  methods := #[]
  instanceTypes := #[]
  staticTypes := #[]
  resolved := Array.replicate 131 none
  statics := none }

def pool5 : Array CpInfo := pool [(1, .class_ 2), (0, u "java/lang/constant/Constable"), (0, .class_ 4), (0, u "java/lang/Object")] 6

/-- java/lang/constant/Constable -/
def k5 : Class := { plain "java/lang/constant/Constable" (some 0) with
  accessFlags := 1537
  interfaces := #[]
  cf := some (fileOf pool5 1 #[] #[] 1537 3 #[] #[])
  fields := #[]
  methods := #[]
  instanceTypes := #[]
  staticTypes := #[]
  resolved := Array.replicate 11 none
  statics := none }

def pool6 : Array CpInfo := pool [(1, .class_ 2), (0, u "java/lang/constant/ConstantDesc"), (0, .class_ 4), (0, u "java/lang/Object")] 32

/-- java/lang/constant/ConstantDesc -/
def k6 : Class := { plain "java/lang/constant/ConstantDesc" (some 0) with
  accessFlags := 1537
  interfaces := #[]
  cf := some (fileOf pool6 1 #[] #[] 1537 3 #[] #[])
  fields := #[]
  methods := #[]
  instanceTypes := #[]
  staticTypes := #[]
  resolved := Array.replicate 37 none
  statics := none }

def pool7 : Array CpInfo := pool [(1, .methodref 2 3), (0, .class_ 4), (0, .nameAndType 5 6), (0, u "java/lang/Object"), (0, u "<init>"), (0, u "()V"), (2, .fieldref 10 11), (0, .class_ 12), (0, .nameAndType 13 14), (0, u "java/lang/String"), (0, u "value"), (0, u "[B"), (0, .fieldref 10 16), (0, .nameAndType 17 18), (0, u "coder"), (0, u "B"), (2, u "hash"), (0, u "I"), (2, u "hashIsZero"), (0, u "Z"), (0, .methodref 10 28), (0, .nameAndType 5 29), (0, u "([CIILjava/lang/Void;)V"), (6, u "checkBoundsOffCount"), (0, u "(III)I"), (0, .fieldref 10 39), (0, .nameAndType 40 26), (0, u "COMPACT_STRINGS"), (1, .class_ 44), (1, u "java/lang/StringUTF16"), (0, u "compress"), (1, .methodref 42 48), (0, .nameAndType 49 50), (0, u "coderFromArrayLen"), (0, u "([BI)B"), (2, u "toBytes"), (0, .methodref 55 56), (0, .class_ 57), (0, .nameAndType 58 59), (0, u "java/util/Arrays"), (0, u "copyOfRange"), (0, u "([BII)[B"), (46, .methodref 107 108), (0, .class_ 109), (0, .nameAndType 110 111), (0, u "java/lang/StringLatin1"), (0, u "inflate"), (0, u "([BI[BII)V"), (30, u "()Z"), (34, .methodref 42 178), (0, .nameAndType 45 179), (0, u "([CII)[B"), (13, .class_ 195), (1, u "java/lang/System"), (13, .methodref 10 210), (0, .nameAndType 5 211), (0, u "([BB)V"), (0, .methodref 193 213), (0, .nameAndType 214 215), (0, u "arraycopy"), (0, u "(Ljava/lang/Object;ILjava/lang/Object;II)V"), (118, u "()I"), (0, .methodref 10 336), (0, .nameAndType 17 337), (0, u "()B"), (2, u "()[B"), (22, u "([BI)C"), (5, u "(C)Z"), (21, u "(II)V"), (35, u "(I)C"), (61, .methodref 10 490), (0, .nameAndType 5 491), (0, u "(Ljava/lang/AbstractStringBuilder;Ljava/lang/Void;)V"), (0, .methodref 10 493), (0, .nameAndType 494 142), (0, u "isLatin1"), (0, .methodref 107 496), (0, .nameAndType 497 363), (0, u "charAt"), (0, .methodref 42 496), (2, u "checkIndex"), (4, .nameAndType 507 334), (0, u "length"), (24, u "getBytes"), (10, u "equals"), (5, .methodref 550 506), (0, .class_ 551), (0, u "java/lang/AbstractStringBuilder"), (0, .methodref 550 553), (0, .nameAndType 554 340), (0, u "getValue"), (18, u "(Ljava/lang/Object;)Z"), (1, .class_ 576), (0, u "java/lang/CharSequence"), (22, u "CASE_INSENSITIVE_ORDER"), (0, u "Ljava/util/Comparator;"), (181, u "valueOf"), (0, u "(C)Ljava/lang/String;"), (37, u "([BIB)V"), (188, u "([C)V"), (4, .methodref 107 1016), (0, .nameAndType 1017 369), (0, u "canEncode"), (0, .methodref 107 1019), (0, .nameAndType 53 1020), (0, u "(C)[B"), (0, .methodref 42 1019), (25, .methodref 550 493), (0, .fieldref 550 1049), (0, .nameAndType 1050 26), (0, u "maybeLatin1"), (2, .fieldref 1054 1055), (0, .class_ 1056), (0, .nameAndType 1057 1058), (0, u "jdk/internal/util/Preconditions"), (0, u "SIOOBE_FORMATTER"), (0, u "Ljava/util/function/BiFunction;"), (0, .methodref 1054 1060), (0, .nameAndType 501 1061), (0, u "(IILjava/util/function/BiFunction;)I"), (2, u "(IIILjava/util/function/BiFunction;)I"), (0, .methodref 1054 1066), (0, .nameAndType 1067 1064), (0, u "checkFromIndexSize"), (33, u "serialPersistentFields"), (0, u "[Ljava/io/ObjectStreamField;"), (0, .class_ 1104), (0, u "java/lang/String$CaseInsensitiveComparator"), (1, .class_ 1107), (0, u "java/io/Serializable"), (0, .class_ 1109), (0, u "java/lang/Comparable"), (0, .class_ 1111), (0, u "java/lang/constant/Constable"), (0, .class_ 1113), (0, u "java/lang/constant/ConstantDesc"), (2, u "serialVersionUID"), (0, u "J"), (3, u "REPL"), (0, u "C"), (2, u "LATIN1"), (1, u "UTF16"), (105, u "(Ljava/lang/StringBuilder;)V")] 217

def k7m0 : Method := { name := "<init>", desc := "()V", sig := { parameters := [], returnType := none }, accessFlags := 1, code := none }
def k7c1 : Code := { maxStack := 5, maxLocals := 2, code := jdk_42_method_3_code, exceptionTable := #[], attributes := #[] }
def k7m1 : Method := { name := "<init>", desc := "([C)V", sig := { parameters := [(.array .char)], returnType := none }, accessFlags := 1, code := some k7c1 }
def k7c2 : Code := { maxStack := 3, maxLocals := 2, code := jdk_42_method_53_code, exceptionTable := #[], attributes := #[] }
def k7m2 : Method := { name := "<init>", desc := "(Ljava/lang/StringBuilder;)V", sig := { parameters := [(.object "java/lang/StringBuilder")], returnType := none }, accessFlags := 1, code := some k7c2 }
def k7c3 : Code := { maxStack := 2, maxLocals := 1, code := jdk_42_method_54_code, exceptionTable := #[], attributes := #[] }
def k7m3 : Method := { name := "length", desc := "()I", sig := { parameters := [], returnType := some .int }, accessFlags := 1, code := some k7c3 }
def k7c4 : Code := { maxStack := 2, maxLocals := 2, code := jdk_42_method_56_code, exceptionTable := #[], attributes := #[] }
def k7m4 : Method := { name := "charAt", desc := "(I)C", sig := { parameters := [.int], returnType := some .char }, accessFlags := 1, code := some k7c4 }
def k7c5 : Code := { maxStack := 2, maxLocals := 3, code := jdk_42_method_66_code, exceptionTable := #[], attributes := #[] }
def k7m5 : Method := { name := "equals", desc := "(Ljava/lang/Object;)Z", sig := { parameters := [(.object "java/lang/Object")], returnType := some .boolean }, accessFlags := 1, code := some k7c5 }
def k7c6 : Code := { maxStack := 4, maxLocals := 1, code := jdk_42_method_139_code, exceptionTable := #[], attributes := #[] }
def k7m6 : Method := { name := "valueOf", desc := "(C)Ljava/lang/String;", sig := { parameters := [.char], returnType := some (.object "java/lang/String") }, accessFlags := 9, code := some k7c6 }
def k7c7 : Code := { maxStack := 5, maxLocals := 4, code := jdk_42_method_147_code, exceptionTable := #[], attributes := #[] }
def k7m7 : Method := { name := "getBytes", desc := "([BIB)V", sig := { parameters := [(.array .byte), .int, .byte], returnType := none }, accessFlags := 0, code := some k7c7 }
def k7c8 : Code := { maxStack := 4, maxLocals := 6, code := jdk_42_method_149_code, exceptionTable := #[], attributes := #[] }
def k7m8 : Method := { name := "<init>", desc := "([CIILjava/lang/Void;)V", sig := { parameters := [(.array .char), .int, .int, (.object "java/lang/Void")], returnType := none }, accessFlags := 2, code := some k7c8 }
def k7c9 : Code := { maxStack := 5, maxLocals := 5, code := jdk_42_method_150_code, exceptionTable := #[], attributes := #[] }
def k7m9 : Method := { name := "<init>", desc := "(Ljava/lang/AbstractStringBuilder;Ljava/lang/Void;)V", sig := { parameters := [(.object "java/lang/AbstractStringBuilder"), (.object "java/lang/Void")], returnType := none }, accessFlags := 0, code := some k7c9 }
def k7c10 : Code := { maxStack := 2, maxLocals := 3, code := jdk_42_method_151_code, exceptionTable := #[], attributes := #[] }
def k7m10 : Method := { name := "<init>", desc := "([BB)V", sig := { parameters := [(.array .byte), .byte], returnType := none }, accessFlags := 0, code := some k7c10 }
def k7c11 : Code := { maxStack := 1, maxLocals := 1, code := jdk_42_method_152_code, exceptionTable := #[], attributes := #[] }
def k7m11 : Method := { name := "coder", desc := "()B", sig := { parameters := [], returnType := some .byte }, accessFlags := 0, code := some k7c11 }
def k7c12 : Code := { maxStack := 1, maxLocals := 1, code := jdk_42_method_154_code, exceptionTable := #[], attributes := #[] }
def k7m12 : Method := { name := "isLatin1", desc := "()Z", sig := { parameters := [], returnType := some .boolean }, accessFlags := 0, code := some k7c12 }
def k7c13 : Code := { maxStack := 3, maxLocals := 2, code := jdk_42_method_155_code, exceptionTable := #[], attributes := #[] }
def k7m13 : Method := { name := "checkIndex", desc := "(II)V", sig := { parameters := [.int, .int], returnType := none }, accessFlags := 8, code := some k7c13 }
def k7c14 : Code := { maxStack := 4, maxLocals := 3, code := jdk_42_method_157_code, exceptionTable := #[], attributes := #[] }
def k7m14 : Method := { name := "checkBoundsOffCount", desc := "(III)I", sig := { parameters := [.int, .int, .int], returnType := some .int }, accessFlags := 8, code := some k7c14 }
/-- java/lang/String -/
def k7 : Class := { plain "java/lang/String" (some 0) with
  accessFlags := 49
  interfaces := #[2, 3, 4, 5, 6]
  cf := some (fileOf pool7 10 #[.nestMembers #[1103]] #[{ accessFlags := 1, nameIndex := 5, descriptorIndex := 6, attributes := #[] }, { accessFlags := 1, nameIndex := 5, descriptorIndex := 1010, attributes := #[] }, { accessFlags := 1, nameIndex := 5, descriptorIndex := 1233, attributes := #[] }, { accessFlags := 1, nameIndex := 507, descriptorIndex := 334, attributes := #[] }, { accessFlags := 1, nameIndex := 497, descriptorIndex := 427, attributes := #[] }, { accessFlags := 1, nameIndex := 543, descriptorIndex := 573, attributes := #[] }, { accessFlags := 9, nameIndex := 782, descriptorIndex := 783, attributes := #[] }, { accessFlags := 0, nameIndex := 532, descriptorIndex := 821, attributes := #[] }, { accessFlags := 2, nameIndex := 5, descriptorIndex := 29, attributes := #[] }, { accessFlags := 0, nameIndex := 5, descriptorIndex := 491, attributes := #[] }, { accessFlags := 0, nameIndex := 5, descriptorIndex := 211, attributes := #[] }, { accessFlags := 0, nameIndex := 17, descriptorIndex := 337, attributes := #[] }, { accessFlags := 0, nameIndex := 494, descriptorIndex := 142, attributes := #[] }, { accessFlags := 8, nameIndex := 501, descriptorIndex := 391, attributes := #[] }, { accessFlags := 8, nameIndex := 36, descriptorIndex := 37, attributes := #[] }] 49 2 #[1106, 1108, 575, 1110, 1112] #[{ accessFlags := 18, nameIndex := 13, descriptorIndex := 14, attributes := #[] }, { accessFlags := 18, nameIndex := 17, descriptorIndex := 18, attributes := #[] }, { accessFlags := 2, nameIndex := 21, descriptorIndex := 22, attributes := #[] }, { accessFlags := 2, nameIndex := 25, descriptorIndex := 26, attributes := #[] }, { accessFlags := 26, nameIndex := 1116, descriptorIndex := 1117, attributes := #[] }, { accessFlags := 24, nameIndex := 40, descriptorIndex := 26, attributes := #[] }, { accessFlags := 26, nameIndex := 1101, descriptorIndex := 1102, attributes := #[] }, { accessFlags := 26, nameIndex := 1121, descriptorIndex := 1122, attributes := #[] }, { accessFlags := 25, nameIndex := 599, descriptorIndex := 600, attributes := #[] }, { accessFlags := 24, nameIndex := 1125, descriptorIndex := 18, attributes := #[] }, { accessFlags := 24, nameIndex := 1127, descriptorIndex := 18, attributes := #[] }])
  fields := #[{ name := "value", type := (.array .byte), accessFlags := 18, slot := 0, constantValue := 0 }, { name := "coder", type := .byte, accessFlags := 18, slot := 1, constantValue := 0 }, { name := "hash", type := .int, accessFlags := 2, slot := 2, constantValue := 0 }, { name := "hashIsZero", type := .boolean, accessFlags := 2, slot := 3, constantValue := 0 }, { name := "serialVersionUID", type := .long, accessFlags := 26, slot := 0, constantValue := 0 }, { name := "COMPACT_STRINGS", type := .boolean, accessFlags := 24, slot := 1, constantValue := 0 }, { name := "serialPersistentFields", type := (.array (.object "java/io/ObjectStreamField")), accessFlags := 26, slot := 2, constantValue := 0 }, { name := "REPL", type := .char, accessFlags := 26, slot := 3, constantValue := 0 }, { name := "CASE_INSENSITIVE_ORDER", type := (.object "java/util/Comparator"), accessFlags := 25, slot := 4, constantValue := 0 }, { name := "LATIN1", type := .byte, accessFlags := 24, slot := 5, constantValue := 0 }, { name := "UTF16", type := .byte, accessFlags := 24, slot := 6, constantValue := 0 }]
  methods := #[k7m0, k7m1, k7m2, k7m3, k7m4, k7m5, k7m6, k7m7, k7m8, k7m9, k7m10, k7m11, k7m12, k7m13, k7m14]
  instanceTypes := #[(.array .byte), .byte, .int, .boolean]
  staticTypes := #[.long, .boolean, (.array (.object "java/io/ObjectStreamField")), .char, (.object "java/util/Comparator"), .byte, .byte]
  resolved := Array.replicate 1451 none
  statics := some 0 }

def pool8 : Array CpInfo := pool [(3, .class_ 4), (0, u "java/lang/String"), (1, .class_ 8), (1, u "java/lang/Object"), (0, u "<init>"), (0, u "()V"), (0, .methodref 12 13), (0, .class_ 14), (0, .nameAndType 15 16), (0, u "java/lang/StringUTF16"), (0, u "newBytesLength"), (0, u "(I)I"), (3, .integer 1073741823), (23, .fieldref 12 45), (0, .nameAndType 46 47), (0, u "$assertionsDisabled"), (0, u "Z"), (0, .methodref 12 49), (0, .nameAndType 50 51), (0, u "length"), (0, u "([B)I"), (7, .fieldref 12 60), (0, .nameAndType 61 62), (0, u "HI_BYTE_SHIFT"), (0, u "I"), (0, .fieldref 12 64), (0, .nameAndType 65 62), (0, u "LO_BYTE_SHIFT"), (1, .methodref 12 68), (0, .nameAndType 69 70), (0, u "checkIndex"), (0, u "(I[B)V"), (0, .methodref 12 72), (0, .nameAndType 73 74), (0, u "getChar"), (0, u "([BI)C"), (24, u "(II[B)V"), (7, .methodref 12 108), (0, .nameAndType 109 110), (0, u "newBytesFor"), (0, u "(I)[B"), (0, .methodref 12 112), (0, .nameAndType 113 114), (0, u "putChar"), (0, u "([BII)V"), (0, .methodref 12 116), (0, .nameAndType 117 118), (0, u "compress"), (0, u "([CI[BII)I"), (0, .methodref 12 120), (0, .nameAndType 121 122), (0, u "toBytes"), (0, u "([CII)[B"), (17, u "inflate"), (0, u "([BI[BII)V"), (31, .methodref 12 174), (0, .nameAndType 175 99), (0, u "checkBoundsOffCount"), (85, u "coderFromArrayLen"), (0, u "([BI)B"), (18, u "(III)I"), (87, .class_ 371), (1, u "java/lang/StringUTF16$LinesSpliterator"), (20, u "charAt"), (21, .methodref 3 415), (0, .nameAndType 69 416), (0, u "(II)V"), (2, .methodref 3 420), (0, .nameAndType 175 281), (9, u "MAX_LENGTH"), (44, u "(C)[B"), (151, .class_ 628), (0, u "java/lang/StringUTF16$CodePointsSpliterator"), (0, .class_ 630), (0, u "java/lang/StringUTF16$CharsSpliterator")] 4

def k8m0 : Method := { name := "<init>", desc := "()V", sig := { parameters := [], returnType := none }, accessFlags := 0, code := none }
def k8c1 : Code := { maxStack := 1, maxLocals := 1, code := jdk_52_method_2_code, exceptionTable := #[], attributes := #[] }
def k8m1 : Method := { name := "newBytesFor", desc := "(I)[B", sig := { parameters := [.int], returnType := some (.array .byte) }, accessFlags := 9, code := some k8c1 }
def k8c2 : Code := { maxStack := 4, maxLocals := 1, code := jdk_52_method_3_code, exceptionTable := #[], attributes := #[] }
def k8m2 : Method := { name := "newBytesLength", desc := "(I)I", sig := { parameters := [.int], returnType := some .int }, accessFlags := 9, code := some k8c2 }
def k8c3 : Code := { maxStack := 4, maxLocals := 3, code := jdk_52_method_4_code, exceptionTable := #[], attributes := #[] }
def k8m3 : Method := { name := "putChar", desc := "([BII)V", sig := { parameters := [(.array .byte), .int, .int], returnType := none }, accessFlags := 8, code := some k8c3 }
def k8c4 : Code := { maxStack := 3, maxLocals := 2, code := jdk_52_method_5_code, exceptionTable := #[], attributes := #[] }
def k8m4 : Method := { name := "getChar", desc := "([BI)C", sig := { parameters := [(.array .byte), .int], returnType := some .char }, accessFlags := 8, code := some k8c4 }
def k8c5 : Code := { maxStack := 2, maxLocals := 1, code := jdk_52_method_6_code, exceptionTable := #[], attributes := #[] }
def k8m5 : Method := { name := "length", desc := "([B)I", sig := { parameters := [(.array .byte)], returnType := some .int }, accessFlags := 9, code := some k8c5 }
def k8c6 : Code := { maxStack := 4, maxLocals := 5, code := jdk_52_method_14_code, exceptionTable := #[], attributes := #[] }
def k8m6 : Method := { name := "toBytes", desc := "([CII)[B", sig := { parameters := [(.array .char), .int, .int], returnType := some (.array .byte) }, accessFlags := 9, code := some k8c6 }
def k8c7 : Code := { maxStack := 2, maxLocals := 2, code := jdk_52_method_15_code, exceptionTable := #[], attributes := #[] }
def k8m7 : Method := { name := "coderFromArrayLen", desc := "([BI)B", sig := { parameters := [(.array .byte), .int], returnType := some .byte }, accessFlags := 8, code := some k8c7 }
def k8c8 : Code := { maxStack := 5, maxLocals := 6, code := jdk_52_method_16_code, exceptionTable := #[], attributes := #[] }
def k8m8 : Method := { name := "compress", desc := "([CII)[B", sig := { parameters := [(.array .char), .int, .int], returnType := some (.array .byte) }, accessFlags := 9, code := some k8c8 }
def k8c9 : Code := { maxStack := 3, maxLocals := 7, code := jdk_52_method_21_code, exceptionTable := #[], attributes := #[] }
def k8m9 : Method := { name := "compress", desc := "([CI[BII)I", sig := { parameters := [(.array .char), .int, (.array .byte), .int, .int], returnType := some .int }, accessFlags := 9, code := some k8c9 }
def k8c10 : Code := { maxStack := 3, maxLocals := 2, code := jdk_52_method_24_code, exceptionTable := #[], attributes := #[] }
def k8m10 : Method := { name := "toBytes", desc := "(C)[B", sig := { parameters := [.char], returnType := some (.array .byte) }, accessFlags := 9, code := some k8c10 }
def k8c11 : Code := { maxStack := 2, maxLocals := 2, code := jdk_52_method_83_code, exceptionTable := #[], attributes := #[] }
def k8m11 : Method := { name := "charAt", desc := "([BI)C", sig := { parameters := [(.array .byte), .int], returnType := some .char }, accessFlags := 9, code := some k8c11 }
def k8c12 : Code := { maxStack := 4, maxLocals := 6, code := jdk_52_method_86_code, exceptionTable := #[], attributes := #[] }
def k8m12 : Method := { name := "inflate", desc := "([BI[BII)V", sig := { parameters := [(.array .byte), .int, (.array .byte), .int, .int], returnType := none }, accessFlags := 9, code := some k8c12 }
def k8c13 : Code := { maxStack := 2, maxLocals := 2, code := jdk_52_method_91_code, exceptionTable := #[], attributes := #[] }
def k8m13 : Method := { name := "checkIndex", desc := "(I[B)V", sig := { parameters := [.int, (.array .byte)], returnType := none }, accessFlags := 9, code := some k8c13 }
def k8c14 : Code := { maxStack := 3, maxLocals := 3, code := jdk_52_method_94_code, exceptionTable := #[], attributes := #[] }
def k8m14 : Method := { name := "checkBoundsOffCount", desc := "(II[B)V", sig := { parameters := [.int, .int, (.array .byte)], returnType := none }, accessFlags := 9, code := some k8c14 }
/-- java/lang/StringUTF16 -/
def k8 : Class := { plain "java/lang/StringUTF16" (some 0) with
  accessFlags := 48
  interfaces := #[]
  cf := some (fileOf pool8 12 #[.nestMembers #[627, 629, 369]] #[{ accessFlags := 0, nameIndex := 9, descriptorIndex := 10, attributes := #[] }, { accessFlags := 9, nameIndex := 109, descriptorIndex := 110, attributes := #[] }, { accessFlags := 9, nameIndex := 15, descriptorIndex := 16, attributes := #[] }, { accessFlags := 8, nameIndex := 113, descriptorIndex := 114, attributes := #[] }, { accessFlags := 8, nameIndex := 73, descriptorIndex := 74, attributes := #[] }, { accessFlags := 9, nameIndex := 50, descriptorIndex := 51, attributes := #[] }, { accessFlags := 9, nameIndex := 121, descriptorIndex := 122, attributes := #[] }, { accessFlags := 8, nameIndex := 261, descriptorIndex := 262, attributes := #[] }, { accessFlags := 9, nameIndex := 117, descriptorIndex := 122, attributes := #[] }, { accessFlags := 9, nameIndex := 117, descriptorIndex := 118, attributes := #[] }, { accessFlags := 9, nameIndex := 121, descriptorIndex := 475, attributes := #[] }, { accessFlags := 9, nameIndex := 392, descriptorIndex := 74, attributes := #[] }, { accessFlags := 9, nameIndex := 140, descriptorIndex := 141, attributes := #[] }, { accessFlags := 9, nameIndex := 69, descriptorIndex := 70, attributes := #[] }, { accessFlags := 9, nameIndex := 175, descriptorIndex := 99, attributes := #[] }] 48 6 #[] #[{ accessFlags := 26, nameIndex := 61, descriptorIndex := 62, attributes := #[] }, { accessFlags := 26, nameIndex := 65, descriptorIndex := 62, attributes := #[] }, { accessFlags := 24, nameIndex := 430, descriptorIndex := 62, attributes := #[] }, { accessFlags := 4120, nameIndex := 46, descriptorIndex := 47, attributes := #[] }])
  fields := #[{ name := "HI_BYTE_SHIFT", type := .int, accessFlags := 26, slot := 0, constantValue := 0 }, { name := "LO_BYTE_SHIFT", type := .int, accessFlags := 26, slot := 1, constantValue := 0 }, { name := "MAX_LENGTH", type := .int, accessFlags := 24, slot := 2, constantValue := 0 }, { name := "$assertionsDisabled", type := .boolean, accessFlags := 4120, slot := 3, constantValue := 0 }]
  methods := #[k8m0, k8m1, k8m2, k8m3, k8m4, k8m5, k8m6, k8m7, k8m8, k8m9, k8m10, k8m11, k8m12, k8m13, k8m14]
  instanceTypes := #[]
  staticTypes := #[.int, .int, .int, .boolean]
  resolved := Array.replicate 635 none
  statics := some 1 }

def pool9 : Array CpInfo := pool [(1, .methodref 2 3), (0, .class_ 4), (0, .nameAndType 5 6), (0, u "java/lang/Object"), (0, u "<init>"), (0, u "()V"), (0, .fieldref 8 9), (0, .class_ 10), (0, .nameAndType 11 12), (0, u "java/lang/Throwable"), (0, u "cause"), (0, u "Ljava/lang/Throwable;"), (0, .fieldref 8 14), (0, .nameAndType 15 16), (0, u "UNASSIGNED_STACK"), (0, u "[Ljava/lang/StackTraceElement;"), (0, .fieldref 8 18), (0, .nameAndType 19 16), (0, u "stackTrace"), (0, .fieldref 8 21), (0, .nameAndType 22 23), (0, u "SUPPRESSED_SENTINEL"), (0, u "Ljava/util/List;"), (0, .fieldref 8 25), (0, .nameAndType 26 23), (0, u "suppressedExceptions"), (0, .methodref 8 28), (0, .nameAndType 29 30), (0, u "fillInStackTrace"), (0, u "()Ljava/lang/Throwable;"), (0, .fieldref 8 32), (0, .nameAndType 33 34), (0, u "detailMessage"), (0, u "Ljava/lang/String;"), (3, u "()Ljava/lang/String;"), (2, u "getMessage"), (51, .class_ 94), (0, u "java/lang/Throwable$WrappedPrintStream"), (6, .class_ 103), (1, u "java/lang/Throwable$PrintStreamOrWriter"), (61, u "$assertionsDisabled"), (0, u "Z"), (26, .class_ 194), (0, u "java/lang/Throwable$WrappedPrintWriter"), (3, .fieldref 8 199), (0, .nameAndType 200 201), (0, u "backtrace"), (0, u "Ljava/lang/Object;"), (0, .methodref 8 203), (0, .nameAndType 29 204), (0, u "(I)Ljava/lang/Throwable;"), (6, u "depth"), (0, u "I"), (10, u "(Ljava/lang/String;)V"), (45, .class_ 271), (1, u "java/lang/Throwable$SentinelHolder"), (32, u "EMPTY_THROWABLE_ARRAY"), (0, u "[Ljava/lang/Throwable;"), (12, .class_ 319), (0, u "java/io/Serializable"), (0, u "serialVersionUID"), (0, u "J"), (5, u "NULL_CAUSE_MESSAGE"), (0, u "SELF_SUPPRESSION_MESSAGE"), (0, u "CAUSE_CAPTION"), (0, u "SUPPRESSED_CAPTION")] 73

def k9c0 : Code := { maxStack := 2, maxLocals := 1, code := jdk_78_method_1_code, exceptionTable := #[], attributes := #[] }
def k9m0 : Method := { name := "<init>", desc := "()V", sig := { parameters := [], returnType := none }, accessFlags := 1, code := some k9c0 }
def k9c1 : Code := { maxStack := 2, maxLocals := 2, code := jdk_78_method_2_code, exceptionTable := #[], attributes := #[] }
def k9m1 : Method := { name := "<init>", desc := "(Ljava/lang/String;)V", sig := { parameters := [(.object "java/lang/String")], returnType := none }, accessFlags := 1, code := some k9c1 }
def k9c2 : Code := { maxStack := 1, maxLocals := 1, code := jdk_78_method_6_code, exceptionTable := #[], attributes := #[] }
def k9m2 : Method := { name := "getMessage", desc := "()Ljava/lang/String;", sig := { parameters := [], returnType := some (.object "java/lang/String") }, accessFlags := 1, code := some k9c2 }
def k9c3 : Code := { maxStack := 2, maxLocals := 1, code := ⟨#[0x2a, 0xb4, 0x00, 0x11, 0xc7, 0x00, 0x0a, 0x2a, 0xb4, 0x00, 0xc6, 0xc6, 0x00, 0x10, 0x2a, 0x03, 0xb6, 0x00, 0xca, 0x57, 0x2a, 0xb2, 0x00, 0x0d, 0xb5, 0x00, 0x11, 0x2a, 0xb0]⟩, exceptionTable := #[], attributes := #[] }
def k9m3 : Method := { name := "fillInStackTrace", desc := "()Ljava/lang/Throwable;", sig := { parameters := [], returnType := some (.object "java/lang/Throwable") }, accessFlags := 33, code := some k9c3 }
def k9m4 : Method := { name := "fillInStackTrace", desc := "(I)Ljava/lang/Throwable;", sig := { parameters := [.int], returnType := some (.object "java/lang/Throwable") }, accessFlags := 258, code := none }
/-- java/lang/Throwable -/
def k9 : Class := { plain "java/lang/Throwable" (some 0) with
  accessFlags := 33
  interfaces := #[2]
  cf := some (fileOf pool9 8 #[.nestMembers #[193, 93, 101, 269]] #[{ accessFlags := 1, nameIndex := 5, descriptorIndex := 6, attributes := #[] }, { accessFlags := 1, nameIndex := 5, descriptorIndex := 223, attributes := #[] }, { accessFlags := 1, nameIndex := 41, descriptorIndex := 38, attributes := #[] }, { accessFlags := 33, nameIndex := 29, descriptorIndex := 30, attributes := #[] }, { accessFlags := 258, nameIndex := 29, descriptorIndex := 204, attributes := #[] }] 33 2 #[318] #[{ accessFlags := 26, nameIndex := 320, descriptorIndex := 321, attributes := #[] }, { accessFlags := 130, nameIndex := 200, descriptorIndex := 201, attributes := #[] }, { accessFlags := 2, nameIndex := 33, descriptorIndex := 34, attributes := #[] }, { accessFlags := 26, nameIndex := 15, descriptorIndex := 16, attributes := #[] }, { accessFlags := 2, nameIndex := 11, descriptorIndex := 12, attributes := #[] }, { accessFlags := 2, nameIndex := 19, descriptorIndex := 16, attributes := #[] }, { accessFlags := 130, nameIndex := 211, descriptorIndex := 212, attributes := #[] }, { accessFlags := 26, nameIndex := 22, descriptorIndex := 23, attributes := #[] }, { accessFlags := 2, nameIndex := 26, descriptorIndex := 23, attributes := #[] }, { accessFlags := 26, nameIndex := 327, descriptorIndex := 34, attributes := #[] }, { accessFlags := 26, nameIndex := 328, descriptorIndex := 34, attributes := #[] }, { accessFlags := 26, nameIndex := 329, descriptorIndex := 34, attributes := #[] }, { accessFlags := 26, nameIndex := 330, descriptorIndex := 34, attributes := #[] }, { accessFlags := 26, nameIndex := 304, descriptorIndex := 305, attributes := #[] }, { accessFlags := 4120, nameIndex := 165, descriptorIndex := 166, attributes := #[] }])
  fields := #[{ name := "serialVersionUID", type := .long, accessFlags := 26, slot := 0, constantValue := 0 }, { name := "backtrace", type := (.object "java/lang/Object"), accessFlags := 130, slot := 0, constantValue := 0 }, { name := "detailMessage", type := (.object "java/lang/String"), accessFlags := 2, slot := 1, constantValue := 0 }, { name := "UNASSIGNED_STACK", type := (.array (.object "java/lang/StackTraceElement")), accessFlags := 26, slot := 1, constantValue := 0 }, { name := "cause", type := (.object "java/lang/Throwable"), accessFlags := 2, slot := 2, constantValue := 0 }, { name := "stackTrace", type := (.array (.object "java/lang/StackTraceElement")), accessFlags := 2, slot := 3, constantValue := 0 }, { name := "depth", type := .int, accessFlags := 130, slot := 4, constantValue := 0 }, { name := "SUPPRESSED_SENTINEL", type := (.object "java/util/List"), accessFlags := 26, slot := 2, constantValue := 0 }, { name := "suppressedExceptions", type := (.object "java/util/List"), accessFlags := 2, slot := 5, constantValue := 0 }, { name := "NULL_CAUSE_MESSAGE", type := (.object "java/lang/String"), accessFlags := 26, slot := 3, constantValue := 0 }, { name := "SELF_SUPPRESSION_MESSAGE", type := (.object "java/lang/String"), accessFlags := 26, slot := 4, constantValue := 0 }, { name := "CAUSE_CAPTION", type := (.object "java/lang/String"), accessFlags := 26, slot := 5, constantValue := 0 }, { name := "SUPPRESSED_CAPTION", type := (.object "java/lang/String"), accessFlags := 26, slot := 6, constantValue := 0 }, { name := "EMPTY_THROWABLE_ARRAY", type := (.array (.object "java/lang/Throwable")), accessFlags := 26, slot := 7, constantValue := 0 }, { name := "$assertionsDisabled", type := .boolean, accessFlags := 4120, slot := 8, constantValue := 0 }]
  methods := #[k9m0, k9m1, k9m2, k9m3, k9m4]
  instanceTypes := #[(.object "java/lang/Object"), (.object "java/lang/String"), (.object "java/lang/Throwable"), (.array (.object "java/lang/StackTraceElement")), .int, (.object "java/util/List")]
  staticTypes := #[.long, (.array (.object "java/lang/StackTraceElement")), (.object "java/util/List"), (.object "java/lang/String"), (.object "java/lang/String"), (.object "java/lang/String"), (.object "java/lang/String"), (.array (.object "java/lang/Throwable")), .boolean]
  resolved := Array.replicate 404 none
  statics := some 2 }

def pool10 : Array CpInfo := pool [(2, .class_ 4), (1, u "java/lang/Throwable"), (0, u "<init>"), (0, u "()V"), (0, .methodref 2 8), (0, .nameAndType 5 9), (0, u "(Ljava/lang/String;)V"), (9, .class_ 20), (0, u "java/lang/Exception"), (0, u "serialVersionUID"), (0, u "J")] 17

def k10m0 : Method := { name := "<init>", desc := "()V", sig := { parameters := [], returnType := none }, accessFlags := 1, code := none }
def k10c1 : Code := { maxStack := 2, maxLocals := 2, code := jdk_59_method_2_code, exceptionTable := #[], attributes := #[] }
def k10m1 : Method := { name := "<init>", desc := "(Ljava/lang/String;)V", sig := { parameters := [(.object "java/lang/String")], returnType := none }, accessFlags := 1, code := some k10c1 }
/-- java/lang/Exception -/
def k10 : Class := { plain "java/lang/Exception" (some 9) with
  accessFlags := 33
  interfaces := #[]
  cf := some (fileOf pool10 19 #[] #[{ accessFlags := 1, nameIndex := 5, descriptorIndex := 6, attributes := #[] }, { accessFlags := 1, nameIndex := 5, descriptorIndex := 9, attributes := #[] }] 33 2 #[] #[{ accessFlags := 24, nameIndex := 21, descriptorIndex := 22, attributes := #[] }])
  fields := #[{ name := "serialVersionUID", type := .long, accessFlags := 24, slot := 0, constantValue := 0 }]
  methods := #[k10m0, k10m1]
  instanceTypes := #[(.object "java/lang/Object"), (.object "java/lang/String"), (.object "java/lang/Throwable"), (.array (.object "java/lang/StackTraceElement")), .int, (.object "java/util/List")]
  staticTypes := #[.long]
  resolved := Array.replicate 40 none
  statics := none }

def pool11 : Array CpInfo := pool [(1, .methodref 2 3), (0, .class_ 4), (0, .nameAndType 5 6), (0, u "java/lang/Exception"), (0, u "<init>"), (0, u "(Ljava/lang/String;)V"), (0, .class_ 8), (0, u "com/example/fate_of_jobs/fateofjobs/conformance/CaseFormatException"), (0, .class_ 10), (0, u "java/lang/StringBuilder"), (0, .methodref 9 12), (0, .nameAndType 5 13), (0, u "()V"), (0, .methodref 9 15), (0, .nameAndType 16 17), (0, u "append"), (0, u "(Ljava/lang/String;)Ljava/lang/StringBuilder;"), (0, .string 19), (0, u ": "), (0, .methodref 7 21), (0, .nameAndType 22 23), (0, u "getMessage"), (0, u "()Ljava/lang/String;"), (0, .methodref 9 25), (0, .nameAndType 26 23), (0, u "toString"), (0, .methodref 7 3), (0, u "serialVersionUID"), (0, u "J"), (5, u "within"), (0, u "(Ljava/lang/String;)Lcom/example/fate_of_jobs/fateofjobs/conformance/CaseFormatException;")] 2

def k11c0 : Code := { maxStack := 2, maxLocals := 2, code := prog_4_method_1_code, exceptionTable := #[], attributes := #[] }
def k11m0 : Method := { name := "<init>", desc := "(Ljava/lang/String;)V", sig := { parameters := [(.object "java/lang/String")], returnType := none }, accessFlags := 0, code := some k11c0 }
def k11c1 : Code := { maxStack := 4, maxLocals := 2, code := prog_4_method_2_code, exceptionTable := #[], attributes := #[] }
def k11m1 : Method := { name := "within", desc := "(Ljava/lang/String;)Lcom/example/fate_of_jobs/fateofjobs/conformance/CaseFormatException;", sig := { parameters := [(.object "java/lang/String")], returnType := some (.object "com/example/fate_of_jobs/fateofjobs/conformance/CaseFormatException") }, accessFlags := 0, code := some k11c1 }
/-- com/example/fate_of_jobs/fateofjobs/conformance/CaseFormatException -/
def k11 : Class := { plain "com/example/fate_of_jobs/fateofjobs/conformance/CaseFormatException" (some 10) with
  accessFlags := 49
  interfaces := #[]
  cf := some (fileOf pool11 7 #[] #[{ accessFlags := 0, nameIndex := 5, descriptorIndex := 6, attributes := #[] }, { accessFlags := 0, nameIndex := 35, descriptorIndex := 36, attributes := #[] }] 49 2 #[] #[{ accessFlags := 26, nameIndex := 28, descriptorIndex := 29, attributes := #[] }])
  fields := #[{ name := "serialVersionUID", type := .long, accessFlags := 26, slot := 0, constantValue := 0 }]
  methods := #[k11m0, k11m1]
  instanceTypes := #[(.object "java/lang/Object"), (.object "java/lang/String"), (.object "java/lang/Throwable"), (.array (.object "java/lang/StackTraceElement")), .int, (.object "java/util/List")]
  staticTypes := #[.long]
  resolved := Array.replicate 39 none
  statics := none }

def pool12 : Array CpInfo := pool [(1, .class_ 2), (0, u "java/lang/Appendable"), (0, .class_ 4), (0, u "java/lang/Object")] 9

/-- java/lang/Appendable -/
def k12 : Class := { plain "java/lang/Appendable" (some 0) with
  accessFlags := 1537
  interfaces := #[]
  cf := some (fileOf pool12 1 #[] #[] 1537 3 #[] #[])
  fields := #[]
  methods := #[]
  instanceTypes := #[]
  staticTypes := #[]
  resolved := Array.replicate 14 none
  statics := none }

def pool13 : Array CpInfo := pool [(1, .class_ 2), (0, u "java/lang/String"), (0, .methodref 4 5), (0, .class_ 6), (0, .nameAndType 7 8), (0, u "java/lang/Object"), (0, u "<init>"), (0, u "()V"), (1, .class_ 12), (1, u "java/lang/AbstractStringBuilder"), (0, u "EMPTYVALUE"), (0, u "[B"), (0, .fieldref 10 16), (0, .nameAndType 17 14), (0, u "value"), (0, .fieldref 1 19), (0, .nameAndType 20 21), (0, u "COMPACT_STRINGS"), (0, u "Z"), (0, .fieldref 10 23), (0, .nameAndType 24 25), (0, u "coder"), (0, u "B"), (0, .methodref 27 28), (0, .class_ 29), (0, .nameAndType 30 31), (0, u "java/lang/StringUTF16"), (0, u "newBytesFor"), (0, u "(I)[B"), (0, .methodref 1 33), (0, .nameAndType 34 35), (0, u "length"), (0, u "()I"), (4, .methodref 1 41), (0, .nameAndType 24 42), (0, u "()B"), (2, u "append"), (0, u "(Ljava/lang/String;)Ljava/lang/AbstractStringBuilder;"), (1, .class_ 49), (0, u "java/lang/CharSequence"), (19, u "(Ljava/lang/String;)V"), (5, u "maybeLatin1"), (3, .fieldref 10 80), (0, .nameAndType 81 82), (0, u "count"), (0, u "I"), (0, .methodref 10 84), (0, .nameAndType 85 86), (0, u "isLatin1"), (0, u "()Z"), (1, .class_ 90), (1, u "java/lang/StringLatin1"), (9, .methodref 10 101), (0, .nameAndType 102 103), (0, u "ensureCapacityInternal"), (0, u "(I)V"), (21, .methodref 88 126), (0, .nameAndType 127 128), (0, u "inflate"), (0, u "([BI[BII)V"), (66, .methodref 10 196), (0, .nameAndType 127 8), (11, .methodref 10 209), (0, .nameAndType 210 211), (0, u "putStringAt"), (0, u "(ILjava/lang/String;)V"), (5, u "inflateIfNeededFor"), (2, .nameAndType 221 222), (0, u "getBytes"), (0, u "([BIB)V"), (174, .methodref 10 398), (0, .nameAndType 217 69), (0, .methodref 1 220), (3, u "()[B"), (40, .class_ 445), (0, u "java/lang/Appendable"), (106, u "getValue")] 56

def k13m0 : Method := { name := "<init>", desc := "()V", sig := { parameters := [], returnType := none }, accessFlags := 0, code := none }
def k13c1 : Code := { maxStack := 2, maxLocals := 2, code := jdk_68_method_2_code, exceptionTable := #[], attributes := #[] }
def k13m1 : Method := { name := "<init>", desc := "(I)V", sig := { parameters := [.int], returnType := none }, accessFlags := 0, code := some k13c1 }
def k13c2 : Code := { maxStack := 1, maxLocals := 1, code := jdk_68_method_6_code, exceptionTable := #[], attributes := #[] }
def k13m2 : Method := { name := "length", desc := "()I", sig := { parameters := [], returnType := some .int }, accessFlags := 1, code := some k13c2 }
def k13c3 : Code := { maxStack := 4, maxLocals := 3, code := jdk_68_method_9_code, exceptionTable := #[], attributes := #[] }
def k13m3 : Method := { name := "ensureCapacityInternal", desc := "(I)V", sig := { parameters := [.int], returnType := none }, accessFlags := 2, code := some k13c3 }
def k13c4 : Code := { maxStack := 5, maxLocals := 2, code := jdk_68_method_11_code, exceptionTable := #[], attributes := #[] }
def k13m4 : Method := { name := "inflate", desc := "()V", sig := { parameters := [], returnType := none }, accessFlags := 2, code := some k13c4 }
def k13c5 : Code := { maxStack := 3, maxLocals := 3, code := jdk_68_method_22_code, exceptionTable := #[], attributes := #[] }
def k13m5 : Method := { name := "append", desc := "(Ljava/lang/String;)Ljava/lang/AbstractStringBuilder;", sig := { parameters := [(.object "java/lang/String")], returnType := some (.object "java/lang/AbstractStringBuilder") }, accessFlags := 1, code := some k13c5 }
def k13c6 : Code := { maxStack := 1, maxLocals := 1, code := jdk_68_method_64_code, exceptionTable := #[], attributes := #[] }
def k13m6 : Method := { name := "getValue", desc := "()[B", sig := { parameters := [], returnType := some (.array .byte) }, accessFlags := 16, code := some k13c6 }
def k13c7 : Code := { maxStack := 1, maxLocals := 1, code := jdk_68_method_68_code, exceptionTable := #[], attributes := #[] }
def k13m7 : Method := { name := "isLatin1", desc := "()Z", sig := { parameters := [], returnType := some .boolean }, accessFlags := 16, code := some k13c7 }
def k13c8 : Code := { maxStack := 2, maxLocals := 2, code := jdk_68_method_71_code, exceptionTable := #[], attributes := #[] }
def k13m8 : Method := { name := "inflateIfNeededFor", desc := "(Ljava/lang/String;)V", sig := { parameters := [(.object "java/lang/String")], returnType := none }, accessFlags := 2, code := some k13c8 }
def k13c9 : Code := { maxStack := 4, maxLocals := 3, code := jdk_68_method_73_code, exceptionTable := #[], attributes := #[] }
def k13m9 : Method := { name := "putStringAt", desc := "(ILjava/lang/String;)V", sig := { parameters := [.int, (.object "java/lang/String")], returnType := none }, accessFlags := 2, code := some k13c9 }
/-- java/lang/AbstractStringBuilder -/
def k13 : Class := { plain "java/lang/AbstractStringBuilder" (some 0) with
  accessFlags := 1056
  interfaces := #[12, 4]
  cf := some (fileOf pool13 10 #[] #[{ accessFlags := 0, nameIndex := 7, descriptorIndex := 8, attributes := #[] }, { accessFlags := 0, nameIndex := 7, descriptorIndex := 103, attributes := #[] }, { accessFlags := 1, nameIndex := 34, descriptorIndex := 35, attributes := #[] }, { accessFlags := 2, nameIndex := 102, descriptorIndex := 103, attributes := #[] }, { accessFlags := 2, nameIndex := 127, descriptorIndex := 8, attributes := #[] }, { accessFlags := 1, nameIndex := 45, descriptorIndex := 46, attributes := #[] }, { accessFlags := 16, nameIndex := 552, descriptorIndex := 403, attributes := #[] }, { accessFlags := 16, nameIndex := 85, descriptorIndex := 86, attributes := #[] }, { accessFlags := 2, nameIndex := 217, descriptorIndex := 69, attributes := #[] }, { accessFlags := 2, nameIndex := 210, descriptorIndex := 211, attributes := #[] }] 1056 4 #[444, 48] #[{ accessFlags := 0, nameIndex := 17, descriptorIndex := 14, attributes := #[] }, { accessFlags := 0, nameIndex := 24, descriptorIndex := 25, attributes := #[] }, { accessFlags := 0, nameIndex := 75, descriptorIndex := 21, attributes := #[] }, { accessFlags := 0, nameIndex := 81, descriptorIndex := 82, attributes := #[] }, { accessFlags := 26, nameIndex := 13, descriptorIndex := 14, attributes := #[] }])
  fields := #[{ name := "value", type := (.array .byte), accessFlags := 0, slot := 0, constantValue := 0 }, { name := "coder", type := .byte, accessFlags := 0, slot := 1, constantValue := 0 }, { name := "maybeLatin1", type := .boolean, accessFlags := 0, slot := 2, constantValue := 0 }, { name := "count", type := .int, accessFlags := 0, slot := 3, constantValue := 0 }, { name := "EMPTYVALUE", type := (.array .byte), accessFlags := 26, slot := 0, constantValue := 0 }]
  methods := #[k13m0, k13m1, k13m2, k13m3, k13m4, k13m5, k13m6, k13m7, k13m8, k13m9]
  instanceTypes := #[(.array .byte), .byte, .boolean, .int]
  staticTypes := #[(.array .byte)]
  resolved := Array.replicate 609 none
  statics := none }

def pool14 : Array CpInfo := pool [(1, .methodref 2 3), (0, .class_ 4), (0, .nameAndType 5 6), (0, u "java/lang/AbstractStringBuilder"), (0, u "<init>"), (0, u "(I)V"), (11, .class_ 20), (1, u "java/lang/String"), (3, .class_ 26), (1, u "java/lang/StringBuilder"), (0, u "append"), (0, u "(Ljava/lang/String;)Ljava/lang/StringBuilder;"), (0, .methodref 2 30), (0, .nameAndType 27 31), (0, u "(Ljava/lang/String;)Ljava/lang/AbstractStringBuilder;"), (105, .methodref 18 138), (0, .nameAndType 5 139), (0, u "(Ljava/lang/StringBuilder;)V"), (5, u "()V"), (10, u "()I"), (186, .methodref 2 344), (0, .nameAndType 345 156), (0, u "length"), (3, .class_ 350), (0, u "java/lang/Appendable"), (0, .class_ 352), (0, u "java/io/Serializable"), (0, .class_ 354), (0, u "java/lang/Comparable"), (0, .class_ 356), (0, u "java/lang/CharSequence"), (0, u "serialVersionUID"), (0, u "J"), (40, u "toString"), (0, u "()Ljava/lang/String;")] 21

def k14c0 : Code := { maxStack := 2, maxLocals := 1, code := jdk_67_method_1_code, exceptionTable := #[], attributes := #[] }
def k14m0 : Method := { name := "<init>", desc := "()V", sig := { parameters := [], returnType := none }, accessFlags := 1, code := some k14c0 }
def k14c1 : Code := { maxStack := 2, maxLocals := 2, code := jdk_67_method_7_code, exceptionTable := #[], attributes := #[] }
def k14m1 : Method := { name := "append", desc := "(Ljava/lang/String;)Ljava/lang/StringBuilder;", sig := { parameters := [(.object "java/lang/String")], returnType := some (.object "java/lang/StringBuilder") }, accessFlags := 1, code := some k14c1 }
def k14c2 : Code := { maxStack := 3, maxLocals := 1, code := jdk_67_method_42_code, exceptionTable := #[], attributes := #[] }
def k14m2 : Method := { name := "toString", desc := "()Ljava/lang/String;", sig := { parameters := [], returnType := some (.object "java/lang/String") }, accessFlags := 1, code := some k14c2 }
def k14c3 : Code := { maxStack := 1, maxLocals := 1, code := jdk_67_method_93_code, exceptionTable := #[], attributes := #[] }
def k14m3 : Method := { name := "length", desc := "()I", sig := { parameters := [], returnType := some .int }, accessFlags := 4161, code := some k14c3 }
/-- java/lang/StringBuilder -/
def k14 : Class := { plain "java/lang/StringBuilder" (some 13) with
  accessFlags := 49
  interfaces := #[12, 2, 3, 4]
  cf := some (fileOf pool14 24 #[] #[{ accessFlags := 1, nameIndex := 5, descriptorIndex := 145, attributes := #[] }, { accessFlags := 1, nameIndex := 27, descriptorIndex := 28, attributes := #[] }, { accessFlags := 1, nameIndex := 399, descriptorIndex := 400, attributes := #[] }, { accessFlags := 4161, nameIndex := 345, descriptorIndex := 156, attributes := #[] }] 49 2 #[349, 351, 353, 355] #[{ accessFlags := 24, nameIndex := 357, descriptorIndex := 358, attributes := #[] }])
  fields := #[{ name := "serialVersionUID", type := .long, accessFlags := 24, slot := 0, constantValue := 0 }]
  methods := #[k14m0, k14m1, k14m2, k14m3]
  instanceTypes := #[(.array .byte), .byte, .boolean, .int]
  staticTypes := #[.long]
  resolved := Array.replicate 422 none
  statics := none }

def pool15 : Array CpInfo := pool [(2, .class_ 4), (1, u "java/lang/Object"), (0, u "<init>"), (0, u "()V"), (1, .class_ 10), (1, u "java/lang/System"), (0, u "allowSecurityManager"), (0, u "I"), (16, u "cons"), (0, u "Ljava/io/Console;"), (77, .class_ 110), (1, u "java/lang/System$CallersHolder"), (43, u "initialErrStream"), (0, u "Ljava/io/PrintStream;"), (19, u "security"), (0, u "Ljava/lang/SecurityManager;"), (31, .class_ 209), (0, u "java/lang/System$1"), (7, u "props"), (0, u "Ljava/util/Properties;"), (2, u "lineSeparator"), (0, u "Ljava/lang/String;"), (96, .class_ 321), (1, u "java/lang/System$LoggerFinder"), (5, .class_ 328), (0, u "java/lang/System$Logger"), (67, u "err"), (2, u "out"), (91, u "notSupportedJnuEncoding"), (15, u "in"), (17, u "initialIn"), (0, u "Ljava/io/InputStream;"), (35, u "bootLayer"), (0, u "Ljava/lang/ModuleLayer;"), (99, .class_ 664), (0, u "java/lang/System$2"), (9, u "NEVER"), (2, u "MAYBE"), (49, u "arraycopy"), (0, u "(Ljava/lang/Object;ILjava/lang/Object;II)V"), (72, .class_ 802), (0, u "java/lang/System$Logger$Level")] 31

def k15m0 : Method := { name := "<init>", desc := "()V", sig := { parameters := [], returnType := none }, accessFlags := 2, code := none }
def k15m1 : Method := { name := "arraycopy", desc := "(Ljava/lang/Object;ILjava/lang/Object;II)V", sig := { parameters := [(.object "java/lang/Object"), .int, (.object "java/lang/Object"), .int, .int], returnType := none }, accessFlags := 265, code := none }
/-- java/lang/System -/
def k15 : Class := { plain "java/lang/System" (some 0) with
  accessFlags := 49
  interfaces := #[]
  cf := some (fileOf pool15 8 #[.nestMembers #[319, 327, 801, 108, 663, 208]] #[{ accessFlags := 2, nameIndex := 5, descriptorIndex := 6, attributes := #[] }, { accessFlags := 265, nameIndex := 727, descriptorIndex := 728, attributes := #[] }] 49 2 #[] #[{ accessFlags := 25, nameIndex := 507, descriptorIndex := 526, attributes := #[] }, { accessFlags := 25, nameIndex := 399, descriptorIndex := 155, attributes := #[] }, { accessFlags := 25, nameIndex := 396, descriptorIndex := 155, attributes := #[] }, { accessFlags := 10, nameIndex := 525, descriptorIndex := 526, attributes := #[] }, { accessFlags := 26, nameIndex := 674, descriptorIndex := 12, attributes := #[] }, { accessFlags := 26, nameIndex := 677, descriptorIndex := 12, attributes := #[] }, { accessFlags := 10, nameIndex := 11, descriptorIndex := 12, attributes := #[] }, { accessFlags := 74, nameIndex := 175, descriptorIndex := 176, attributes := #[] }, { accessFlags := 10, nameIndex := 491, descriptorIndex := 222, attributes := #[] }, { accessFlags := 74, nameIndex := 29, descriptorIndex := 30, attributes := #[] }, { accessFlags := 74, nameIndex := 154, descriptorIndex := 155, attributes := #[] }, { accessFlags := 10, nameIndex := 217, descriptorIndex := 218, attributes := #[] }, { accessFlags := 10, nameIndex := 221, descriptorIndex := 222, attributes := #[] }, { accessFlags := 8, nameIndex := 562, descriptorIndex := 563, attributes := #[] }])
  fields := #[{ name := "in", type := (.object "java/io/InputStream"), accessFlags := 25, slot := 0, constantValue := 0 }, { name := "out", type := (.object "java/io/PrintStream"), accessFlags := 25, slot := 1, constantValue := 0 }, { name := "err", type := (.object "java/io/PrintStream"), accessFlags := 25, slot := 2, constantValue := 0 }, { name := "initialIn", type := (.object "java/io/InputStream"), accessFlags := 10, slot := 3, constantValue := 0 }, { name := "NEVER", type := .int, accessFlags := 26, slot := 4, constantValue := 0 }, { name := "MAYBE", type := .int, accessFlags := 26, slot := 5, constantValue := 0 }, { name := "allowSecurityManager", type := .int, accessFlags := 10, slot := 6, constantValue := 0 }, { name := "security", type := (.object "java/lang/SecurityManager"), accessFlags := 74, slot := 7, constantValue := 0 }, { name := "notSupportedJnuEncoding", type := (.object "java/lang/String"), accessFlags := 10, slot := 8, constantValue := 0 }, { name := "cons", type := (.object "java/io/Console"), accessFlags := 74, slot := 9, constantValue := 0 }, { name := "initialErrStream", type := (.object "java/io/PrintStream"), accessFlags := 74, slot := 10, constantValue := 0 }, { name := "props", type := (.object "java/util/Properties"), accessFlags := 10, slot := 11, constantValue := 0 }, { name := "lineSeparator", type := (.object "java/lang/String"), accessFlags := 10, slot := 12, constantValue := 0 }, { name := "bootLayer", type := (.object "java/lang/ModuleLayer"), accessFlags := 8, slot := 13, constantValue := 0 }]
  methods := #[k15m0, k15m1]
  instanceTypes := #[]
  staticTypes := #[(.object "java/io/InputStream"), (.object "java/io/PrintStream"), (.object "java/io/PrintStream"), (.object "java/io/InputStream"), .int, .int, .int, (.object "java/lang/SecurityManager"), (.object "java/lang/String"), (.object "java/io/Console"), (.object "java/io/PrintStream"), (.object "java/util/Properties"), (.object "java/lang/String"), (.object "java/lang/ModuleLayer")]
  resolved := Array.replicate 834 none
  statics := none }

def pool16 : Array CpInfo := pool [(2, .class_ 4), (1, u "java/lang/Object"), (0, u "<init>"), (0, u "()V"), (7, .class_ 16), (1, u "java/util/Arrays"), (57, .class_ 76), (1, u "java/util/Arrays$NaturalOrder"), (36, .class_ 115), (1, u "java/util/Arrays$LegacyMergeSort"), (1, u "Z"), (21, u "copyOfRange"), (10, .methodref 151 152), (0, .class_ 153), (0, .nameAndType 154 155), (0, u "java/lang/System"), (0, u "arraycopy"), (0, u "(Ljava/lang/Object;ILjava/lang/Object;II)V"), (148, .methodref 305 306), (0, .class_ 307), (0, .nameAndType 308 309), (0, u "java/lang/Math"), (0, u "min"), (0, u "(II)I"), (29, .methodref 14 340), (0, .nameAndType 341 342), (0, u "copyOfRangeByte"), (0, u "([BII)[B"), (0, .methodref 14 344), (0, .nameAndType 345 346), (0, u "checkLength"), (0, u "(II)V"), (28, .class_ 376), (0, u "java/util/Arrays$ArrayList"), (68, u "$assertionsDisabled"), (269, u "MIN_ARRAY_SORT_GRAN"), (0, u "I"), (2, u "INSERTIONSORT_THRESHOLD"), (255, .class_ 976), (0, u "java/util/Arrays$ArrayItr")] 52

def k16m0 : Method := { name := "<init>", desc := "()V", sig := { parameters := [], returnType := none }, accessFlags := 2, code := none }
def k16c1 : Code := { maxStack := 4, maxLocals := 2, code := jdk_65_method_131_code, exceptionTable := #[], attributes := #[] }
def k16m1 : Method := { name := "checkLength", desc := "(II)V", sig := { parameters := [.int, .int], returnType := none }, accessFlags := 10, code := some k16c1 }
def k16c2 : Code := { maxStack := 3, maxLocals := 3, code := jdk_65_method_132_code, exceptionTable := #[], attributes := #[] }
def k16m2 : Method := { name := "copyOfRange", desc := "([BII)[B", sig := { parameters := [(.array .byte), .int, .int], returnType := some (.array .byte) }, accessFlags := 9, code := some k16c2 }
def k16c3 : Code := { maxStack := 6, maxLocals := 5, code := jdk_65_method_133_code, exceptionTable := #[], attributes := #[] }
def k16m3 : Method := { name := "copyOfRangeByte", desc := "([BII)[B", sig := { parameters := [(.array .byte), .int, .int], returnType := some (.array .byte) }, accessFlags := 10, code := some k16c3 }
/-- java/util/Arrays -/
def k16 : Class := { plain "java/util/Arrays" (some 0) with
  accessFlags := 49
  interfaces := #[]
  cf := some (fileOf pool16 14 #[.nestMembers #[975, 375, 113, 74]] #[{ accessFlags := 2, nameIndex := 5, descriptorIndex := 6, attributes := #[] }, { accessFlags := 10, nameIndex := 345, descriptorIndex := 346, attributes := #[] }, { accessFlags := 9, nameIndex := 139, descriptorIndex := 342, attributes := #[] }, { accessFlags := 10, nameIndex := 341, descriptorIndex := 342, attributes := #[] }] 49 2 #[] #[{ accessFlags := 26, nameIndex := 715, descriptorIndex := 716, attributes := #[] }, { accessFlags := 26, nameIndex := 719, descriptorIndex := 716, attributes := #[] }, { accessFlags := 4120, nameIndex := 445, descriptorIndex := 117, attributes := #[] }])
  fields := #[{ name := "MIN_ARRAY_SORT_GRAN", type := .int, accessFlags := 26, slot := 0, constantValue := 0 }, { name := "INSERTIONSORT_THRESHOLD", type := .int, accessFlags := 26, slot := 1, constantValue := 0 }, { name := "$assertionsDisabled", type := .boolean, accessFlags := 4120, slot := 2, constantValue := 0 }]
  methods := #[k16m0, k16m1, k16m2, k16m3]
  instanceTypes := #[]
  staticTypes := #[.int, .int, .boolean]
  resolved := Array.replicate 1029 none
  statics := none }

def pool17 : Array CpInfo := pool [(1, .class_ 2), (0, u "java/lang/Math"), (1, .class_ 6), (1, u "java/lang/Object"), (0, u "<init>"), (0, u "()V"), (89, .class_ 100), (1, u "java/lang/Math$RandomNumberGeneratorHolder"), (71, u "negativeZeroFloatBits"), (0, u "J"), (2, u "negativeZeroDoubleBits"), (24, u "min"), (43, u "$assertionsDisabled"), (0, u "Z"), (88, u "(II)I"), (2, u "twoToTheDoubleScaleDown"), (0, u "D"), (4, u "twoToTheDoubleScaleUp"), (9, u "E"), (3, u "PI"), (2, u "TAU"), (2, u "DEGREES_TO_RADIANS"), (0, u "RADIANS_TO_DEGREES")] 94

def k17m0 : Method := { name := "<init>", desc := "()V", sig := { parameters := [], returnType := none }, accessFlags := 2, code := none }
def k17c1 : Code := { maxStack := 2, maxLocals := 2, code := jdk_29_method_69_code, exceptionTable := #[], attributes := #[] }
def k17m1 : Method := { name := "min", desc := "(II)I", sig := { parameters := [.int, .int], returnType := some .int }, accessFlags := 9, code := some k17c1 }
/-- java/lang/Math -/
def k17 : Class := { plain "java/lang/Math" (some 0) with
  accessFlags := 49
  interfaces := #[]
  cf := some (fileOf pool17 1 #[.nestMembers #[98]] #[{ accessFlags := 2, nameIndex := 7, descriptorIndex := 8, attributes := #[] }, { accessFlags := 9, nameIndex := 201, descriptorIndex := 335, attributes := #[] }] 49 4 #[] #[{ accessFlags := 25, nameIndex := 354, descriptorIndex := 339, attributes := #[] }, { accessFlags := 25, nameIndex := 358, descriptorIndex := 339, attributes := #[] }, { accessFlags := 25, nameIndex := 361, descriptorIndex := 339, attributes := #[] }, { accessFlags := 26, nameIndex := 364, descriptorIndex := 339, attributes := #[] }, { accessFlags := 26, nameIndex := 365, descriptorIndex := 339, attributes := #[] }, { accessFlags := 26, nameIndex := 172, descriptorIndex := 173, attributes := #[] }, { accessFlags := 26, nameIndex := 176, descriptorIndex := 173, attributes := #[] }, { accessFlags := 8, nameIndex := 344, descriptorIndex := 339, attributes := #[] }, { accessFlags := 8, nameIndex := 338, descriptorIndex := 339, attributes := #[] }, { accessFlags := 4120, nameIndex := 245, descriptorIndex := 246, attributes := #[] }])
  fields := #[{ name := "E", type := .double, accessFlags := 25, slot := 0, constantValue := 0 }, { name := "PI", type := .double, accessFlags := 25, slot := 1, constantValue := 0 }, { name := "TAU", type := .double, accessFlags := 25, slot := 2, constantValue := 0 }, { name := "DEGREES_TO_RADIANS", type := .double, accessFlags := 26, slot := 3, constantValue := 0 }, { name := "RADIANS_TO_DEGREES", type := .double, accessFlags := 26, slot := 4, constantValue := 0 }, { name := "negativeZeroFloatBits", type := .long, accessFlags := 26, slot := 5, constantValue := 0 }, { name := "negativeZeroDoubleBits", type := .long, accessFlags := 26, slot := 6, constantValue := 0 }, { name := "twoToTheDoubleScaleUp", type := .double, accessFlags := 8, slot := 7, constantValue := 0 }, { name := "twoToTheDoubleScaleDown", type := .double, accessFlags := 8, slot := 8, constantValue := 0 }, { name := "$assertionsDisabled", type := .boolean, accessFlags := 4120, slot := 9, constantValue := 0 }]
  methods := #[k17m0, k17m1]
  instanceTypes := #[]
  staticTypes := #[.double, .double, .double, .double, .double, .long, .long, .double, .double, .boolean]
  resolved := Array.replicate 460 none
  statics := none }

def pool18 : Array CpInfo := pool [(1, .class_ 2), (0, u "java/lang/String"), (1, .class_ 6), (1, u "java/lang/Object"), (0, u "<init>"), (0, u "()V"), (0, .methodref 1 10), (0, .nameAndType 11 12), (0, u "checkIndex"), (0, u "(II)V"), (1, .class_ 16), (1, u "java/lang/StringLatin1"), (0, u "inflate"), (2, .class_ 22), (1, u "java/lang/StringUTF16"), (3, .nameAndType 17 27), (0, u "([BI[BII)V"), (25, u "([BI)C"), (36, u "canEncode"), (14, u "(C)Z"), (15, u "$assertionsDisabled"), (0, u "Z"), (98, .class_ 223), (1, u "java/lang/StringLatin1$LinesSpliterator"), (16, .methodref 20 26), (11, u "charAt"), (127, u "toBytes"), (1, u "(C)[B"), (7, .class_ 391), (0, u "java/lang/StringLatin1$CharsSpliterator")] 3

def k18m0 : Method := { name := "<init>", desc := "()V", sig := { parameters := [], returnType := none }, accessFlags := 0, code := none }
def k18c1 : Code := { maxStack := 2, maxLocals := 2, code := jdk_43_method_2_code, exceptionTable := #[], attributes := #[] }
def k18m1 : Method := { name := "charAt", desc := "([BI)C", sig := { parameters := [(.array .byte), .int], returnType := some .char }, accessFlags := 9, code := some k18c1 }
def k18c2 : Code := { maxStack := 2, maxLocals := 1, code := jdk_43_method_3_code, exceptionTable := #[], attributes := #[] }
def k18m2 : Method := { name := "canEncode", desc := "(C)Z", sig := { parameters := [.char], returnType := some .boolean }, accessFlags := 9, code := some k18c2 }
def k18c3 : Code := { maxStack := 4, maxLocals := 1, code := jdk_43_method_46_code, exceptionTable := #[], attributes := #[] }
def k18m3 : Method := { name := "toBytes", desc := "(C)[B", sig := { parameters := [.char], returnType := some (.array .byte) }, accessFlags := 9, code := some k18c3 }
def k18c4 : Code := { maxStack := 5, maxLocals := 5, code := jdk_43_method_50_code, exceptionTable := #[], attributes := #[] }
def k18m4 : Method := { name := "inflate", desc := "([BI[BII)V", sig := { parameters := [(.array .byte), .int, (.array .byte), .int, .int], returnType := none }, accessFlags := 9, code := some k18c4 }
/-- java/lang/StringLatin1 -/
def k18 : Class := { plain "java/lang/StringLatin1" (some 0) with
  accessFlags := 48
  interfaces := #[]
  cf := some (fileOf pool18 14 #[.nestMembers #[390, 221]] #[{ accessFlags := 0, nameIndex := 7, descriptorIndex := 8, attributes := #[] }, { accessFlags := 9, nameIndex := 252, descriptorIndex := 53, attributes := #[] }, { accessFlags := 9, nameIndex := 90, descriptorIndex := 105, attributes := #[] }, { accessFlags := 9, nameIndex := 380, descriptorIndex := 382, attributes := #[] }, { accessFlags := 9, nameIndex := 17, descriptorIndex := 27, attributes := #[] }] 48 4 #[] #[{ accessFlags := 4120, nameIndex := 121, descriptorIndex := 122, attributes := #[] }])
  fields := #[{ name := "$assertionsDisabled", type := .boolean, accessFlags := 4120, slot := 0, constantValue := 0 }]
  methods := #[k18m0, k18m1, k18m2, k18m3, k18m4]
  instanceTypes := #[]
  staticTypes := #[.boolean]
  resolved := Array.replicate 395 none
  statics := none }

def pool19 : Array CpInfo := pool [(2, .class_ 4), (1, u "java/lang/Object"), (0, u "<init>"), (0, u "()V"), (17, .class_ 26), (1, u "jdk/internal/util/Preconditions"), (6, u "checkIndex"), (15, u "checkFromIndexSize"), (5, .class_ 56), (0, u "jdk/internal/util/Preconditions$4"), (57, .class_ 115), (0, u "jdk/internal/util/Preconditions$1"), (7, u "SIOOBE_FORMATTER"), (0, u "Ljava/util/function/BiFunction;"), (0, .class_ 126), (0, u "jdk/internal/util/Preconditions$2"), (3, u "AIOOBE_FORMATTER"), (0, .class_ 132), (0, u "jdk/internal/util/Preconditions$3"), (3, u "IOOBE_FORMATTER"), (41, u "(IILjava/util/function/BiFunction;)I"), (4, u "(IIILjava/util/function/BiFunction;)I")] 10

def k19m0 : Method := { name := "<init>", desc := "()V", sig := { parameters := [], returnType := none }, accessFlags := 1, code := none }
def k19c1 : Code := { maxStack := 3, maxLocals := 3, code := jdk_41_method_11_code, exceptionTable := #[], attributes := #[] }
def k19m1 : Method := { name := "checkIndex", desc := "(IILjava/util/function/BiFunction;)I", sig := { parameters := [.int, .int, (.object "java/util/function/BiFunction")], returnType := some .int }, accessFlags := 9, code := some k19c1 }
def k19c2 : Code := { maxStack := 4, maxLocals := 4, code := jdk_41_method_13_code, exceptionTable := #[], attributes := #[] }
def k19m2 : Method := { name := "checkFromIndexSize", desc := "(IIILjava/util/function/BiFunction;)I", sig := { parameters := [.int, .int, .int, (.object "java/util/function/BiFunction")], returnType := some .int }, accessFlags := 9, code := some k19c2 }
/-- jdk/internal/util/Preconditions -/
def k19 : Class := { plain "jdk/internal/util/Preconditions" (some 0) with
  accessFlags := 33
  interfaces := #[]
  cf := some (fileOf pool19 24 #[.nestMembers #[55, 131, 125, 114]] #[{ accessFlags := 1, nameIndex := 5, descriptorIndex := 6, attributes := #[] }, { accessFlags := 9, nameIndex := 33, descriptorIndex := 178, attributes := #[] }, { accessFlags := 9, nameIndex := 49, descriptorIndex := 183, attributes := #[] }] 33 2 #[] #[{ accessFlags := 25, nameIndex := 123, descriptorIndex := 124, attributes := #[] }, { accessFlags := 25, nameIndex := 130, descriptorIndex := 124, attributes := #[] }, { accessFlags := 25, nameIndex := 136, descriptorIndex := 124, attributes := #[] }])
  fields := #[{ name := "SIOOBE_FORMATTER", type := (.object "java/util/function/BiFunction"), accessFlags := 25, slot := 0, constantValue := 0 }, { name := "AIOOBE_FORMATTER", type := (.object "java/util/function/BiFunction"), accessFlags := 25, slot := 1, constantValue := 0 }, { name := "IOOBE_FORMATTER", type := (.object "java/util/function/BiFunction"), accessFlags := 25, slot := 2, constantValue := 0 }]
  methods := #[k19m0, k19m1, k19m2]
  instanceTypes := #[]
  staticTypes := #[(.object "java/util/function/BiFunction"), (.object "java/util/function/BiFunction"), (.object "java/util/function/BiFunction")]
  resolved := Array.replicate 194 none
  statics := some 3 }

def pool20 : Array CpInfo := pool [(9, u "<init>"), (6, .class_ 18), (1, u "java/lang/Object"), (0, u "()V"), (1, .class_ 23), (1, u "jdk/internal/util/ArraysSupport"), (0, u "LOG2_ARRAY_LONG_INDEX_SCALE"), (0, u "I"), (2, u "U"), (0, u "Ljdk/internal/misc/Unsafe;"), (8, u "BIG_ENDIAN"), (0, u "Z"), (8, u "LOG2_BYTE_BIT_SIZE"), (4, u "LOG2_ARRAY_INT_INDEX_SCALE"), (54, u "JLA"), (0, u "Ljdk/internal/access/JavaLangAccess;"), (11, u "LOG2_ARRAY_BOOLEAN_INDEX_SCALE"), (9, u "LOG2_ARRAY_BYTE_INDEX_SCALE"), (5, u "LOG2_ARRAY_CHAR_INDEX_SCALE"), (5, u "LOG2_ARRAY_SHORT_INDEX_SCALE"), (18, u "LOG2_ARRAY_FLOAT_INDEX_SCALE"), (24, u "LOG2_ARRAY_DOUBLE_INDEX_SCALE"), (89, u "T_BOOLEAN"), (2, u "T_CHAR"), (1, u "T_FLOAT"), (1, u "T_DOUBLE"), (1, u "T_BYTE"), (1, u "T_SHORT"), (1, u "T_INT"), (1, u "T_LONG"), (1, u "SOFT_MAX_ARRAY_LENGTH")] 83

def k20m0 : Method := { name := "<init>", desc := "()V", sig := { parameters := [], returnType := none }, accessFlags := 2, code := none }
/-- jdk/internal/util/ArraysSupport -/
def k20 : Class := { plain "jdk/internal/util/ArraysSupport" (some 0) with
  accessFlags := 33
  interfaces := #[]
  cf := some (fileOf pool20 21 #[] #[{ accessFlags := 2, nameIndex := 9, descriptorIndex := 19, attributes := #[] }] 33 16 #[] #[{ accessFlags := 24, nameIndex := 28, descriptorIndex := 29, attributes := #[] }, { accessFlags := 26, nameIndex := 38, descriptorIndex := 39, attributes := #[] }, { accessFlags := 25, nameIndex := 121, descriptorIndex := 25, attributes := #[] }, { accessFlags := 25, nameIndex := 131, descriptorIndex := 25, attributes := #[] }, { accessFlags := 25, nameIndex := 137, descriptorIndex := 25, attributes := #[] }, { accessFlags := 25, nameIndex := 143, descriptorIndex := 25, attributes := #[] }, { accessFlags := 25, nameIndex := 53, descriptorIndex := 25, attributes := #[] }, { accessFlags := 25, nameIndex := 24, descriptorIndex := 25, attributes := #[] }, { accessFlags := 25, nameIndex := 162, descriptorIndex := 25, attributes := #[] }, { accessFlags := 25, nameIndex := 187, descriptorIndex := 25, attributes := #[] }, { accessFlags := 26, nameIndex := 48, descriptorIndex := 25, attributes := #[] }, { accessFlags := 25, nameIndex := 277, descriptorIndex := 25, attributes := #[] }, { accessFlags := 25, nameIndex := 280, descriptorIndex := 25, attributes := #[] }, { accessFlags := 25, nameIndex := 282, descriptorIndex := 25, attributes := #[] }, { accessFlags := 25, nameIndex := 284, descriptorIndex := 25, attributes := #[] }, { accessFlags := 25, nameIndex := 286, descriptorIndex := 25, attributes := #[] }, { accessFlags := 25, nameIndex := 288, descriptorIndex := 25, attributes := #[] }, { accessFlags := 25, nameIndex := 290, descriptorIndex := 25, attributes := #[] }, { accessFlags := 25, nameIndex := 292, descriptorIndex := 25, attributes := #[] }, { accessFlags := 26, nameIndex := 108, descriptorIndex := 109, attributes := #[] }, { accessFlags := 25, nameIndex := 294, descriptorIndex := 25, attributes := #[] }])
  fields := #[{ name := "U", type := (.object "jdk/internal/misc/Unsafe"), accessFlags := 24, slot := 0, constantValue := 0 }, { name := "BIG_ENDIAN", type := .boolean, accessFlags := 26, slot := 1, constantValue := 0 }, { name := "LOG2_ARRAY_BOOLEAN_INDEX_SCALE", type := .int, accessFlags := 25, slot := 2, constantValue := 0 }, { name := "LOG2_ARRAY_BYTE_INDEX_SCALE", type := .int, accessFlags := 25, slot := 3, constantValue := 0 }, { name := "LOG2_ARRAY_CHAR_INDEX_SCALE", type := .int, accessFlags := 25, slot := 4, constantValue := 0 }, { name := "LOG2_ARRAY_SHORT_INDEX_SCALE", type := .int, accessFlags := 25, slot := 5, constantValue := 0 }, { name := "LOG2_ARRAY_INT_INDEX_SCALE", type := .int, accessFlags := 25, slot := 6, constantValue := 0 }, { name := "LOG2_ARRAY_LONG_INDEX_SCALE", type := .int, accessFlags := 25, slot := 7, constantValue := 0 }, { name := "LOG2_ARRAY_FLOAT_INDEX_SCALE", type := .int, accessFlags := 25, slot := 8, constantValue := 0 }, { name := "LOG2_ARRAY_DOUBLE_INDEX_SCALE", type := .int, accessFlags := 25, slot := 9, constantValue := 0 }, { name := "LOG2_BYTE_BIT_SIZE", type := .int, accessFlags := 26, slot := 10, constantValue := 0 }, { name := "T_BOOLEAN", type := .int, accessFlags := 25, slot := 11, constantValue := 0 }, { name := "T_CHAR", type := .int, accessFlags := 25, slot := 12, constantValue := 0 }, { name := "T_FLOAT", type := .int, accessFlags := 25, slot := 13, constantValue := 0 }, { name := "T_DOUBLE", type := .int, accessFlags := 25, slot := 14, constantValue := 0 }, { name := "T_BYTE", type := .int, accessFlags := 25, slot := 15, constantValue := 0 }, { name := "T_SHORT", type := .int, accessFlags := 25, slot := 16, constantValue := 0 }, { name := "T_INT", type := .int, accessFlags := 25, slot := 17, constantValue := 0 }, { name := "T_LONG", type := .int, accessFlags := 25, slot := 18, constantValue := 0 }, { name := "JLA", type := (.object "jdk/internal/access/JavaLangAccess"), accessFlags := 26, slot := 19, constantValue := 0 }, { name := "SOFT_MAX_ARRAY_LENGTH", type := .int, accessFlags := 25, slot := 20, constantValue := 0 }]
  methods := #[k20m0]
  instanceTypes := #[]
  staticTypes := #[(.object "jdk/internal/misc/Unsafe"), .boolean, .int, .int, .int, .int, .int, .int, .int, .int, .int, .int, .int, .int, .int, .int, .int, .int, .int, (.object "jdk/internal/access/JavaLangAccess"), .int]
  resolved := Array.replicate 378 none
  statics := none }

def pool21 : Array CpInfo := pool [(2, .class_ 4), (1, u "java/lang/Object"), (0, u "<init>"), (0, u "()V"), (12, .class_ 20), (0, u "java/util/Collections"), (63, u "r"), (0, u "Ljava/util/Random;"), (80, .class_ 167), (0, u "java/util/Collections$UnmodifiableCollection"), (6, .class_ 175), (0, u "java/util/Collections$UnmodifiableSequencedCollection"), (6, .class_ 183), (0, u "java/util/Collections$UnmodifiableSet"), (6, .class_ 191), (0, u "java/util/Collections$UnmodifiableSequencedSet"), (6, .class_ 199), (0, u "java/util/Collections$UnmodifiableSortedSet"), (6, .class_ 207), (0, u "java/util/Collections$UnmodifiableNavigableSet"), (4, .class_ 213), (0, u "java/util/Collections$UnmodifiableList"), (1, .class_ 216), (0, u "java/util/Collections$UnmodifiableRandomAccessList"), (6, .class_ 224), (0, u "java/util/Collections$UnmodifiableMap"), (6, .class_ 232), (0, u "java/util/Collections$UnmodifiableSequencedMap"), (4, .class_ 238), (0, u "java/util/Collections$UnmodifiableSortedMap"), (6, .class_ 246), (0, u "java/util/Collections$UnmodifiableNavigableMap"), (3, .class_ 251), (0, u "java/util/Collections$SynchronizedCollection"), (4, .class_ 257), (0, u "java/util/Collections$SynchronizedSet"), (4, .class_ 263), (0, u "java/util/Collections$SynchronizedSortedSet"), (1, .class_ 266), (0, u "java/util/Collections$SynchronizedNavigableSet"), (1, .class_ 269), (0, u "java/util/Collections$SynchronizedRandomAccessList"), (1, .class_ 272), (0, u "java/util/Collections$SynchronizedList"), (5, .class_ 279), (0, u "java/util/Collections$SynchronizedMap"), (1, .class_ 282), (0, u "java/util/Collections$SynchronizedSortedMap"), (1, .class_ 285), (0, u "java/util/Collections$SynchronizedNavigableMap"), (1, .class_ 288), (0, u "java/util/Collections$CheckedCollection"), (11, .class_ 301), (0, u "java/util/Collections$CheckedQueue"), (3, .class_ 306), (0, u "java/util/Collections$CheckedSet"), (3, .class_ 311), (0, u "java/util/Collections$CheckedSortedSet"), (3, .class_ 316), (0, u "java/util/Collections$CheckedNavigableSet"), (3, .class_ 321), (0, u "java/util/Collections$CheckedRandomAccessList"), (3, .class_ 326), (0, u "java/util/Collections$CheckedList"), (1, .class_ 329), (0, u "java/util/Collections$CheckedMap"), (3, .class_ 334), (0, u "java/util/Collections$CheckedSortedMap"), (3, .class_ 339), (0, u "java/util/Collections$CheckedNavigableMap"), (4, .class_ 346), (1, u "java/util/Collections$EmptyIterator"), (3, .class_ 352), (1, u "java/util/Collections$EmptyListIterator"), (2, .class_ 357), (1, u "java/util/Collections$EmptyEnumeration"), (4, u "EMPTY_SET"), (0, u "Ljava/util/Set;"), (6, u "EMPTY_LIST"), (0, u "Ljava/util/List;"), (2, u "EMPTY_MAP"), (0, u "Ljava/util/Map;"), (4, .class_ 381), (0, u "java/util/Collections$SingletonSet"), (2, .class_ 385), (0, u "java/util/Collections$1"), (1, .class_ 388), (0, u "java/util/Collections$2"), (1, .class_ 391), (0, u "java/util/Collections$SingletonList"), (1, .class_ 394), (0, u "java/util/Collections$SingletonMap"), (22, .class_ 418), (0, u "java/util/Collections$CopiesList"), (4, .class_ 425), (1, u "java/util/Collections$ReverseComparator"), (8, .class_ 435), (0, u "java/util/Collections$ReverseComparator2"), (6, .class_ 443), (0, u "java/util/Collections$3"), (25, .class_ 470), (0, u "java/util/Collections$SetFromMap"), (2, .class_ 474), (0, u "java/util/Collections$SequencedSetFromMap"), (3, .class_ 479), (0, u "java/util/Collections$AsLIFOQueue"), (11, .class_ 492), (0, u "java/util/Collections$EmptySet"), (1, .class_ 495), (0, u "java/util/Collections$EmptyList"), (1, .class_ 498), (0, u "java/util/Collections$EmptyMap"), (1, u "BINARYSEARCH_THRESHOLD"), (0, u "I"), (2, u "REVERSE_THRESHOLD"), (1, u "SHUFFLE_THRESHOLD"), (1, u "FILL_THRESHOLD"), (1, u "ROTATE_THRESHOLD"), (1, u "COPY_THRESHOLD"), (1, u "REPLACEALL_THRESHOLD"), (1, u "INDEXOFSUBLIST_THRESHOLD"), (333, .class_ 851), (0, u "java/util/Collections$CheckedMap$CheckedEntrySet"), (0, .class_ 853), (0, u "java/util/Collections$CheckedMap$CheckedEntrySet$CheckedEntry"), (0, .class_ 855), (0, u "java/util/Collections$CheckedMap$CheckedEntrySet$1"), (0, .class_ 857), (0, u "java/util/Collections$CheckedList$1"), (0, .class_ 859), (0, u "java/util/Collections$CheckedCollection$1"), (0, .class_ 861), (0, u "java/util/Collections$UnmodifiableNavigableMap$EmptyNavigableMap"), (0, .class_ 863), (0, u "java/util/Collections$UnmodifiableMap$UnmodifiableEntrySet"), (0, .class_ 865), (0, u "java/util/Collections$UnmodifiableMap$UnmodifiableEntrySet$UnmodifiableEntry"), (0, .class_ 867), (0, u "java/util/Collections$UnmodifiableMap$UnmodifiableEntrySet$UnmodifiableEntrySetSpliterator"), (0, .class_ 869), (0, u "java/util/Collections$UnmodifiableMap$UnmodifiableEntrySet$1"), (0, .class_ 871), (0, u "java/util/Collections$UnmodifiableList$1"), (0, .class_ 873), (0, u "java/util/Collections$UnmodifiableNavigableSet$EmptyNavigableSet"), (0, .class_ 875), (0, u "java/util/Collections$UnmodifiableCollection$1")] 57

def k21m0 : Method := { name := "<init>", desc := "()V", sig := { parameters := [], returnType := none }, accessFlags := 2, code := none }
/-- java/util/Collections -/
def k21 : Class := { plain "java/util/Collections" (some 0) with
  accessFlags := 33
  interfaces := #[]
  cf := some (fileOf pool21 19 #[.nestMembers #[478, 473, 469, 434, 423, 417, 393, 390, 380, 497, 494, 491, 355, 350, 344, 338, 333, 328, 850, 852, 854, 320, 325, 856, 315, 310, 305, 300, 287, 858, 284, 281, 278, 268, 271, 265, 262, 256, 250, 245, 860, 237, 231, 223, 862, 864, 866, 868, 215, 212, 870, 206, 872, 198, 190, 182, 174, 166, 874, 442, 387, 384]] #[{ accessFlags := 2, nameIndex := 5, descriptorIndex := 6, attributes := #[] }] 33 2 #[] #[{ accessFlags := 26, nameIndex := 500, descriptorIndex := 501, attributes := #[] }, { accessFlags := 26, nameIndex := 504, descriptorIndex := 501, attributes := #[] }, { accessFlags := 26, nameIndex := 506, descriptorIndex := 501, attributes := #[] }, { accessFlags := 26, nameIndex := 508, descriptorIndex := 501, attributes := #[] }, { accessFlags := 26, nameIndex := 510, descriptorIndex := 501, attributes := #[] }, { accessFlags := 26, nameIndex := 512, descriptorIndex := 501, attributes := #[] }, { accessFlags := 26, nameIndex := 514, descriptorIndex := 501, attributes := #[] }, { accessFlags := 26, nameIndex := 516, descriptorIndex := 501, attributes := #[] }, { accessFlags := 10, nameIndex := 84, descriptorIndex := 85, attributes := #[] }, { accessFlags := 25, nameIndex := 362, descriptorIndex := 363, attributes := #[] }, { accessFlags := 25, nameIndex := 370, descriptorIndex := 371, attributes := #[] }, { accessFlags := 25, nameIndex := 374, descriptorIndex := 375, attributes := #[] }])
  fields := #[{ name := "BINARYSEARCH_THRESHOLD", type := .int, accessFlags := 26, slot := 0, constantValue := 0 }, { name := "REVERSE_THRESHOLD", type := .int, accessFlags := 26, slot := 1, constantValue := 0 }, { name := "SHUFFLE_THRESHOLD", type := .int, accessFlags := 26, slot := 2, constantValue := 0 }, { name := "FILL_THRESHOLD", type := .int, accessFlags := 26, slot := 3, constantValue := 0 }, { name := "ROTATE_THRESHOLD", type := .int, accessFlags := 26, slot := 4, constantValue := 0 }, { name := "COPY_THRESHOLD", type := .int, accessFlags := 26, slot := 5, constantValue := 0 }, { name := "REPLACEALL_THRESHOLD", type := .int, accessFlags := 26, slot := 6, constantValue := 0 }, { name := "INDEXOFSUBLIST_THRESHOLD", type := .int, accessFlags := 26, slot := 7, constantValue := 0 }, { name := "r", type := (.object "java/util/Random"), accessFlags := 10, slot := 8, constantValue := 0 }, { name := "EMPTY_SET", type := (.object "java/util/Set"), accessFlags := 25, slot := 9, constantValue := 0 }, { name := "EMPTY_LIST", type := (.object "java/util/List"), accessFlags := 25, slot := 10, constantValue := 0 }, { name := "EMPTY_MAP", type := (.object "java/util/Map"), accessFlags := 25, slot := 11, constantValue := 0 }]
  methods := #[k21m0]
  instanceTypes := #[]
  staticTypes := #[.int, .int, .int, .int, .int, .int, .int, .int, (.object "java/util/Random"), (.object "java/util/Set"), (.object "java/util/List"), (.object "java/util/Map")]
  resolved := Array.replicate 933 none
  statics := some 4 }

def pool22 : Array CpInfo := pool [(8, .class_ 10), (1, u "java/lang/Iterable"), (24, .class_ 36), (0, u "java/lang/Object")] 25

/-- java/lang/Iterable -/
def k22 : Class := { plain "java/lang/Iterable" (some 0) with
  accessFlags := 1537
  interfaces := #[]
  cf := some (fileOf pool22 8 #[] #[] 1537 35 #[] #[])
  fields := #[]
  methods := #[]
  instanceTypes := #[]
  staticTypes := #[]
  resolved := Array.replicate 62 none
  statics := none }

def pool23 : Array CpInfo := pool [(10, .class_ 12), (1, u "java/util/Collection"), (47, .class_ 61), (0, u "java/lang/Object"), (0, .class_ 63), (0, u "java/lang/Iterable")] 51

/-- java/util/Collection -/
def k23 : Class := { plain "java/util/Collection" (some 0) with
  accessFlags := 1537
  interfaces := #[22]
  cf := some (fileOf pool23 10 #[] #[] 1537 60 #[62] #[])
  fields := #[]
  methods := #[]
  instanceTypes := #[]
  staticTypes := #[]
  resolved := Array.replicate 115 none
  statics := none }

def pool24 : Array CpInfo := pool [(2, .class_ 4), (1, u "java/lang/Object"), (0, u "<init>"), (0, u "()V"), (1, .class_ 10), (1, u "java/util/AbstractCollection"), (66, .class_ 78), (0, u "java/util/Collection")] 81

def k24m0 : Method := { name := "<init>", desc := "()V", sig := { parameters := [], returnType := none }, accessFlags := 4, code := none }
/-- java/util/AbstractCollection -/
def k24 : Class := { plain "java/util/AbstractCollection" (some 0) with
  accessFlags := 1057
  interfaces := #[23]
  cf := some (fileOf pool24 8 #[] #[{ accessFlags := 4, nameIndex := 5, descriptorIndex := 6, attributes := #[] }] 1057 2 #[77] #[])
  fields := #[]
  methods := #[k24m0]
  instanceTypes := #[]
  staticTypes := #[]
  resolved := Array.replicate 160 none
  statics := none }

def pool25 : Array CpInfo := pool [(8, .class_ 10), (1, u "java/util/SequencedCollection"), (15, .class_ 27), (0, u "java/lang/Object"), (0, .class_ 29), (0, u "java/util/Collection")] 27

/-- java/util/SequencedCollection -/
def k25 : Class := { plain "java/util/SequencedCollection" (some 0) with
  accessFlags := 1537
  interfaces := #[23]
  cf := some (fileOf pool25 8 #[] #[] 1537 26 #[28] #[])
  fields := #[]
  methods := #[]
  instanceTypes := #[]
  staticTypes := #[]
  resolved := Array.replicate 57 none
  statics := none }

def pool26 : Array CpInfo := pool [(8, .class_ 10), (1, u "java/util/List"), (92, .class_ 104), (0, u "java/lang/Object"), (15, .class_ 121), (0, u "java/util/SequencedCollection")] 129

/-- java/util/List -/
def k26 : Class := { plain "java/util/List" (some 0) with
  accessFlags := 1537
  interfaces := #[25]
  cf := some (fileOf pool26 8 #[] #[] 1537 103 #[120] #[])
  fields := #[]
  methods := #[]
  instanceTypes := #[]
  staticTypes := #[]
  resolved := Array.replicate 251 none
  statics := none }

def pool27 : Array CpInfo := pool [(2, .class_ 4), (1, u "java/util/AbstractCollection"), (0, u "<init>"), (0, u "()V"), (1, .class_ 10), (1, u "java/util/AbstractList"), (0, u "modCount"), (0, u "I"), (64, .class_ 78), (0, u "java/util/AbstractList$Itr"), (3, .class_ 83), (0, u "java/util/AbstractList$ListItr"), (9, .class_ 94), (0, u "java/util/AbstractList$RandomAccessSubList"), (3, .class_ 99), (0, u "java/util/AbstractList$SubList"), (33, .class_ 134), (0, u "java/util/List"), (73, .class_ 209), (0, u "java/util/AbstractList$SubList$1"), (0, .class_ 211), (0, u "java/util/AbstractList$RandomAccessSpliterator")] 6

def k27m0 : Method := { name := "<init>", desc := "()V", sig := { parameters := [], returnType := none }, accessFlags := 4, code := none }
/-- java/util/AbstractList -/
def k27 : Class := { plain "java/util/AbstractList" (some 24) with
  accessFlags := 1057
  interfaces := #[26]
  cf := some (fileOf pool27 8 #[.nestMembers #[93, 98, 208, 210, 82, 77]] #[{ accessFlags := 4, nameIndex := 5, descriptorIndex := 6, attributes := #[] }] 1057 2 #[133] #[{ accessFlags := 132, nameIndex := 11, descriptorIndex := 12, attributes := #[] }])
  fields := #[{ name := "modCount", type := .int, accessFlags := 132, slot := 0, constantValue := 0 }]
  methods := #[k27m0]
  instanceTypes := #[.int]
  staticTypes := #[]
  resolved := Array.replicate 218 none
  statics := none }

def pool28 : Array CpInfo := pool [(1, .class_ 2), (0, u "java/util/RandomAccess"), (0, .class_ 4), (0, u "java/lang/Object")] 2

/-- java/util/RandomAccess -/
def k28 : Class := { plain "java/util/RandomAccess" (some 0) with
  accessFlags := 1537
  interfaces := #[]
  cf := some (fileOf pool28 1 #[] #[] 1537 3 #[] #[])
  fields := #[]
  methods := #[]
  instanceTypes := #[]
  staticTypes := #[]
  resolved := Array.replicate 7 none
  statics := none }

def pool29 : Array CpInfo := pool [(2, .class_ 4), (1, u "java/util/AbstractList"), (0, u "<init>"), (0, u "()V"), (1, .class_ 10), (1, u "java/util/Collections"), (54, .class_ 66), (0, u "java/util/Collections$EmptyList"), (0, .class_ 68), (0, u "java/util/RandomAccess"), (0, .class_ 70), (0, u "java/io/Serializable"), (0, u "serialVersionUID"), (0, u "J")] 77

def k29m0 : Method := { name := "<init>", desc := "()V", sig := { parameters := [], returnType := none }, accessFlags := 2, code := none }
/-- java/util/Collections$EmptyList -/
def k29 : Class := { plain "java/util/Collections$EmptyList" (some 27) with
  accessFlags := 32
  interfaces := #[28, 2]
  cf := some (fileOf pool29 65 #[.nestHost 8] #[{ accessFlags := 2, nameIndex := 5, descriptorIndex := 6, attributes := #[] }] 32 2 #[67, 69] #[{ accessFlags := 26, nameIndex := 71, descriptorIndex := 72, attributes := #[] }])
  fields := #[{ name := "serialVersionUID", type := .long, accessFlags := 26, slot := 0, constantValue := 0 }]
  methods := #[k29m0]
  instanceTypes := #[.int]
  staticTypes := #[.long]
  resolved := Array.replicate 150 none
  statics := none }

def pool30 : Array CpInfo := pool [(2, .class_ 4), (1, u "java/lang/StackTraceElement"), (0, u "<init>"), (2, .class_ 10), (1, u "java/lang/Object"), (0, u "()V"), (2, u "format"), (0, u "B"), (2, u "classLoaderName"), (0, u "Ljava/lang/String;"), (2, u "moduleName"), (2, u "moduleVersion"), (12, u "declaringClass"), (4, u "methodName"), (2, u "fileName"), (2, u "lineNumber"), (0, u "I"), (65, u "declaringClassObject"), (0, u "Ljava/lang/Class;"), (33, .class_ 153), (1, u "java/lang/StackTraceElement$HashedModules"), (17, .class_ 172), (0, u "java/io/Serializable"), (0, u "NATIVE_METHOD"), (1, u "UNKNOWN_SOURCE"), (2, u "BUILTIN_CLASS_LOADER"), (1, u "JDK_NON_UPGRADEABLE_MODULE"), (1, u "serialVersionUID"), (0, u "J")] 51

def k30m0 : Method := { name := "<init>", desc := "()V", sig := { parameters := [], returnType := none }, accessFlags := 2, code := none }
/-- java/lang/StackTraceElement -/
def k30 : Class := { plain "java/lang/StackTraceElement" (some 0) with
  accessFlags := 49
  interfaces := #[2]
  cf := some (fileOf pool30 2 #[.nestMembers #[151]] #[{ accessFlags := 2, nameIndex := 5, descriptorIndex := 11, attributes := #[] }] 49 8 #[171] #[{ accessFlags := 26, nameIndex := 173, descriptorIndex := 19, attributes := #[] }, { accessFlags := 26, nameIndex := 175, descriptorIndex := 19, attributes := #[] }, { accessFlags := 130, nameIndex := 116, descriptorIndex := 117, attributes := #[] }, { accessFlags := 2, nameIndex := 18, descriptorIndex := 19, attributes := #[] }, { accessFlags := 2, nameIndex := 22, descriptorIndex := 19, attributes := #[] }, { accessFlags := 2, nameIndex := 25, descriptorIndex := 19, attributes := #[] }, { accessFlags := 2, nameIndex := 38, descriptorIndex := 19, attributes := #[] }, { accessFlags := 2, nameIndex := 43, descriptorIndex := 19, attributes := #[] }, { accessFlags := 2, nameIndex := 46, descriptorIndex := 19, attributes := #[] }, { accessFlags := 2, nameIndex := 49, descriptorIndex := 50, attributes := #[] }, { accessFlags := 2, nameIndex := 14, descriptorIndex := 15, attributes := #[] }, { accessFlags := 26, nameIndex := 178, descriptorIndex := 15, attributes := #[] }, { accessFlags := 26, nameIndex := 180, descriptorIndex := 15, attributes := #[] }, { accessFlags := 26, nameIndex := 182, descriptorIndex := 183, attributes := #[] }])
  fields := #[{ name := "NATIVE_METHOD", type := (.object "java/lang/String"), accessFlags := 26, slot := 0, constantValue := 0 }, { name := "UNKNOWN_SOURCE", type := (.object "java/lang/String"), accessFlags := 26, slot := 1, constantValue := 0 }, { name := "declaringClassObject", type := (.object "java/lang/Class"), accessFlags := 130, slot := 0, constantValue := 0 }, { name := "classLoaderName", type := (.object "java/lang/String"), accessFlags := 2, slot := 1, constantValue := 0 }, { name := "moduleName", type := (.object "java/lang/String"), accessFlags := 2, slot := 2, constantValue := 0 }, { name := "moduleVersion", type := (.object "java/lang/String"), accessFlags := 2, slot := 3, constantValue := 0 }, { name := "declaringClass", type := (.object "java/lang/String"), accessFlags := 2, slot := 4, constantValue := 0 }, { name := "methodName", type := (.object "java/lang/String"), accessFlags := 2, slot := 5, constantValue := 0 }, { name := "fileName", type := (.object "java/lang/String"), accessFlags := 2, slot := 6, constantValue := 0 }, { name := "lineNumber", type := .int, accessFlags := 2, slot := 7, constantValue := 0 }, { name := "format", type := .byte, accessFlags := 2, slot := 8, constantValue := 0 }, { name := "BUILTIN_CLASS_LOADER", type := .byte, accessFlags := 26, slot := 2, constantValue := 0 }, { name := "JDK_NON_UPGRADEABLE_MODULE", type := .byte, accessFlags := 26, slot := 3, constantValue := 0 }, { name := "serialVersionUID", type := .long, accessFlags := 26, slot := 4, constantValue := 0 }]
  methods := #[k30m0]
  instanceTypes := #[(.object "java/lang/Class"), (.object "java/lang/String"), (.object "java/lang/String"), (.object "java/lang/String"), (.object "java/lang/String"), (.object "java/lang/String"), (.object "java/lang/String"), .int, .byte]
  staticTypes := #[(.object "java/lang/String"), (.object "java/lang/String"), .byte, .byte, .long]
  resolved := Array.replicate 235 none
  statics := none }

def pool31 : Array CpInfo := pool [(1, u "java/lang/Cloneable"), (0, .class_ 1), (0, u "java/lang/Object"), (0, .class_ 3)] 3

/-- java/lang/Cloneable -/
def k31 : Class := { plain "java/lang/Cloneable" (some 0) with
  accessFlags := 1537
  interfaces := #[]
  cf := some (fileOf pool31 2 #[] #[] 1537 4 #[] #[])
  fields := #[]
  methods := #[]
  instanceTypes := #[]
  staticTypes := #[]
  resolved := Array.replicate 8 none
  statics := none }

/-- the primitive byte -/
def k32 : Class := { plain "byte" none with kind := .primitive 'B', accessFlags := 0x411 }
/-- [B -/
def k33 : Class := { plain "[B" (some 0) with kind := .array 32 .byte, interfaces := #[31, 2], accessFlags := 1041 }

/-- the primitive char -/
def k34 : Class := { plain "char" none with kind := .primitive 'C', accessFlags := 0x411 }
/-- [C -/
def k35 : Class := { plain "[C" (some 0) with kind := .array 34 .char, interfaces := #[31, 2], accessFlags := 1041 }

/-- the primitive int -/
def k36 : Class := { plain "int" none with kind := .primitive 'I', accessFlags := 0x411 }
/-- [I -/
def k37 : Class := { plain "[I" (some 0) with kind := .array 36 .int, interfaces := #[31, 2], accessFlags := 1041 }

/-- [Ljava/lang/Object; -/
def k38 : Class := { plain "[Ljava/lang/Object;" (some 0) with kind := .array 0 (.object "java/lang/Object"), interfaces := #[31, 2], accessFlags := 1041 }

/-- [Ljava/lang/StackTraceElement; -/
def k39 : Class := { plain "[Ljava/lang/StackTraceElement;" (some 0) with kind := .array 30 (.object "java/lang/StackTraceElement"), interfaces := #[31, 2], accessFlags := 1041 }

/-- [Ljava/lang/Throwable; -/
def k40 : Class := { plain "[Ljava/lang/Throwable;" (some 0) with kind := .array 9 (.object "java/lang/Throwable"), interfaces := #[31, 2], accessFlags := 1041 }

def heap : Heap := #[{ cls := 7, slots := #[.long 0, .int 1, .null, .int 0, .null, .int 0, .int 0], vm := .statics 7 },
  { cls := 8, slots := #[.int 0, .int 8, .int 0, .int 1], vm := .statics 8 },
  { cls := 9, slots := #[.long 0, .ref 5, .ref 6, .null, .null, .null, .null, .ref 7, .int 1], vm := .statics 9 },
  { cls := 19, slots := #[.null, .null, .null], vm := .statics 19 },
  { cls := 21, slots := #[.int 0, .int 0, .int 0, .int 0, .int 0, .int 0, .int 0, .int 0, .null, .null, .ref 6, .null], vm := .statics 21 },
  { cls := 39, slots := #[], vm := .none },
  { cls := 29, slots := #[.int 0], vm := .none },
  { cls := 40, slots := #[], vm := .none }]
def classes : Array Class := #[k0, k1, k2, k3, k4, k5, k6, k7, k8, k9, k10, k11, k12, k13, k14, k15, k16, k17, k18, k19, k20, k21, k22, k23, k24, k25, k26, k27, k28, k29, k30, k31, k32, k33, k34, k35, k36, k37, k38, k39, k40]
def interned : List (Array UInt16 × Addr) := []
def slotsUsed : Nat := 36
def theMethod : MethodId := ⟨1, 2⟩
def args0 : Array Value := #[.int 65, .int 4259909, .int 9]
def aboutOver (below : List Frame) : State where
  vm := { classes := classes, interned := interned.toArray }
  heap := heap
  slotsUsed := slotsUsed
  threads := #[{ frames := .invoking theMethod args0 :: below }]
def below0 : List Frame := [.native { method := ⟨0, 0⟩, args := #[] }]
def about1 : State := aboutOver below0
def p0 : Program := .bare "" "" ""
def e0 : Env := launch0.env 0 0 0
theorem w_frames : about1.frames = Frame.invoking theMethod args0 :: below0 := rfl
set_option maxRecDepth 65536 in
theorem w_args : argsFit about1.vm theMethod args0 = true := by decide +kernel
set_option maxRecDepth 65536 in
theorem w_heap : heapFits about1 = true := by decide +kernel
set_option maxRecDepth 65536 in
theorem w_runnable : about1.curStatus? = some .runnable := by decide +kernel
set_option maxRecDepth 65536 in
theorem w_alone : about1.alone = true := by decide +kernel
set_option maxRecDepth 65536 in
theorem w_named : about1.methodNamed? x = some theMethod := by decide +kernel
set_option maxRecDepth 65536 in
theorem w_hears : about1.hears theMethod below0 = true := by decide +kernel
set_option maxRecDepth 65536 in
theorem w_ripe : about1.ripe theMethod args0 below0 = true := by decide +kernel
theorem w_running : about1.status = .running := rfl
set_option maxRecDepth 65536 in
theorem w_room : about1.hasRoom e0.platform room_1 = true :=
  launch0.hasRoom_least _ room_1 (by decide +kernel) (by decide +kernel) (by decide +kernel) (by decide +kernel) (by decide +kernel) (by decide +kernel)
theorem allAtoms_all (ts : List Jvm.Cond) (a : Array Jvm.Value) (st : Jvm.State) : (allAtoms ts).before a st = ts.all (fun c => c.before a st) := by
  induction ts with
  | nil => rfl
  | cons c t ih =>
    show (Jvm.Cond.and c (allAtoms t)).before a st = _
    rw [Jvm.Cond.before_and, ih, List.all_cons]
def words1 : List Jvm.Cond := Jvm.Cond.code x code maxLocals ret :: tables_1
/-- a 'code' word, met by the world's own term for the bytes: nothing is compared byte by byte -/
theorem code_word {y : MethodName} {bytes : ByteArray} {mx : Nat} {rt : Option FieldType} {a : Array Value} {s : State} {m : MethodId} {meth : Method} {c : Code} (h1 : s.methodNamed? y = some m) (h2 : s.vm.method? m = some meth) (h3 : meth.code = some c) (h4 : c.code = bytes)
    (h5 : (c.maxLocals == mx && c.exceptionTable.isEmpty && decide (c.maxStack ≤ mostOperands) && decide (meth.sig.returnType = rt) && !meth.locks && decide (parseMethodDescriptor y.desc = some meth.sig)) = true) : (Jvm.Cond.code y bytes mx rt).before a s = true := by
  simp only [Bool.and_eq_true, beq_iff_eq, Bool.not_eq_true', decide_eq_true_eq] at h5
  obtain ⟨⟨⟨⟨⟨g1, g2⟩, g3⟩, g4⟩, g5⟩, g6⟩ := h5
  simp [Cond.before, Cond.holds, Cond.value, h1, h2, h3, h4, g1, g2, g3, g4, g5, g6]
def isCode : Jvm.Cond → Bool
  | .code _ _ _ _ => true
  | _ => false
theorem all_split {L : List Jvm.Cond} {P : Jvm.Cond → Bool} (h1 : L.all (fun c => isCode c || P c) = true) (h2 : ∀ c ∈ L.filter isCode, P c = true) : L.all P = true := by
  refine List.all_eq_true.mpr fun c hc => ?_
  have h := List.all_eq_true.mp h1 c hc
  rcases Bool.eq_false_or_eq_true (isCode c) with hi | hi
  · exact h2 c (List.mem_filter.mpr ⟨hc, hi⟩)
  · simpa [hi] using h
set_option maxRecDepth 65536 in
theorem w_c0 : (Jvm.Cond.code x code maxLocals ret).before args0 about1 = true := code_word (m := ⟨1, 2⟩) (meth := k1m2) (c := k1c2) (by decide +kernel) rfl rfl rfl (by decide +kernel)
set_option maxRecDepth 65536 in
theorem w_c1 : (Jvm.Cond.code ({ cls := "com/example/fate_of_jobs/fateofjobs/conformance/CaseFormatExceptionWithinPinLaw", name := "mk", desc := "(II)Ljava/lang/String;" } : Jvm.MethodName) method_2_code (2 : Nat) (Option.some (Jvm.ClassFile.FieldType.object "java/lang/String"))).before args0 about1 = true := code_word (m := ⟨1, 1⟩) (meth := k1m1) (c := k1c1) (by decide +kernel) rfl rfl rfl (by decide +kernel)
set_option maxRecDepth 65536 in
theorem w_c2 : (Jvm.Cond.code ({ cls := "java/lang/String", name := "<init>", desc := "([C)V" } : Jvm.MethodName) jdk_42_method_3_code (2 : Nat) (Option.none : Option Jvm.ClassFile.FieldType)).before args0 about1 = true := code_word (m := ⟨7, 1⟩) (meth := k7m1) (c := k7c1) (by decide +kernel) rfl rfl rfl (by decide +kernel)
set_option maxRecDepth 65536 in
theorem w_c3 : (Jvm.Cond.code ({ cls := "java/lang/String", name := "<init>", desc := "([CIILjava/lang/Void;)V" } : Jvm.MethodName) jdk_42_method_149_code (6 : Nat) (Option.none : Option Jvm.ClassFile.FieldType)).before args0 about1 = true := code_word (m := ⟨7, 8⟩) (meth := k7m8) (c := k7c8) (by decide +kernel) rfl rfl rfl (by decide +kernel)
set_option maxRecDepth 65536 in
theorem w_c4 : (Jvm.Cond.code ({ cls := "java/lang/Object", name := "<init>", desc := "()V" } : Jvm.MethodName) object_method_1_code (1 : Nat) (Option.none : Option Jvm.ClassFile.FieldType)).before args0 about1 = true := code_word (m := ⟨0, 0⟩) (meth := k0m0) (c := k0c0) (by decide +kernel) rfl rfl rfl (by decide +kernel)
set_option maxRecDepth 65536 in
theorem w_c5 : (Jvm.Cond.code ({ cls := "java/lang/StringUTF16", name := "compress", desc := "([CII)[B" } : Jvm.MethodName) jdk_52_method_16_code (6 : Nat) (Option.some (Jvm.ClassFile.FieldType.array Jvm.ClassFile.FieldType.byte))).before args0 about1 = true := code_word (m := ⟨8, 8⟩) (meth := k8m8) (c := k8c8) (by decide +kernel) rfl rfl rfl (by decide +kernel)
set_option maxRecDepth 65536 in
theorem w_c6 : (Jvm.Cond.code ({ cls := "java/lang/StringUTF16", name := "compress", desc := "([CI[BII)I" } : Jvm.MethodName) jdk_52_method_21_code (7 : Nat) (Option.some Jvm.ClassFile.FieldType.int)).before args0 about1 = true := code_word (m := ⟨8, 9⟩) (meth := k8m9) (c := k8c9) (by decide +kernel) rfl rfl rfl (by decide +kernel)
set_option maxRecDepth 65536 in
theorem w_c7 : (Jvm.Cond.code ({ cls := "java/lang/StringUTF16", name := "coderFromArrayLen", desc := "([BI)B" } : Jvm.MethodName) jdk_52_method_15_code (2 : Nat) (Option.some Jvm.ClassFile.FieldType.byte)).before args0 about1 = true := code_word (m := ⟨8, 7⟩) (meth := k8m7) (c := k8c7) (by decide +kernel) rfl rfl rfl (by decide +kernel)
set_option maxRecDepth 65536 in
theorem w_c8 : (Jvm.Cond.code ({ cls := "com/example/fate_of_jobs/fateofjobs/conformance/CaseFormatException", name := "<init>", desc := "(Ljava/lang/String;)V" } : Jvm.MethodName) prog_4_method_1_code (2 : Nat) (Option.none : Option Jvm.ClassFile.FieldType)).before args0 about1 = true := code_word (m := ⟨11, 0⟩) (meth := k11m0) (c := k11c0) (by decide +kernel) rfl rfl rfl (by decide +kernel)
set_option maxRecDepth 65536 in
theorem w_c9 : (Jvm.Cond.code ({ cls := "java/lang/Exception", name := "<init>", desc := "(Ljava/lang/String;)V" } : Jvm.MethodName) jdk_59_method_2_code (2 : Nat) (Option.none : Option Jvm.ClassFile.FieldType)).before args0 about1 = true := code_word (m := ⟨10, 1⟩) (meth := k10m1) (c := k10c1) (by decide +kernel) rfl rfl rfl (by decide +kernel)
set_option maxRecDepth 65536 in
theorem w_c10 : (Jvm.Cond.code ({ cls := "java/lang/Throwable", name := "<init>", desc := "(Ljava/lang/String;)V" } : Jvm.MethodName) jdk_78_method_2_code (2 : Nat) (Option.none : Option Jvm.ClassFile.FieldType)).before args0 about1 = true := code_word (m := ⟨9, 1⟩) (meth := k9m1) (c := k9c1) (by decide +kernel) rfl rfl rfl (by decide +kernel)
set_option maxRecDepth 65536 in
theorem w_c11 : (Jvm.Cond.code ({ cls := "java/lang/Throwable", name := "<init>", desc := "()V" } : Jvm.MethodName) jdk_78_method_1_code (1 : Nat) (Option.none : Option Jvm.ClassFile.FieldType)).before args0 about1 = true := code_word (m := ⟨9, 0⟩) (meth := k9m0) (c := k9c0) (by decide +kernel) rfl rfl rfl (by decide +kernel)
set_option maxRecDepth 65536 in
theorem w_c12 : (Jvm.Cond.code ({ cls := "com/example/fate_of_jobs/fateofjobs/conformance/CaseFormatException", name := "within", desc := "(Ljava/lang/String;)Lcom/example/fate_of_jobs/fateofjobs/conformance/CaseFormatException;" } : Jvm.MethodName) prog_4_method_2_code (2 : Nat) (Option.some (Jvm.ClassFile.FieldType.object "com/example/fate_of_jobs/fateofjobs/conformance/CaseFormatException"))).before args0 about1 = true := code_word (m := ⟨11, 1⟩) (meth := k11m1) (c := k11c1) (by decide +kernel) rfl rfl rfl (by decide +kernel)
set_option maxRecDepth 65536 in
theorem w_c13 : (Jvm.Cond.code ({ cls := "java/lang/StringBuilder", name := "<init>", desc := "()V" } : Jvm.MethodName) jdk_67_method_1_code (1 : Nat) (Option.none : Option Jvm.ClassFile.FieldType)).before args0 about1 = true := code_word (m := ⟨14, 0⟩) (meth := k14m0) (c := k14c0) (by decide +kernel) rfl rfl rfl (by decide +kernel)
set_option maxRecDepth 65536 in
theorem w_c14 : (Jvm.Cond.code ({ cls := "java/lang/AbstractStringBuilder", name := "<init>", desc := "(I)V" } : Jvm.MethodName) jdk_68_method_2_code (2 : Nat) (Option.none : Option Jvm.ClassFile.FieldType)).before args0 about1 = true := code_word (m := ⟨13, 1⟩) (meth := k13m1) (c := k13c1) (by decide +kernel) rfl rfl rfl (by decide +kernel)
set_option maxRecDepth 65536 in
theorem w_c15 : (Jvm.Cond.code ({ cls := "java/lang/StringBuilder", name := "append", desc := "(Ljava/lang/String;)Ljava/lang/StringBuilder;" } : Jvm.MethodName) jdk_67_method_7_code (2 : Nat) (Option.some (Jvm.ClassFile.FieldType.object "java/lang/StringBuilder"))).before args0 about1 = true := code_word (m := ⟨14, 1⟩) (meth := k14m1) (c := k14c1) (by decide +kernel) rfl rfl rfl (by decide +kernel)
set_option maxRecDepth 65536 in
theorem w_c16 : (Jvm.Cond.code ({ cls := "java/lang/AbstractStringBuilder", name := "append", desc := "(Ljava/lang/String;)Ljava/lang/AbstractStringBuilder;" } : Jvm.MethodName) jdk_68_method_22_code (3 : Nat) (Option.some (Jvm.ClassFile.FieldType.object "java/lang/AbstractStringBuilder"))).before args0 about1 = true := code_word (m := ⟨13, 5⟩) (meth := k13m5) (c := k13c5) (by decide +kernel) rfl rfl rfl (by decide +kernel)
set_option maxRecDepth 65536 in
theorem w_c17 : (Jvm.Cond.code ({ cls := "java/lang/String", name := "length", desc := "()I" } : Jvm.MethodName) jdk_42_method_54_code (1 : Nat) (Option.some Jvm.ClassFile.FieldType.int)).before args0 about1 = true := code_word (m := ⟨7, 3⟩) (meth := k7m3) (c := k7c3) (by decide +kernel) rfl rfl rfl (by decide +kernel)
set_option maxRecDepth 65536 in
theorem w_c18 : (Jvm.Cond.code ({ cls := "java/lang/String", name := "coder", desc := "()B" } : Jvm.MethodName) jdk_42_method_152_code (1 : Nat) (Option.some Jvm.ClassFile.FieldType.byte)).before args0 about1 = true := code_word (m := ⟨7, 11⟩) (meth := k7m11) (c := k7c11) (by decide +kernel) rfl rfl rfl (by decide +kernel)
set_option maxRecDepth 65536 in
theorem w_c19 : (Jvm.Cond.code ({ cls := "java/lang/AbstractStringBuilder", name := "ensureCapacityInternal", desc := "(I)V" } : Jvm.MethodName) jdk_68_method_9_code (3 : Nat) (Option.none : Option Jvm.ClassFile.FieldType)).before args0 about1 = true := code_word (m := ⟨13, 3⟩) (meth := k13m3) (c := k13c3) (by decide +kernel) rfl rfl rfl (by decide +kernel)
set_option maxRecDepth 65536 in
theorem w_c20 : (Jvm.Cond.code ({ cls := "java/lang/AbstractStringBuilder", name := "putStringAt", desc := "(ILjava/lang/String;)V" } : Jvm.MethodName) jdk_68_method_73_code (3 : Nat) (Option.none : Option Jvm.ClassFile.FieldType)).before args0 about1 = true := code_word (m := ⟨13, 9⟩) (meth := k13m9) (c := k13c9) (by decide +kernel) rfl rfl rfl (by decide +kernel)
set_option maxRecDepth 65536 in
theorem w_c21 : (Jvm.Cond.code ({ cls := "java/lang/AbstractStringBuilder", name := "inflateIfNeededFor", desc := "(Ljava/lang/String;)V" } : Jvm.MethodName) jdk_68_method_71_code (2 : Nat) (Option.none : Option Jvm.ClassFile.FieldType)).before args0 about1 = true := code_word (m := ⟨13, 8⟩) (meth := k13m8) (c := k13c8) (by decide +kernel) rfl rfl rfl (by decide +kernel)
set_option maxRecDepth 65536 in
theorem w_c22 : (Jvm.Cond.code ({ cls := "java/lang/String", name := "getBytes", desc := "([BIB)V" } : Jvm.MethodName) jdk_42_method_147_code (4 : Nat) (Option.none : Option Jvm.ClassFile.FieldType)).before args0 about1 = true := code_word (m := ⟨7, 7⟩) (meth := k7m7) (c := k7c7) (by decide +kernel) rfl rfl rfl (by decide +kernel)
set_option maxRecDepth 65536 in
theorem w_c23 : (Jvm.Cond.code ({ cls := "java/lang/Throwable", name := "getMessage", desc := "()Ljava/lang/String;" } : Jvm.MethodName) jdk_78_method_6_code (1 : Nat) (Option.some (Jvm.ClassFile.FieldType.object "java/lang/String"))).before args0 about1 = true := code_word (m := ⟨9, 2⟩) (meth := k9m2) (c := k9c2) (by decide +kernel) rfl rfl rfl (by decide +kernel)
set_option maxRecDepth 65536 in
theorem w_c24 : (Jvm.Cond.code ({ cls := "java/lang/StringBuilder", name := "toString", desc := "()Ljava/lang/String;" } : Jvm.MethodName) jdk_67_method_42_code (1 : Nat) (Option.some (Jvm.ClassFile.FieldType.object "java/lang/String"))).before args0 about1 = true := code_word (m := ⟨14, 2⟩) (meth := k14m2) (c := k14c2) (by decide +kernel) rfl rfl rfl (by decide +kernel)
set_option maxRecDepth 65536 in
theorem w_c25 : (Jvm.Cond.code ({ cls := "java/lang/String", name := "<init>", desc := "(Ljava/lang/StringBuilder;)V" } : Jvm.MethodName) jdk_42_method_53_code (2 : Nat) (Option.none : Option Jvm.ClassFile.FieldType)).before args0 about1 = true := code_word (m := ⟨7, 2⟩) (meth := k7m2) (c := k7c2) (by decide +kernel) rfl rfl rfl (by decide +kernel)
set_option maxRecDepth 65536 in
theorem w_c26 : (Jvm.Cond.code ({ cls := "java/lang/String", name := "<init>", desc := "(Ljava/lang/AbstractStringBuilder;Ljava/lang/Void;)V" } : Jvm.MethodName) jdk_42_method_150_code (5 : Nat) (Option.none : Option Jvm.ClassFile.FieldType)).before args0 about1 = true := code_word (m := ⟨7, 9⟩) (meth := k7m9) (c := k7c9) (by decide +kernel) rfl rfl rfl (by decide +kernel)
set_option maxRecDepth 65536 in
theorem w_c27 : (Jvm.Cond.code ({ cls := "java/lang/AbstractStringBuilder", name := "getValue", desc := "()[B" } : Jvm.MethodName) jdk_68_method_64_code (1 : Nat) (Option.some (Jvm.ClassFile.FieldType.array Jvm.ClassFile.FieldType.byte))).before args0 about1 = true := code_word (m := ⟨13, 6⟩) (meth := k13m6) (c := k13c6) (by decide +kernel) rfl rfl rfl (by decide +kernel)
set_option maxRecDepth 65536 in
theorem w_c28 : (Jvm.Cond.code ({ cls := "java/lang/StringBuilder", name := "length", desc := "()I" } : Jvm.MethodName) jdk_67_method_93_code (1 : Nat) (Option.some Jvm.ClassFile.FieldType.int)).before args0 about1 = true := code_word (m := ⟨14, 3⟩) (meth := k14m3) (c := k14c3) (by decide +kernel) rfl rfl rfl (by decide +kernel)
set_option maxRecDepth 65536 in
theorem w_c29 : (Jvm.Cond.code ({ cls := "java/lang/AbstractStringBuilder", name := "length", desc := "()I" } : Jvm.MethodName) jdk_68_method_6_code (1 : Nat) (Option.some Jvm.ClassFile.FieldType.int)).before args0 about1 = true := code_word (m := ⟨13, 2⟩) (meth := k13m2) (c := k13c2) (by decide +kernel) rfl rfl rfl (by decide +kernel)
set_option maxRecDepth 65536 in
theorem w_c30 : (Jvm.Cond.code ({ cls := "java/lang/AbstractStringBuilder", name := "isLatin1", desc := "()Z" } : Jvm.MethodName) jdk_68_method_68_code (1 : Nat) (Option.some Jvm.ClassFile.FieldType.boolean)).before args0 about1 = true := code_word (m := ⟨13, 7⟩) (meth := k13m7) (c := k13c7) (by decide +kernel) rfl rfl rfl (by decide +kernel)
set_option maxRecDepth 65536 in
theorem w_c31 : (Jvm.Cond.code ({ cls := "java/util/Arrays", name := "copyOfRange", desc := "([BII)[B" } : Jvm.MethodName) jdk_65_method_132_code (3 : Nat) (Option.some (Jvm.ClassFile.FieldType.array Jvm.ClassFile.FieldType.byte))).before args0 about1 = true := code_word (m := ⟨16, 2⟩) (meth := k16m2) (c := k16c2) (by decide +kernel) rfl rfl rfl (by decide +kernel)
set_option maxRecDepth 65536 in
theorem w_c32 : (Jvm.Cond.code ({ cls := "java/util/Arrays", name := "copyOfRangeByte", desc := "([BII)[B" } : Jvm.MethodName) jdk_65_method_133_code (5 : Nat) (Option.some (Jvm.ClassFile.FieldType.array Jvm.ClassFile.FieldType.byte))).before args0 about1 = true := code_word (m := ⟨16, 3⟩) (meth := k16m3) (c := k16c3) (by decide +kernel) rfl rfl rfl (by decide +kernel)
set_option maxRecDepth 65536 in
theorem w_c33 : (Jvm.Cond.code ({ cls := "java/util/Arrays", name := "checkLength", desc := "(II)V" } : Jvm.MethodName) jdk_65_method_131_code (2 : Nat) (Option.none : Option Jvm.ClassFile.FieldType)).before args0 about1 = true := code_word (m := ⟨16, 1⟩) (meth := k16m1) (c := k16c1) (by decide +kernel) rfl rfl rfl (by decide +kernel)
set_option maxRecDepth 65536 in
theorem w_c34 : (Jvm.Cond.code ({ cls := "java/lang/Math", name := "min", desc := "(II)I" } : Jvm.MethodName) jdk_29_method_69_code (2 : Nat) (Option.some Jvm.ClassFile.FieldType.int)).before args0 about1 = true := code_word (m := ⟨17, 1⟩) (meth := k17m1) (c := k17c1) (by decide +kernel) rfl rfl rfl (by decide +kernel)
set_option maxRecDepth 65536 in
theorem w_c35 : (Jvm.Cond.code ({ cls := "java/lang/String", name := "charAt", desc := "(I)C" } : Jvm.MethodName) jdk_42_method_56_code (2 : Nat) (Option.some Jvm.ClassFile.FieldType.char)).before args0 about1 = true := code_word (m := ⟨7, 4⟩) (meth := k7m4) (c := k7c4) (by decide +kernel) rfl rfl rfl (by decide +kernel)
set_option maxRecDepth 65536 in
theorem w_c36 : (Jvm.Cond.code ({ cls := "java/lang/String", name := "isLatin1", desc := "()Z" } : Jvm.MethodName) jdk_42_method_154_code (1 : Nat) (Option.some Jvm.ClassFile.FieldType.boolean)).before args0 about1 = true := code_word (m := ⟨7, 12⟩) (meth := k7m12) (c := k7c12) (by decide +kernel) rfl rfl rfl (by decide +kernel)
set_option maxRecDepth 65536 in
theorem w_c37 : (Jvm.Cond.code ({ cls := "java/lang/StringLatin1", name := "charAt", desc := "([BI)C" } : Jvm.MethodName) jdk_43_method_2_code (2 : Nat) (Option.some Jvm.ClassFile.FieldType.char)).before args0 about1 = true := code_word (m := ⟨18, 1⟩) (meth := k18m1) (c := k18c1) (by decide +kernel) rfl rfl rfl (by decide +kernel)
set_option maxRecDepth 65536 in
theorem w_c38 : (Jvm.Cond.code ({ cls := "java/lang/String", name := "checkIndex", desc := "(II)V" } : Jvm.MethodName) jdk_42_method_155_code (2 : Nat) (Option.none : Option Jvm.ClassFile.FieldType)).before args0 about1 = true := code_word (m := ⟨7, 13⟩) (meth := k7m13) (c := k7c13) (by decide +kernel) rfl rfl rfl (by decide +kernel)
set_option maxRecDepth 65536 in
theorem w_c39 : (Jvm.Cond.code ({ cls := "jdk/internal/util/Preconditions", name := "checkIndex", desc := "(IILjava/util/function/BiFunction;)I" } : Jvm.MethodName) jdk_41_method_11_code (3 : Nat) (Option.some Jvm.ClassFile.FieldType.int)).before args0 about1 = true := code_word (m := ⟨19, 1⟩) (meth := k19m1) (c := k19c1) (by decide +kernel) rfl rfl rfl (by decide +kernel)
set_option maxRecDepth 65536 in
theorem w_c40 : (Jvm.Cond.code ({ cls := "java/lang/String", name := "equals", desc := "(Ljava/lang/Object;)Z" } : Jvm.MethodName) jdk_42_method_66_code (3 : Nat) (Option.some Jvm.ClassFile.FieldType.boolean)).before args0 about1 = true := code_word (m := ⟨7, 5⟩) (meth := k7m5) (c := k7c5) (by decide +kernel) rfl rfl rfl (by decide +kernel)
set_option maxRecDepth 65536 in
theorem w_c41 : (Jvm.Cond.code ({ cls := "java/lang/String", name := "valueOf", desc := "(C)Ljava/lang/String;" } : Jvm.MethodName) jdk_42_method_139_code (1 : Nat) (Option.some (Jvm.ClassFile.FieldType.object "java/lang/String"))).before args0 about1 = true := code_word (m := ⟨7, 6⟩) (meth := k7m6) (c := k7c6) (by decide +kernel) rfl rfl rfl (by decide +kernel)
set_option maxRecDepth 65536 in
theorem w_c42 : (Jvm.Cond.code ({ cls := "java/lang/StringLatin1", name := "canEncode", desc := "(C)Z" } : Jvm.MethodName) jdk_43_method_3_code (1 : Nat) (Option.some Jvm.ClassFile.FieldType.boolean)).before args0 about1 = true := code_word (m := ⟨18, 2⟩) (meth := k18m2) (c := k18c2) (by decide +kernel) rfl rfl rfl (by decide +kernel)
set_option maxRecDepth 65536 in
theorem w_c43 : (Jvm.Cond.code ({ cls := "java/lang/StringUTF16", name := "toBytes", desc := "(C)[B" } : Jvm.MethodName) jdk_52_method_24_code (2 : Nat) (Option.some (Jvm.ClassFile.FieldType.array Jvm.ClassFile.FieldType.byte))).before args0 about1 = true := code_word (m := ⟨8, 10⟩) (meth := k8m10) (c := k8c10) (by decide +kernel) rfl rfl rfl (by decide +kernel)
set_option maxRecDepth 65536 in
theorem w_c44 : (Jvm.Cond.code ({ cls := "java/lang/StringUTF16", name := "putChar", desc := "([BII)V" } : Jvm.MethodName) jdk_52_method_4_code (3 : Nat) (Option.none : Option Jvm.ClassFile.FieldType)).before args0 about1 = true := code_word (m := ⟨8, 3⟩) (meth := k8m3) (c := k8c3) (by decide +kernel) rfl rfl rfl (by decide +kernel)
set_option maxRecDepth 65536 in
theorem w_c45 : (Jvm.Cond.code ({ cls := "java/lang/String", name := "<init>", desc := "([BB)V" } : Jvm.MethodName) jdk_42_method_151_code (3 : Nat) (Option.none : Option Jvm.ClassFile.FieldType)).before args0 about1 = true := code_word (m := ⟨7, 10⟩) (meth := k7m10) (c := k7c10) (by decide +kernel) rfl rfl rfl (by decide +kernel)
set_option maxRecDepth 65536 in
theorem w_c46 : (Jvm.Cond.code ({ cls := "java/lang/AbstractStringBuilder", name := "inflate", desc := "()V" } : Jvm.MethodName) jdk_68_method_11_code (2 : Nat) (Option.none : Option Jvm.ClassFile.FieldType)).before args0 about1 = true := code_word (m := ⟨13, 4⟩) (meth := k13m4) (c := k13c4) (by decide +kernel) rfl rfl rfl (by decide +kernel)
set_option maxRecDepth 65536 in
theorem w_c47 : (Jvm.Cond.code ({ cls := "java/lang/StringUTF16", name := "newBytesFor", desc := "(I)[B" } : Jvm.MethodName) jdk_52_method_2_code (1 : Nat) (Option.some (Jvm.ClassFile.FieldType.array Jvm.ClassFile.FieldType.byte))).before args0 about1 = true := code_word (m := ⟨8, 1⟩) (meth := k8m1) (c := k8c1) (by decide +kernel) rfl rfl rfl (by decide +kernel)
set_option maxRecDepth 65536 in
theorem w_c48 : (Jvm.Cond.code ({ cls := "java/lang/StringUTF16", name := "newBytesLength", desc := "(I)I" } : Jvm.MethodName) jdk_52_method_3_code (1 : Nat) (Option.some Jvm.ClassFile.FieldType.int)).before args0 about1 = true := code_word (m := ⟨8, 2⟩) (meth := k8m2) (c := k8c2) (by decide +kernel) rfl rfl rfl (by decide +kernel)
set_option maxRecDepth 65536 in
theorem w_c49 : (Jvm.Cond.code ({ cls := "java/lang/StringLatin1", name := "inflate", desc := "([BI[BII)V" } : Jvm.MethodName) jdk_43_method_50_code (5 : Nat) (Option.none : Option Jvm.ClassFile.FieldType)).before args0 about1 = true := code_word (m := ⟨18, 4⟩) (meth := k18m4) (c := k18c4) (by decide +kernel) rfl rfl rfl (by decide +kernel)
set_option maxRecDepth 65536 in
theorem w_c50 : (Jvm.Cond.code ({ cls := "java/lang/StringUTF16", name := "inflate", desc := "([BI[BII)V" } : Jvm.MethodName) jdk_52_method_86_code (6 : Nat) (Option.none : Option Jvm.ClassFile.FieldType)).before args0 about1 = true := code_word (m := ⟨8, 12⟩) (meth := k8m12) (c := k8c12) (by decide +kernel) rfl rfl rfl (by decide +kernel)
set_option maxRecDepth 65536 in
theorem w_c51 : (Jvm.Cond.code ({ cls := "java/lang/StringUTF16", name := "checkBoundsOffCount", desc := "(II[B)V" } : Jvm.MethodName) jdk_52_method_94_code (3 : Nat) (Option.none : Option Jvm.ClassFile.FieldType)).before args0 about1 = true := code_word (m := ⟨8, 14⟩) (meth := k8m14) (c := k8c14) (by decide +kernel) rfl rfl rfl (by decide +kernel)
set_option maxRecDepth 65536 in
theorem w_c52 : (Jvm.Cond.code ({ cls := "java/lang/StringUTF16", name := "length", desc := "([B)I" } : Jvm.MethodName) jdk_52_method_6_code (1 : Nat) (Option.some Jvm.ClassFile.FieldType.int)).before args0 about1 = true := code_word (m := ⟨8, 5⟩) (meth := k8m5) (c := k8c5) (by decide +kernel) rfl rfl rfl (by decide +kernel)
set_option maxRecDepth 65536 in
theorem w_c53 : (Jvm.Cond.code ({ cls := "java/lang/String", name := "checkBoundsOffCount", desc := "(III)I" } : Jvm.MethodName) jdk_42_method_157_code (3 : Nat) (Option.some Jvm.ClassFile.FieldType.int)).before args0 about1 = true := code_word (m := ⟨7, 14⟩) (meth := k7m14) (c := k7c14) (by decide +kernel) rfl rfl rfl (by decide +kernel)
set_option maxRecDepth 65536 in
theorem w_c54 : (Jvm.Cond.code ({ cls := "jdk/internal/util/Preconditions", name := "checkFromIndexSize", desc := "(IIILjava/util/function/BiFunction;)I" } : Jvm.MethodName) jdk_41_method_13_code (4 : Nat) (Option.some Jvm.ClassFile.FieldType.int)).before args0 about1 = true := code_word (m := ⟨19, 2⟩) (meth := k19m2) (c := k19c2) (by decide +kernel) rfl rfl rfl (by decide +kernel)
set_option maxRecDepth 65536 in
theorem w_c55 : (Jvm.Cond.code ({ cls := "java/lang/StringUTF16", name := "charAt", desc := "([BI)C" } : Jvm.MethodName) jdk_52_method_83_code (2 : Nat) (Option.some Jvm.ClassFile.FieldType.char)).before args0 about1 = true := code_word (m := ⟨8, 11⟩) (meth := k8m11) (c := k8c11) (by decide +kernel) rfl rfl rfl (by decide +kernel)
set_option maxRecDepth 65536 in
theorem w_c56 : (Jvm.Cond.code ({ cls := "java/lang/StringUTF16", name := "checkIndex", desc := "(I[B)V" } : Jvm.MethodName) jdk_52_method_91_code (2 : Nat) (Option.none : Option Jvm.ClassFile.FieldType)).before args0 about1 = true := code_word (m := ⟨8, 13⟩) (meth := k8m13) (c := k8c13) (by decide +kernel) rfl rfl rfl (by decide +kernel)
set_option maxRecDepth 65536 in
theorem w_c57 : (Jvm.Cond.code ({ cls := "java/lang/StringUTF16", name := "getChar", desc := "([BI)C" } : Jvm.MethodName) jdk_52_method_5_code (2 : Nat) (Option.some Jvm.ClassFile.FieldType.char)).before args0 about1 = true := code_word (m := ⟨8, 4⟩) (meth := k8m4) (c := k8c4) (by decide +kernel) rfl rfl rfl (by decide +kernel)
set_option maxRecDepth 65536 in
theorem w_c58 : (Jvm.Cond.code ({ cls := "java/lang/StringLatin1", name := "toBytes", desc := "(C)[B" } : Jvm.MethodName) jdk_43_method_46_code (1 : Nat) (Option.some (Jvm.ClassFile.FieldType.array Jvm.ClassFile.FieldType.byte))).before args0 about1 = true := code_word (m := ⟨18, 3⟩) (meth := k18m3) (c := k18c3) (by decide +kernel) rfl rfl rfl (by decide +kernel)
set_option maxRecDepth 65536 in
theorem w_c59 : (Jvm.Cond.code ({ cls := "java/lang/StringUTF16", name := "toBytes", desc := "([CII)[B" } : Jvm.MethodName) jdk_52_method_14_code (5 : Nat) (Option.some (Jvm.ClassFile.FieldType.array Jvm.ClassFile.FieldType.byte))).before args0 about1 = true := code_word (m := ⟨8, 6⟩) (meth := k8m6) (c := k8c6) (by decide +kernel) rfl rfl rfl (by decide +kernel)
def codes1 : List Jvm.Cond := [Jvm.Cond.code x code maxLocals ret, Jvm.Cond.code ({ cls := "com/example/fate_of_jobs/fateofjobs/conformance/CaseFormatExceptionWithinPinLaw", name := "mk", desc := "(II)Ljava/lang/String;" } : Jvm.MethodName) method_2_code (2 : Nat) (Option.some (Jvm.ClassFile.FieldType.object "java/lang/String")), Jvm.Cond.code ({ cls := "java/lang/String", name := "<init>", desc := "([C)V" } : Jvm.MethodName) jdk_42_method_3_code (2 : Nat) (Option.none : Option Jvm.ClassFile.FieldType), Jvm.Cond.code ({ cls := "java/lang/String", name := "<init>", desc := "([CIILjava/lang/Void;)V" } : Jvm.MethodName) jdk_42_method_149_code (6 : Nat) (Option.none : Option Jvm.ClassFile.FieldType), Jvm.Cond.code ({ cls := "java/lang/Object", name := "<init>", desc := "()V" } : Jvm.MethodName) object_method_1_code (1 : Nat) (Option.none : Option Jvm.ClassFile.FieldType), Jvm.Cond.code ({ cls := "java/lang/StringUTF16", name := "compress", desc := "([CII)[B" } : Jvm.MethodName) jdk_52_method_16_code (6 : Nat) (Option.some (Jvm.ClassFile.FieldType.array Jvm.ClassFile.FieldType.byte)), Jvm.Cond.code ({ cls := "java/lang/StringUTF16", name := "compress", desc := "([CI[BII)I" } : Jvm.MethodName) jdk_52_method_21_code (7 : Nat) (Option.some Jvm.ClassFile.FieldType.int), Jvm.Cond.code ({ cls := "java/lang/StringUTF16", name := "coderFromArrayLen", desc := "([BI)B" } : Jvm.MethodName) jdk_52_method_15_code (2 : Nat) (Option.some Jvm.ClassFile.FieldType.byte), Jvm.Cond.code ({ cls := "com/example/fate_of_jobs/fateofjobs/conformance/CaseFormatException", name := "<init>", desc := "(Ljava/lang/String;)V" } : Jvm.MethodName) prog_4_method_1_code (2 : Nat) (Option.none : Option Jvm.ClassFile.FieldType), Jvm.Cond.code ({ cls := "java/lang/Exception", name := "<init>", desc := "(Ljava/lang/String;)V" } : Jvm.MethodName) jdk_59_method_2_code (2 : Nat) (Option.none : Option Jvm.ClassFile.FieldType), Jvm.Cond.code ({ cls := "java/lang/Throwable", name := "<init>", desc := "(Ljava/lang/String;)V" } : Jvm.MethodName) jdk_78_method_2_code (2 : Nat) (Option.none : Option Jvm.ClassFile.FieldType), Jvm.Cond.code ({ cls := "java/lang/Throwable", name := "<init>", desc := "()V" } : Jvm.MethodName) jdk_78_method_1_code (1 : Nat) (Option.none : Option Jvm.ClassFile.FieldType), Jvm.Cond.code ({ cls := "com/example/fate_of_jobs/fateofjobs/conformance/CaseFormatException", name := "within", desc := "(Ljava/lang/String;)Lcom/example/fate_of_jobs/fateofjobs/conformance/CaseFormatException;" } : Jvm.MethodName) prog_4_method_2_code (2 : Nat) (Option.some (Jvm.ClassFile.FieldType.object "com/example/fate_of_jobs/fateofjobs/conformance/CaseFormatException")), Jvm.Cond.code ({ cls := "java/lang/StringBuilder", name := "<init>", desc := "()V" } : Jvm.MethodName) jdk_67_method_1_code (1 : Nat) (Option.none : Option Jvm.ClassFile.FieldType), Jvm.Cond.code ({ cls := "java/lang/AbstractStringBuilder", name := "<init>", desc := "(I)V" } : Jvm.MethodName) jdk_68_method_2_code (2 : Nat) (Option.none : Option Jvm.ClassFile.FieldType), Jvm.Cond.code ({ cls := "java/lang/StringBuilder", name := "append", desc := "(Ljava/lang/String;)Ljava/lang/StringBuilder;" } : Jvm.MethodName) jdk_67_method_7_code (2 : Nat) (Option.some (Jvm.ClassFile.FieldType.object "java/lang/StringBuilder")), Jvm.Cond.code ({ cls := "java/lang/AbstractStringBuilder", name := "append", desc := "(Ljava/lang/String;)Ljava/lang/AbstractStringBuilder;" } : Jvm.MethodName) jdk_68_method_22_code (3 : Nat) (Option.some (Jvm.ClassFile.FieldType.object "java/lang/AbstractStringBuilder")), Jvm.Cond.code ({ cls := "java/lang/String", name := "length", desc := "()I" } : Jvm.MethodName) jdk_42_method_54_code (1 : Nat) (Option.some Jvm.ClassFile.FieldType.int), Jvm.Cond.code ({ cls := "java/lang/String", name := "coder", desc := "()B" } : Jvm.MethodName) jdk_42_method_152_code (1 : Nat) (Option.some Jvm.ClassFile.FieldType.byte), Jvm.Cond.code ({ cls := "java/lang/AbstractStringBuilder", name := "ensureCapacityInternal", desc := "(I)V" } : Jvm.MethodName) jdk_68_method_9_code (3 : Nat) (Option.none : Option Jvm.ClassFile.FieldType), Jvm.Cond.code ({ cls := "java/lang/AbstractStringBuilder", name := "putStringAt", desc := "(ILjava/lang/String;)V" } : Jvm.MethodName) jdk_68_method_73_code (3 : Nat) (Option.none : Option Jvm.ClassFile.FieldType), Jvm.Cond.code ({ cls := "java/lang/AbstractStringBuilder", name := "inflateIfNeededFor", desc := "(Ljava/lang/String;)V" } : Jvm.MethodName) jdk_68_method_71_code (2 : Nat) (Option.none : Option Jvm.ClassFile.FieldType), Jvm.Cond.code ({ cls := "java/lang/String", name := "getBytes", desc := "([BIB)V" } : Jvm.MethodName) jdk_42_method_147_code (4 : Nat) (Option.none : Option Jvm.ClassFile.FieldType), Jvm.Cond.code ({ cls := "java/lang/Throwable", name := "getMessage", desc := "()Ljava/lang/String;" } : Jvm.MethodName) jdk_78_method_6_code (1 : Nat) (Option.some (Jvm.ClassFile.FieldType.object "java/lang/String")), Jvm.Cond.code ({ cls := "java/lang/StringBuilder", name := "toString", desc := "()Ljava/lang/String;" } : Jvm.MethodName) jdk_67_method_42_code (1 : Nat) (Option.some (Jvm.ClassFile.FieldType.object "java/lang/String")), Jvm.Cond.code ({ cls := "java/lang/String", name := "<init>", desc := "(Ljava/lang/StringBuilder;)V" } : Jvm.MethodName) jdk_42_method_53_code (2 : Nat) (Option.none : Option Jvm.ClassFile.FieldType), Jvm.Cond.code ({ cls := "java/lang/String", name := "<init>", desc := "(Ljava/lang/AbstractStringBuilder;Ljava/lang/Void;)V" } : Jvm.MethodName) jdk_42_method_150_code (5 : Nat) (Option.none : Option Jvm.ClassFile.FieldType), Jvm.Cond.code ({ cls := "java/lang/AbstractStringBuilder", name := "getValue", desc := "()[B" } : Jvm.MethodName) jdk_68_method_64_code (1 : Nat) (Option.some (Jvm.ClassFile.FieldType.array Jvm.ClassFile.FieldType.byte)), Jvm.Cond.code ({ cls := "java/lang/StringBuilder", name := "length", desc := "()I" } : Jvm.MethodName) jdk_67_method_93_code (1 : Nat) (Option.some Jvm.ClassFile.FieldType.int), Jvm.Cond.code ({ cls := "java/lang/AbstractStringBuilder", name := "length", desc := "()I" } : Jvm.MethodName) jdk_68_method_6_code (1 : Nat) (Option.some Jvm.ClassFile.FieldType.int), Jvm.Cond.code ({ cls := "java/lang/AbstractStringBuilder", name := "isLatin1", desc := "()Z" } : Jvm.MethodName) jdk_68_method_68_code (1 : Nat) (Option.some Jvm.ClassFile.FieldType.boolean), Jvm.Cond.code ({ cls := "java/util/Arrays", name := "copyOfRange", desc := "([BII)[B" } : Jvm.MethodName) jdk_65_method_132_code (3 : Nat) (Option.some (Jvm.ClassFile.FieldType.array Jvm.ClassFile.FieldType.byte)), Jvm.Cond.code ({ cls := "java/util/Arrays", name := "copyOfRangeByte", desc := "([BII)[B" } : Jvm.MethodName) jdk_65_method_133_code (5 : Nat) (Option.some (Jvm.ClassFile.FieldType.array Jvm.ClassFile.FieldType.byte)), Jvm.Cond.code ({ cls := "java/util/Arrays", name := "checkLength", desc := "(II)V" } : Jvm.MethodName) jdk_65_method_131_code (2 : Nat) (Option.none : Option Jvm.ClassFile.FieldType), Jvm.Cond.code ({ cls := "java/lang/Math", name := "min", desc := "(II)I" } : Jvm.MethodName) jdk_29_method_69_code (2 : Nat) (Option.some Jvm.ClassFile.FieldType.int), Jvm.Cond.code ({ cls := "java/lang/String", name := "charAt", desc := "(I)C" } : Jvm.MethodName) jdk_42_method_56_code (2 : Nat) (Option.some Jvm.ClassFile.FieldType.char), Jvm.Cond.code ({ cls := "java/lang/String", name := "isLatin1", desc := "()Z" } : Jvm.MethodName) jdk_42_method_154_code (1 : Nat) (Option.some Jvm.ClassFile.FieldType.boolean), Jvm.Cond.code ({ cls := "java/lang/StringLatin1", name := "charAt", desc := "([BI)C" } : Jvm.MethodName) jdk_43_method_2_code (2 : Nat) (Option.some Jvm.ClassFile.FieldType.char), Jvm.Cond.code ({ cls := "java/lang/String", name := "checkIndex", desc := "(II)V" } : Jvm.MethodName) jdk_42_method_155_code (2 : Nat) (Option.none : Option Jvm.ClassFile.FieldType), Jvm.Cond.code ({ cls := "jdk/internal/util/Preconditions", name := "checkIndex", desc := "(IILjava/util/function/BiFunction;)I" } : Jvm.MethodName) jdk_41_method_11_code (3 : Nat) (Option.some Jvm.ClassFile.FieldType.int), Jvm.Cond.code ({ cls := "java/lang/String", name := "equals", desc := "(Ljava/lang/Object;)Z" } : Jvm.MethodName) jdk_42_method_66_code (3 : Nat) (Option.some Jvm.ClassFile.FieldType.boolean), Jvm.Cond.code ({ cls := "java/lang/String", name := "valueOf", desc := "(C)Ljava/lang/String;" } : Jvm.MethodName) jdk_42_method_139_code (1 : Nat) (Option.some (Jvm.ClassFile.FieldType.object "java/lang/String")), Jvm.Cond.code ({ cls := "java/lang/StringLatin1", name := "canEncode", desc := "(C)Z" } : Jvm.MethodName) jdk_43_method_3_code (1 : Nat) (Option.some Jvm.ClassFile.FieldType.boolean), Jvm.Cond.code ({ cls := "java/lang/StringUTF16", name := "toBytes", desc := "(C)[B" } : Jvm.MethodName) jdk_52_method_24_code (2 : Nat) (Option.some (Jvm.ClassFile.FieldType.array Jvm.ClassFile.FieldType.byte)), Jvm.Cond.code ({ cls := "java/lang/StringUTF16", name := "putChar", desc := "([BII)V" } : Jvm.MethodName) jdk_52_method_4_code (3 : Nat) (Option.none : Option Jvm.ClassFile.FieldType), Jvm.Cond.code ({ cls := "java/lang/String", name := "<init>", desc := "([BB)V" } : Jvm.MethodName) jdk_42_method_151_code (3 : Nat) (Option.none : Option Jvm.ClassFile.FieldType), Jvm.Cond.code ({ cls := "java/lang/AbstractStringBuilder", name := "inflate", desc := "()V" } : Jvm.MethodName) jdk_68_method_11_code (2 : Nat) (Option.none : Option Jvm.ClassFile.FieldType), Jvm.Cond.code ({ cls := "java/lang/StringUTF16", name := "newBytesFor", desc := "(I)[B" } : Jvm.MethodName) jdk_52_method_2_code (1 : Nat) (Option.some (Jvm.ClassFile.FieldType.array Jvm.ClassFile.FieldType.byte)), Jvm.Cond.code ({ cls := "java/lang/StringUTF16", name := "newBytesLength", desc := "(I)I" } : Jvm.MethodName) jdk_52_method_3_code (1 : Nat) (Option.some Jvm.ClassFile.FieldType.int), Jvm.Cond.code ({ cls := "java/lang/StringLatin1", name := "inflate", desc := "([BI[BII)V" } : Jvm.MethodName) jdk_43_method_50_code (5 : Nat) (Option.none : Option Jvm.ClassFile.FieldType), Jvm.Cond.code ({ cls := "java/lang/StringUTF16", name := "inflate", desc := "([BI[BII)V" } : Jvm.MethodName) jdk_52_method_86_code (6 : Nat) (Option.none : Option Jvm.ClassFile.FieldType), Jvm.Cond.code ({ cls := "java/lang/StringUTF16", name := "checkBoundsOffCount", desc := "(II[B)V" } : Jvm.MethodName) jdk_52_method_94_code (3 : Nat) (Option.none : Option Jvm.ClassFile.FieldType), Jvm.Cond.code ({ cls := "java/lang/StringUTF16", name := "length", desc := "([B)I" } : Jvm.MethodName) jdk_52_method_6_code (1 : Nat) (Option.some Jvm.ClassFile.FieldType.int), Jvm.Cond.code ({ cls := "java/lang/String", name := "checkBoundsOffCount", desc := "(III)I" } : Jvm.MethodName) jdk_42_method_157_code (3 : Nat) (Option.some Jvm.ClassFile.FieldType.int), Jvm.Cond.code ({ cls := "jdk/internal/util/Preconditions", name := "checkFromIndexSize", desc := "(IIILjava/util/function/BiFunction;)I" } : Jvm.MethodName) jdk_41_method_13_code (4 : Nat) (Option.some Jvm.ClassFile.FieldType.int), Jvm.Cond.code ({ cls := "java/lang/StringUTF16", name := "charAt", desc := "([BI)C" } : Jvm.MethodName) jdk_52_method_83_code (2 : Nat) (Option.some Jvm.ClassFile.FieldType.char), Jvm.Cond.code ({ cls := "java/lang/StringUTF16", name := "checkIndex", desc := "(I[B)V" } : Jvm.MethodName) jdk_52_method_91_code (2 : Nat) (Option.none : Option Jvm.ClassFile.FieldType), Jvm.Cond.code ({ cls := "java/lang/StringUTF16", name := "getChar", desc := "([BI)C" } : Jvm.MethodName) jdk_52_method_5_code (2 : Nat) (Option.some Jvm.ClassFile.FieldType.char), Jvm.Cond.code ({ cls := "java/lang/StringLatin1", name := "toBytes", desc := "(C)[B" } : Jvm.MethodName) jdk_43_method_46_code (1 : Nat) (Option.some (Jvm.ClassFile.FieldType.array Jvm.ClassFile.FieldType.byte)), Jvm.Cond.code ({ cls := "java/lang/StringUTF16", name := "toBytes", desc := "([CII)[B" } : Jvm.MethodName) jdk_52_method_14_code (5 : Nat) (Option.some (Jvm.ClassFile.FieldType.array Jvm.ClassFile.FieldType.byte))]
set_option maxRecDepth 65536 in
theorem codes_eq : words1.filter isCode = codes1 := rfl
theorem w_codes : ∀ c ∈ words1.filter isCode, c.before args0 about1 = true := by
  rw [codes_eq]
  intro c hc
  simp only [codes1, List.mem_cons, List.not_mem_nil, or_false] at hc
  rcases hc with rfl | rfl | rfl | rfl | rfl | rfl | rfl | rfl | rfl | rfl | rfl | rfl | rfl | rfl | rfl | rfl | rfl | rfl | rfl | rfl | rfl | rfl | rfl | rfl | rfl | rfl | rfl | rfl | rfl | rfl | rfl | rfl | rfl | rfl | rfl | rfl | rfl | rfl | rfl | rfl | rfl | rfl | rfl | rfl | rfl | rfl | rfl | rfl | rfl | rfl | rfl | rfl | rfl | rfl | rfl | rfl | rfl | rfl | rfl | rfl
  · exact w_c0
  · exact w_c1
  · exact w_c2
  · exact w_c3
  · exact w_c4
  · exact w_c5
  · exact w_c6
  · exact w_c7
  · exact w_c8
  · exact w_c9
  · exact w_c10
  · exact w_c11
  · exact w_c12
  · exact w_c13
  · exact w_c14
  · exact w_c15
  · exact w_c16
  · exact w_c17
  · exact w_c18
  · exact w_c19
  · exact w_c20
  · exact w_c21
  · exact w_c22
  · exact w_c23
  · exact w_c24
  · exact w_c25
  · exact w_c26
  · exact w_c27
  · exact w_c28
  · exact w_c29
  · exact w_c30
  · exact w_c31
  · exact w_c32
  · exact w_c33
  · exact w_c34
  · exact w_c35
  · exact w_c36
  · exact w_c37
  · exact w_c38
  · exact w_c39
  · exact w_c40
  · exact w_c41
  · exact w_c42
  · exact w_c43
  · exact w_c44
  · exact w_c45
  · exact w_c46
  · exact w_c47
  · exact w_c48
  · exact w_c49
  · exact w_c50
  · exact w_c51
  · exact w_c52
  · exact w_c53
  · exact w_c54
  · exact w_c55
  · exact w_c56
  · exact w_c57
  · exact w_c58
  · exact w_c59
set_option maxRecDepth 65536 in
theorem w_t1 : (words1.take 24).all (fun c => isCode c || c.before args0 about1) = true := by decide +kernel
set_option maxRecDepth 65536 in
theorem w_t2 : ((words1.drop 24).take 24).all (fun c => isCode c || c.before args0 about1) = true := by decide +kernel
set_option maxRecDepth 65536 in
theorem w_t3 : (((words1.drop 24).drop 24).take 24).all (fun c => isCode c || c.before args0 about1) = true := by decide +kernel
set_option maxRecDepth 65536 in
theorem w_t4 : ((((words1.drop 24).drop 24).drop 24).take 24).all (fun c => isCode c || c.before args0 about1) = true := by decide +kernel
set_option maxRecDepth 65536 in
theorem w_t5 : (((((words1.drop 24).drop 24).drop 24).drop 24).take 24).all (fun c => isCode c || c.before args0 about1) = true := by decide +kernel
set_option maxRecDepth 65536 in
theorem w_t6 : ((((((words1.drop 24).drop 24).drop 24).drop 24).drop 24).take 24).all (fun c => isCode c || c.before args0 about1) = true := by decide +kernel
set_option maxRecDepth 65536 in
theorem w_t7 : (((((((words1.drop 24).drop 24).drop 24).drop 24).drop 24).drop 24).take 24).all (fun c => isCode c || c.before args0 about1) = true := by decide +kernel
set_option maxRecDepth 65536 in
theorem w_t8 : ((((((((words1.drop 24).drop 24).drop 24).drop 24).drop 24).drop 24).drop 24).take 24).all (fun c => isCode c || c.before args0 about1) = true := by decide +kernel
set_option maxRecDepth 65536 in
theorem w_t9 : (((((((((words1.drop 24).drop 24).drop 24).drop 24).drop 24).drop 24).drop 24).drop 24).take 24).all (fun c => isCode c || c.before args0 about1) = true := by decide +kernel
set_option maxRecDepth 65536 in
theorem w_t10 : ((((((((((words1.drop 24).drop 24).drop 24).drop 24).drop 24).drop 24).drop 24).drop 24).drop 24).take 24).all (fun c => isCode c || c.before args0 about1) = true := by decide +kernel
set_option maxRecDepth 65536 in
theorem w_t11 : (((((((((((words1.drop 24).drop 24).drop 24).drop 24).drop 24).drop 24).drop 24).drop 24).drop 24).drop 24).take 24).all (fun c => isCode c || c.before args0 about1) = true := by decide +kernel
set_option maxRecDepth 65536 in
theorem w_t12 : ((((((((((((words1.drop 24).drop 24).drop 24).drop 24).drop 24).drop 24).drop 24).drop 24).drop 24).drop 24).drop 24).take 24).all (fun c => isCode c || c.before args0 about1) = true := by decide +kernel
set_option maxRecDepth 65536 in
theorem w_t13 : (((((((((((((words1.drop 24).drop 24).drop 24).drop 24).drop 24).drop 24).drop 24).drop 24).drop 24).drop 24).drop 24).drop 24).take 24).all (fun c => isCode c || c.before args0 about1) = true := by decide +kernel
set_option maxRecDepth 65536 in
theorem w_t14 : (((((((((((((words1.drop 24).drop 24).drop 24).drop 24).drop 24).drop 24).drop 24).drop 24).drop 24).drop 24).drop 24).drop 24).drop 24).all (fun c => isCode c || c.before args0 about1) = true := by decide +kernel
theorem w_tables : (allAtoms (Jvm.Cond.code x code maxLocals ret :: tables_1)).before args0 about1 = true := by
  rw [allAtoms_all]
  show words1.all (fun c => c.before args0 about1) = true
  refine all_split ?_ w_codes
  rw [← List.take_append_drop 24 words1, List.all_append, w_t1, ← List.take_append_drop 24 (words1.drop 24), List.all_append, w_t2, ← List.take_append_drop 24 ((words1.drop 24).drop 24), List.all_append, w_t3, ← List.take_append_drop 24 (((words1.drop 24).drop 24).drop 24), List.all_append, w_t4, ← List.take_append_drop 24 ((((words1.drop 24).drop 24).drop 24).drop 24), List.all_append, w_t5, ← List.take_append_drop 24 (((((words1.drop 24).drop 24).drop 24).drop 24).drop 24), List.all_append, w_t6, ← List.take_append_drop 24 ((((((words1.drop 24).drop 24).drop 24).drop 24).drop 24).drop 24), List.all_append, w_t7, ← List.take_append_drop 24 (((((((words1.drop 24).drop 24).drop 24).drop 24).drop 24).drop 24).drop 24), List.all_append, w_t8, ← List.take_append_drop 24 ((((((((words1.drop 24).drop 24).drop 24).drop 24).drop 24).drop 24).drop 24).drop 24), List.all_append, w_t9, ← List.take_append_drop 24 (((((((((words1.drop 24).drop 24).drop 24).drop 24).drop 24).drop 24).drop 24).drop 24).drop 24), List.all_append, w_t10, ← List.take_append_drop 24 ((((((((((words1.drop 24).drop 24).drop 24).drop 24).drop 24).drop 24).drop 24).drop 24).drop 24).drop 24), List.all_append, w_t11, ← List.take_append_drop 24 (((((((((((words1.drop 24).drop 24).drop 24).drop 24).drop 24).drop 24).drop 24).drop 24).drop 24).drop 24).drop 24), List.all_append, w_t12, ← List.take_append_drop 24 ((((((((((((words1.drop 24).drop 24).drop 24).drop 24).drop 24).drop 24).drop 24).drop 24).drop 24).drop 24).drop 24).drop 24), List.all_append, w_t13, w_t14]
  rfl
set_option maxRecDepth 65536 in
theorem w_rest : rest_1_c.before args0 about1 = true := by decide +kernel
set_option maxRecDepth 65536 in
theorem w_case : (Jvm.Cond.and given_1 narrow_1).before args0 about1 = true := by decide +kernel
set_option maxRecDepth 65536 in
theorem w_consts : constsHeld consts_1 about1 := Jvm.Lit.constsHeldB_iff.mp (by decide +kernel)
theorem w_applies : (headSpec (Jvm.Cond.code x code maxLocals ret :: tables_1) room_1).applies x e0.platform about1 = true :=
  (Spec.applies_iff w_frames).mpr ⟨w_running, w_runnable, w_alone, w_named, w_hears, w_ripe, w_room, w_tables⟩
theorem atStart : AtStart classFile x code maxLocals ret World_1 tables_1 room_1 Calls_1 rest_1 Pre_1 launch0 p0 e0 about1 theMethod args0 below0 :=
  ⟨lists_1, trivial, launch0.admits_env _ _ _, launch0.least_env, fairChoices_fair.cas, fairChoices_fair.clock, w_frames, w_args, w_heap, w_applies, ⟨(by decide +kernel : framesKnown about1 = true), ⟨(by decide +kernel : tablesKnown about1 = true), ⟨w_consts, trivial⟩⟩⟩, w_rest, w_case⟩
end start1
theorem witness_1 : WitnessClaimed_1 := ⟨start1.p0, start1.e0, start1.about1, start1.theMethod, start1.args0, start1.below0, start1.atStart⟩
end Jvm.Pilot.@@N@@
