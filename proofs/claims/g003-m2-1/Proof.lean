import JvmDerived
import JvmDerived.Pilot.@@N@@Statement
import JvmDerived.Pilot.@@N@@Code
set_option linter.unusedVariables false
set_option linter.unusedSimpArgs false
namespace Jvm.OwnKit
open Jvm Jvm.ClassFile Sem Op Lib Jvm.Free Jvm.Stand Jvm.LawKit Jvm.RoadKit Bundle
/-- what a walk keeps hidden: the old cells stand; narrow (w = false): the tables of the start; wide: since when, what is booked, and which cells are surely not booked -/
def Hid (w : Bool) (Z : State) (EL : List (String × Nat)) (n0 : Nat) (My : List Addr) (s : State) (vm : Vm) (h : Heap) : Prop :=
  Old Z n0 h ∧ (w = false → vm = s.vm) ∧ (w = true → (∃ a0, EW Z a0 EL) ∧ (∃ k0, s.Since vm k0 ∧ k0 ≤ h.size) ∧ CHr Z EL s.vm s.heap vm h ∧ ∀ x ∈ My, x < h.size ∧ Safe Z EL vm h x)
def EndW (w : Bool) (Z : State) (EL : List (String × Nat)) (Ny : List Addr) (R : Room) (s : State) (o : Outcome) (t : State) (L : List Loc) : Prop :=
  (w = false → FrameEnd s o t L R.cells R.slots) ∧ (w = true → ReturnedEndW s o t L R.cells R.slots ∧ CHr Z EL s.vm s.heap t.vm t.heap ∧ ∀ x ∈ Ny, x < t.heap.size ∧ Safe Z EL t.vm t.heap x)
/-- from here the method returns, with Q -/
def Run (w : Bool) (l : Launch) (Z : State) (EL : List (String × Nat)) (n0 : Nat) (own nm : String) (B : ByteArray) (ret : Option FieldType) (R : Room) (Q : Option Value → Heap → Prop) (Ny : Option Value → List Addr)
    (My : List Addr) (h : Heap) (cells slots pc : Nat) (ls : Array Slot) (st : List Value) : Prop :=
  ∀ (p : Program) (e : Env) (s : State) (m : MethodId) (args : Array Value) (below : List Frame) (meth : Method) (c : Code) (T : State) (locs : List Loc) (vm : Vm),
    p.tables.exec = Jvm.exec → c.code = B → c.maxLocals = ls.size → meth.sig.returnType = ret → meth.name = nm → meth.locks = false → Z.Warmed39 vm → vm.findClass own = some m.cls →
    Stand p l e R (s.setVm vm) m args below meth c T locs cells slots → T.heap = h → Fr n0 locs → Hid w Z EL n0 My s vm h →
    ∃ t o, Steps p.tables e below (T.setTop (mkF m pc ls st)) t ∧ t.status = .running ∧ Ended t below o ∧ ∃ v L, o = .returned v ∧ Q v t.heap ∧ Fr n0 L ∧ EndW w Z EL (Ny v) R s o t L
/-- the contract of a method at one start -/
def Ok (w : Bool) (l : Launch) (Z : State) (EL : List (String × Nat)) (n0 : Nat) (My : List Addr) (y : MethodName) (B : ByteArray) (maxL : Nat) (ret : Option FieldType) (rm : Room) (as : Array Value) (h : Heap) (Q : Option Value → Heap → Prop) (Ny : Option Value → List Addr) : Prop :=
  ∀ ws : List Jvm.Cond, MetFree l y (head1 (Jvm.Cond.code y B maxL ret :: ws) rm) (fun a U => a = as ∧ Z.Warmed39 U.vm ∧ U.heap = h ∧ Old Z n0 h ∧ (w = true → (∃ a0, EW Z a0 EL) ∧ CHv Z EL U.vm h ∧ ∀ x ∈ My, x < h.size ∧ Safe Z EL U.vm h x)) (fun _ _ _ _ _ => True)
    (fun _ U o U' => ∃ v L, o = .returned v ∧ Q v U'.heap ∧ Fr n0 L ∧ EndW w Z EL (Ny v) rm U o U' L)
/-- this cell may be written: it is no booked String and no booked String's array -/
def Sf (w : Bool) (Z : State) (h : Heap) (My : List Addr) (x : Addr) : Prop := w = false ∨ x ∈ My ∨ (∃ C, Exa Z h x C ∧ C ≠ "java/lang/String" ∧ C ≠ "[B") ∨ ∃ c ty, Arr Z h x c ty ∧ ty ≠ .byte
theorem setAt_size {l l' : Array Slot} {i : Nat} {x : Slot} (h : setAt l i x = some l') : l'.size = l.size := by
  change (if i < l.size then some (l.setIfInBounds i x) else none) = some l' at h
  split at h
  · cases h; simp
  · cases h
theorem storeSelf_size {l l' : Array Slot} {i : Nat} {v : Value} (h : storeSelf l i v = some l') : l'.size = l.size := by
  simp only [storeSelf, Option.bind_eq_bind, Option.bind_eq_some_iff] at h
  obtain ⟨l1, h1, h2⟩ := h
  have e1 := setAt_size h1
  split at h2
  · simp only [Option.bind_eq_some_iff] at h2
    obtain ⟨o, -, h3⟩ := h2
    split at h3
    · split at h3
      · simp only [Option.bind_eq_some_iff] at h3
        obtain ⟨l2, h4, h5⟩ := h3
        rw [setAt_size h5, setAt_size h4, e1]
      · rw [setAt_size h3, e1]
    · rw [setAt_size h3, e1]
  · cases h2; exact e1
theorem storeLocals_size {l l' : Array Slot} {i : Nat} {v : Value} (h : storeLocals l i v = some l') : l'.size = l.size := by
  simp only [storeLocals, Option.bind_eq_bind, Option.bind_eq_some_iff] at h
  obtain ⟨o, -, h2⟩ := h
  split at h2
  · simp only [Option.bind_eq_some_iff] at h2
    obtain ⟨l2, h3, h4⟩ := h2
    rw [storeSelf_size h4, setAt_size h3]
  · split at h2
    · simp only [Option.bind_eq_some_iff] at h2
      obtain ⟨l2, h3, h4⟩ := h2
      rw [storeSelf_size h4, setAt_size h3]
    · exact storeSelf_size h2
  · exact storeSelf_size h2
section Rules
variable {w : Bool} {l : Launch} {Z : State} {EL : List (String × Nat)} {n0 : Nat} {own nm : String} {B : ByteArray} {ret : Option FieldType} {R : Room} {Q : Option Value → Heap → Prop} {Ny : Option Value → List Addr} {My : List Addr} {h : Heap} {cells slots pc : Nat} {ls : Array Slot} {st : List Value} {a0 : Array Value}
theorem Run.cast {st' : List Value} (e : st = st') (r : Run w l Z EL n0 own nm B ret R Q Ny My h cells slots pc ls st') : Run w l Z EL n0 own nm B ret R Q Ny My h cells slots pc ls st := e ▸ r
theorem Run.castL {ls' : Array Slot} (e : ls = ls') (r : Run w l Z EL n0 own nm B ret R Q Ny My h cells slots pc ls' st) : Run w l Z EL n0 own nm B ret R Q Ny My h cells slots pc ls st := e ▸ r
theorem Run.join {α : Type} {pc' : Nat} (P : α → Prop) (ls' : α → Array Slot) (st' : α → List Value) (hJ : ∀ x, P x → Run w l Z EL n0 own nm B ret R Q Ny My h cells slots pc' (ls' x) (st' x)) (hK : (∀ x, P x → Run w l Z EL n0 own nm B ret R Q Ny My h cells slots pc' (ls' x) (st' x)) → Run w l Z EL n0 own nm B ret R Q Ny My h cells slots pc ls st) : Run w l Z EL n0 own nm B ret R Q Ny My h cells slots pc ls st := hK hJ
theorem Run.joinH {α : Type} {pc' cells' slots' : Nat} (P : α → Heap → Prop) (My' : α → List Addr) (ls' : α → Array Slot) (st' : α → List Value) (hJ : ∀ x h', P x h' → Run w l Z EL n0 own nm B ret R Q Ny (My' x) h' cells' slots' pc' (ls' x) (st' x)) (hK : (∀ x h', P x h' → Run w l Z EL n0 own nm B ret R Q Ny (My' x) h' cells' slots' pc' (ls' x) (st' x)) → Run w l Z EL n0 own nm B ret R Q Ny My h cells slots pc ls st) : Run w l Z EL n0 own nm B ret R Q Ny My h cells slots pc ls st := hK hJ
theorem Run.old (r : Old Z n0 h → Run w l Z EL n0 own nm B ret R Q Ny My h cells slots pc ls st) : Run w l Z EL n0 own nm B ret R Q Ny My h cells slots pc ls st :=
  fun p e s m args below meth c T locs vm hx hby hml hret hnm hlk hZ hown X eT N hH => r hH.1 p e s m args below meth c T locs vm hx hby hml hret hnm hlk hZ hown X eT N hH
theorem Run.pure {pc' : Nat} {ls' : Array Slot} {st' : List Value} (H : ∀ (p : Program) (e : Env) (below : List Frame) (T : State) (m : MethodId) (c : Code) (target : State), At T m c below → p.tables.exec = Jvm.exec → c.code = B → Steps p.tables e below (T.setTop (mkF m pc' ls' st')) target → Steps p.tables e below (T.setTop (mkF m pc ls st)) target)
    (hsz : ls'.size = ls.size) (hr : Run w l Z EL n0 own nm B ret R Q Ny My h cells slots pc' ls' st') : Run w l Z EL n0 own nm B ret R Q Ny My h cells slots pc ls st := by
  intro p e s m args below meth c T locs vm hx hby hml hret hnm hlk hZ hown X eT N hH
  obtain ⟨t, o, hs, r⟩ := hr p e s m args below meth c T locs vm hx hby (hml.trans hsz.symm) hret hnm hlk hZ hown X eT N hH
  exact ⟨t, o, H p e below T m c t X.here hx hby hs, r⟩
/-- a step that may warm the tables, over one heap -/
theorem Run.warm {pc' : Nat} {st' : List Value} (H : ∀ (p : Program) (e : Env) (s : State) (m : MethodId) (args : Array Value) (below : List Frame) (meth : Method) (c : Code) (T : State) (locs : List Loc), p.tables.exec = Jvm.exec → c.code = B → c.maxLocals = ls.size → meth.name = nm → Z.Warmed39 s.vm → s.vm.findClass own = some m.cls → Stand p l e R s m args below meth c T locs cells slots → T.heap = h → Old Z n0 h →
      ∃ T', Stand p l e R s m args below meth c T' locs cells slots ∧ T'.heap = h ∧ ∀ target, Steps p.tables e below (T'.setTop (mkF m pc' ls st')) target → Steps p.tables e below (T.setTop (mkF m pc ls st)) target)
    (hr : Run w l Z EL n0 own nm B ret R Q Ny My h cells slots pc' ls st') : Run w l Z EL n0 own nm B ret R Q Ny My h cells slots pc ls st := by
  intro p e s m args below meth c T locs vm hx hby hml hret hnm hlk hZ hown X eT N hH
  obtain ⟨T', X', e', stp⟩ := H p e (s.setVm vm) m args below meth c T locs hx hby hml hnm hZ hown X eT hH.1
  obtain ⟨t, o, hs, r⟩ := hr p e s m args below meth c T' locs vm hx hby hml hret hnm hlk hZ hown X' e' N hH
  exact ⟨t, o, stp t hs, r⟩
theorem Hid.ext {s : State} {vm : Vm} {h' : Heap} (H : Hid w Z EL n0 My s vm h) (E : Ext h h') : Hid w Z EL n0 My s vm h' :=
  ⟨H.1.ext E, H.2.1, fun q => by
    obtain ⟨hEW, ⟨k0, a, b⟩, c, d⟩ := H.2.2 q
    exact ⟨hEW, ⟨k0, a, Nat.le_trans b E.1⟩, c.trans (CHr.ext E c.1), fun x hx => ⟨Nat.lt_of_lt_of_le (d x hx).1 E.1, (d x hx).2.ext E c.1⟩⟩⟩
/-- what was just made is not booked -/
theorem Hid.extNew {s : State} {vm : Vm} {h' : Heap} (H : Hid w Z EL n0 My s vm h) (E : Ext h h') (hlt : h.size < h'.size) : Hid w Z EL n0 (h.size :: My) s vm h' :=
  ⟨H.1.ext E, H.2.1, fun q => by
    obtain ⟨hEW, ⟨k0, a, b⟩, c, d⟩ := H.2.2 q
    refine ⟨hEW, ⟨k0, a, Nat.le_trans b E.1⟩, c.trans (CHr.ext E c.1), fun x hx => ?_⟩
    rcases List.mem_cons.mp hx with rfl | hx
    · exact ⟨hlt, (Safe.new (Nat.le_refl _)).ext E c.1⟩
    · exact ⟨Nat.lt_of_lt_of_le (d x hx).1 E.1, (d x hx).2.ext E c.1⟩⟩
theorem Sf.safe {vm : Vm} {x : Addr} (S : Sf w Z h My x) (q : w = true) (hal : Z.vm.Alike vm) (d : ∀ x ∈ My, x < h.size ∧ Safe Z EL vm h x) : Safe Z EL vm h x := by
  rcases S with e | e | ⟨C, e, h1, h2⟩ | ⟨c, ty, e, h1⟩
  · rw [q] at e; cases e
  · exact (d x e).2
  · exact Safe.exa hal e h1 h2
  · exact Safe.arr hal e h1
theorem Hid.keep {s : State} {vm : Vm} {h' : Heap} {ws : List Addr} (H : Hid w Z EL n0 My s vm h) (hZ : Z.Warmed39 vm) (K : Keep h h' ws) (hs : ∀ x ∈ ws, n0 ≤ x ∧ Sf w Z h My x) : Hid w Z EL n0 My s vm h' :=
  ⟨H.1.keep K fun x hx => (hs x hx).1, H.2.1, fun q => by
    obtain ⟨hEW, ⟨k0, a, b⟩, c, d⟩ := H.2.2 q
    have sf : ∀ x ∈ ws, Safe Z EL vm h x := fun x hx => (hs x hx).2.safe q hZ.alike d
    exact ⟨hEW, ⟨k0, a, Nat.le_trans b K.1⟩, c.trans (CHr.keep K sf c.1), fun x hx => ⟨Nat.lt_of_lt_of_le (d x hx).1 K.1, (d x hx).2.keep K sf c.1⟩⟩⟩
theorem Run.forget {My' : List Addr} (hsub : ∀ x ∈ My', x ∈ My) (r : Run w l Z EL n0 own nm B ret R Q Ny My' h cells slots pc ls st) : Run w l Z EL n0 own nm B ret R Q Ny My h cells slots pc ls st :=
  fun p e s m args below meth c T locs vm hx hby hml hret hnm hlk hZ hown X eT N hH => r p e s m args below meth c T locs vm hx hby hml hret hnm hlk hZ hown X eT N ⟨hH.1, hH.2.1, fun q => ⟨(hH.2.2 q).1, (hH.2.2 q).2.1, (hH.2.2 q).2.2.1, fun x hx => (hH.2.2 q).2.2.2 x (hsub x hx)⟩⟩
/-- more room used than told -/
theorem Run.spend {cells' slots' : Nat} (h1 : cells ≤ cells') (h2 : slots ≤ slots') (r : Run w l Z EL n0 own nm B ret R Q Ny My h cells' slots' pc ls st) : Run w l Z EL n0 own nm B ret R Q Ny My h cells slots pc ls st :=
  fun p e s m args below meth c T locs vm hx hby hml hret hnm hlk hZ hown X eT N hH => r p e s m args below meth c T locs vm hx hby hml hret hnm hlk hZ hown (X.mono h1 h2) eT N hH
theorem Run.post {Q' : Option Value → Heap → Prop} {Ny' : Option Value → List Addr} (hQ : ∀ v h', Q' v h' → Q v h') (hN : ∀ v, ∀ x ∈ Ny v, x ∈ Ny' v) (r : Run w l Z EL n0 own nm B ret R Q' Ny' My h cells slots pc ls st) : Run w l Z EL n0 own nm B ret R Q Ny My h cells slots pc ls st := by
  intro p e s m args below meth c T locs vm hx hby hml hret hnm hlk hZ hown X eT N hH
  obtain ⟨t, o, hs, h1, h2, v, L, h3, h4, h5, h6, h7⟩ := r p e s m args below meth c T locs vm hx hby hml hret hnm hlk hZ hown X eT N hH
  exact ⟨t, o, hs, h1, h2, v, L, h3, hQ _ _ h4, h5, h6, fun q => ⟨(h7 q).1, (h7 q).2.1, fun x hx => (h7 q).2.2 x (hN v x hx)⟩⟩
theorem r_aloadN {pc' : Nat} {k : Fin 4} {v : Value} (hd : decode B pc = .ok (.aload_n k, 1)) (hp : pc + 1 = pc') (hl : ls[k.val]? = some (.val v)) (hv : v.isRef = true) (hr : Run w l Z EL n0 own nm B ret R Q Ny My h cells slots pc' ls (v :: st)) : Run w l Z EL n0 own nm B ret R Q Ny My h cells slots pc ls (st) :=
  Run.pure (fun p e below T m c target hA hx hby hs => XS.aloadN hA hx rfl (hb hby hd) hl hv (by subst hp; exact hs)) rfl hr
theorem r_aload {pc' : Nat} {k : Nat} {v : Value} (hd : decode B pc = .ok (.aload k, 2)) (hp : pc + 2 = pc') (hl : ls[k]? = some (.val v)) (hv : v.isRef = true) (hr : Run w l Z EL n0 own nm B ret R Q Ny My h cells slots pc' ls (v :: st)) : Run w l Z EL n0 own nm B ret R Q Ny My h cells slots pc ls (st) :=
  Run.pure (fun p e below T m c target hA hx hby hs => XS.aload hA hx rfl (hb hby hd) hl hv (by subst hp; exact hs)) rfl hr
theorem r_iloadN {pc' : Nat} {k : Fin 4} {v : Int32} (hd : decode B pc = .ok (.iload_n k, 1)) (hp : pc + 1 = pc') (hl : ls[k.val]? = some (.val (.int v))) (hr : Run w l Z EL n0 own nm B ret R Q Ny My h cells slots pc' ls (.int v :: st)) : Run w l Z EL n0 own nm B ret R Q Ny My h cells slots pc ls (st) :=
  Run.pure (fun p e below T m c target hA hx hby hs => XS.iloadN hA hx rfl (hb hby hd) hl (by subst hp; exact hs)) rfl hr
theorem r_iload {pc' : Nat} {k : Nat} {v : Int32} (hd : decode B pc = .ok (.iload k, 2)) (hp : pc + 2 = pc') (hl : ls[k]? = some (.val (.int v))) (hr : Run w l Z EL n0 own nm B ret R Q Ny My h cells slots pc' ls (.int v :: st)) : Run w l Z EL n0 own nm B ret R Q Ny My h cells slots pc ls (st) :=
  Run.pure (fun p e below T m c target hA hx hby hs => XS.iload hA hx rfl (hb hby hd) hl (by subst hp; exact hs)) rfl hr
theorem r_lloadN {pc' : Nat} {k : Fin 4} {v : Int64} (hd : decode B pc = .ok (.lload_n k, 1)) (hp : pc + 1 = pc') (hl : ls[k.val]? = some (.val (.long v))) (hr : Run w l Z EL n0 own nm B ret R Q Ny My h cells slots pc' ls (.long v :: st)) : Run w l Z EL n0 own nm B ret R Q Ny My h cells slots pc ls (st) :=
  Run.pure (fun p e below T m c target hA hx hby hs => XS.lloadN hA hx rfl (hb hby hd) hl (by subst hp; exact hs)) rfl hr
theorem r_lload {pc' : Nat} {k : Nat} {v : Int64} (hd : decode B pc = .ok (.lload k, 2)) (hp : pc + 2 = pc') (hl : ls[k]? = some (.val (.long v))) (hr : Run w l Z EL n0 own nm B ret R Q Ny My h cells slots pc' ls (.long v :: st)) : Run w l Z EL n0 own nm B ret R Q Ny My h cells slots pc ls (st) :=
  Run.pure (fun p e below T m c target hA hx hby hs => XS.lload hA hx rfl (hb hby hd) hl (by subst hp; exact hs)) rfl hr
theorem r_iconst {pc' : Nat} {i : Int} {v : Int32} (hd : decode B pc = .ok (.iconst i, 1)) (hp : pc + 1 = pc') (hv : Int32.ofInt i = v) (hr : Run w l Z EL n0 own nm B ret R Q Ny My h cells slots pc' ls (.int v :: st)) : Run w l Z EL n0 own nm B ret R Q Ny My h cells slots pc ls st :=
  Run.pure (fun p e below T m c target hA hx hby hs => XS.iconst hA hx rfl (hb hby hd) (by subst hp hv; exact hs)) rfl hr
theorem r_bipush {pc' : Nat} {i : Int} {v : Int32} (hd : decode B pc = .ok (.bipush i, 2)) (hp : pc + 2 = pc') (hv : (Int8.ofInt i).toInt32 = v) (hr : Run w l Z EL n0 own nm B ret R Q Ny My h cells slots pc' ls (.int v :: st)) : Run w l Z EL n0 own nm B ret R Q Ny My h cells slots pc ls st :=
  Run.pure (fun p e below T m c target hA hx hby hs => XS.bipush hA hx rfl (hb hby hd) (by subst hp hv; exact hs)) rfl hr
theorem r_sipush {pc' : Nat} {i : Int} {v : Int32} (hd : decode B pc = .ok (.sipush i, 3)) (hp : pc + 3 = pc') (hv : (Int16.ofInt i).toInt32 = v) (hr : Run w l Z EL n0 own nm B ret R Q Ny My h cells slots pc' ls (.int v :: st)) : Run w l Z EL n0 own nm B ret R Q Ny My h cells slots pc ls st :=
  Run.pure (fun p e below T m c target hA hx hby hs => XS.sipush hA hx rfl (hb hby hd) (by subst hp hv; exact hs)) rfl hr
theorem r_lconst {pc' : Nat} {k : Fin 2} {v : Int64} (hd : decode B pc = .ok (.lconst k, 1)) (hp : pc + 1 = pc') (hv : Int64.ofNat k = v) (hr : Run w l Z EL n0 own nm B ret R Q Ny My h cells slots pc' ls (.long v :: st)) : Run w l Z EL n0 own nm B ret R Q Ny My h cells slots pc ls st :=
  Run.pure (fun p e below T m c target hA hx hby hs => XS.lconst hA hx rfl (hb hby hd) (by subst hp hv; exact hs)) rfl hr
theorem r_aconst {pc' : Nat} (hd : decode B pc = .ok (.aconst_null, 1)) (hp : pc + 1 = pc') (hr : Run w l Z EL n0 own nm B ret R Q Ny My h cells slots pc' ls (.null :: st)) : Run w l Z EL n0 own nm B ret R Q Ny My h cells slots pc ls (st) :=
  Run.pure (fun p e below T m c target hA hx hby hs => XS.aconstNull hA hx rfl (hb hby hd) (by subst hp; exact hs)) rfl hr
theorem r_iadd {pc' : Nat} {x y : Int32} (hd : decode B pc = .ok (.iadd, 1)) (hp : pc + 1 = pc') (hr : Run w l Z EL n0 own nm B ret R Q Ny My h cells slots pc' ls (.int (x + y) :: st)) : Run w l Z EL n0 own nm B ret R Q Ny My h cells slots pc ls (.int y :: .int x :: st) :=
  Run.pure (fun p e below T m c target hA hx hby hs => XS.iadd hA hx rfl (hb hby hd) rfl (by subst hp; exact hs)) rfl hr
theorem r_isub {pc' : Nat} {x y : Int32} (hd : decode B pc = .ok (.isub, 1)) (hp : pc + 1 = pc') (hr : Run w l Z EL n0 own nm B ret R Q Ny My h cells slots pc' ls (.int (x - y) :: st)) : Run w l Z EL n0 own nm B ret R Q Ny My h cells slots pc ls (.int y :: .int x :: st) :=
  Run.pure (fun p e below T m c target hA hx hby hs => XS.isub hA hx rfl (hb hby hd) rfl (by subst hp; exact hs)) rfl hr
theorem r_imul {pc' : Nat} {x y : Int32} (hd : decode B pc = .ok (.imul, 1)) (hp : pc + 1 = pc') (hr : Run w l Z EL n0 own nm B ret R Q Ny My h cells slots pc' ls (.int (x * y) :: st)) : Run w l Z EL n0 own nm B ret R Q Ny My h cells slots pc ls (.int y :: .int x :: st) :=
  Run.pure (fun p e below T m c target hA hx hby hs => XS.imul hA hx rfl (hb hby hd) rfl (by subst hp; exact hs)) rfl hr
theorem r_iand {pc' : Nat} {x y : Int32} (hd : decode B pc = .ok (.iand, 1)) (hp : pc + 1 = pc') (hr : Run w l Z EL n0 own nm B ret R Q Ny My h cells slots pc' ls (.int (x &&& y) :: st)) : Run w l Z EL n0 own nm B ret R Q Ny My h cells slots pc ls (.int y :: .int x :: st) :=
  Run.pure (fun p e below T m c target hA hx hby hs => XS.iand hA hx rfl (hb hby hd) rfl (by subst hp; exact hs)) rfl hr
theorem r_ior {pc' : Nat} {x y : Int32} (hd : decode B pc = .ok (.ior, 1)) (hp : pc + 1 = pc') (hr : Run w l Z EL n0 own nm B ret R Q Ny My h cells slots pc' ls (.int (x ||| y) :: st)) : Run w l Z EL n0 own nm B ret R Q Ny My h cells slots pc ls (.int y :: .int x :: st) :=
  Run.pure (fun p e below T m c target hA hx hby hs => XS.ior hA hx rfl (hb hby hd) rfl (by subst hp; exact hs)) rfl hr
theorem r_ixor {pc' : Nat} {x y : Int32} (hd : decode B pc = .ok (.ixor, 1)) (hp : pc + 1 = pc') (hr : Run w l Z EL n0 own nm B ret R Q Ny My h cells slots pc' ls (.int (x ^^^ y) :: st)) : Run w l Z EL n0 own nm B ret R Q Ny My h cells slots pc ls (.int y :: .int x :: st) :=
  Run.pure (fun p e below T m c target hA hx hby hs => XS.ixor hA hx rfl (hb hby hd) rfl (by subst hp; exact hs)) rfl hr
theorem r_ishl {pc' : Nat} {x y : Int32} (hd : decode B pc = .ok (.ishl, 1)) (hp : pc + 1 = pc') (hr : Run w l Z EL n0 own nm B ret R Q Ny My h cells slots pc' ls (.int (x <<< (y &&& 31)) :: st)) : Run w l Z EL n0 own nm B ret R Q Ny My h cells slots pc ls (.int y :: .int x :: st) :=
  Run.pure (fun p e below T m c target hA hx hby hs => XS.ishl hA hx rfl (hb hby hd) rfl (by subst hp; exact hs)) rfl hr
theorem r_ishr {pc' : Nat} {x y : Int32} (hd : decode B pc = .ok (.ishr, 1)) (hp : pc + 1 = pc') (hr : Run w l Z EL n0 own nm B ret R Q Ny My h cells slots pc' ls (.int (x >>> (y &&& 31)) :: st)) : Run w l Z EL n0 own nm B ret R Q Ny My h cells slots pc ls (.int y :: .int x :: st) :=
  Run.pure (fun p e below T m c target hA hx hby hs => XS.ishr hA hx rfl (hb hby hd) rfl (by subst hp; exact hs)) rfl hr
theorem r_iushr {pc' : Nat} {x y : Int32} (hd : decode B pc = .ok (.iushr, 1)) (hp : pc + 1 = pc') (hr : Run w l Z EL n0 own nm B ret R Q Ny My h cells slots pc' ls (.int ((x.toUInt32 >>> (y &&& 31).toUInt32).toInt32) :: st)) : Run w l Z EL n0 own nm B ret R Q Ny My h cells slots pc ls (.int y :: .int x :: st) :=
  Run.pure (fun p e below T m c target hA hx hby hs => XS.iushr hA hx rfl (hb hby hd) rfl (by subst hp; exact hs)) rfl hr
theorem r_ladd {pc' : Nat} {x y : Int64} (hd : decode B pc = .ok (.ladd, 1)) (hp : pc + 1 = pc') (hr : Run w l Z EL n0 own nm B ret R Q Ny My h cells slots pc' ls (.long (x + y) :: st)) : Run w l Z EL n0 own nm B ret R Q Ny My h cells slots pc ls (.long y :: .long x :: st) :=
  Run.pure (fun p e below T m c target hA hx hby hs => XS.ladd hA hx rfl (hb hby hd) rfl (by subst hp; exact hs)) rfl hr
theorem r_lsub {pc' : Nat} {x y : Int64} (hd : decode B pc = .ok (.lsub, 1)) (hp : pc + 1 = pc') (hr : Run w l Z EL n0 own nm B ret R Q Ny My h cells slots pc' ls (.long (x - y) :: st)) : Run w l Z EL n0 own nm B ret R Q Ny My h cells slots pc ls (.long y :: .long x :: st) :=
  Run.pure (fun p e below T m c target hA hx hby hs => XS.lsub hA hx rfl (hb hby hd) rfl (by subst hp; exact hs)) rfl hr
theorem r_lmul {pc' : Nat} {x y : Int64} (hd : decode B pc = .ok (.lmul, 1)) (hp : pc + 1 = pc') (hr : Run w l Z EL n0 own nm B ret R Q Ny My h cells slots pc' ls (.long (x * y) :: st)) : Run w l Z EL n0 own nm B ret R Q Ny My h cells slots pc ls (.long y :: .long x :: st) :=
  Run.pure (fun p e below T m c target hA hx hby hs => XS.lmul hA hx rfl (hb hby hd) rfl (by subst hp; exact hs)) rfl hr
theorem r_land {pc' : Nat} {x y : Int64} (hd : decode B pc = .ok (.land, 1)) (hp : pc + 1 = pc') (hr : Run w l Z EL n0 own nm B ret R Q Ny My h cells slots pc' ls (.long (x &&& y) :: st)) : Run w l Z EL n0 own nm B ret R Q Ny My h cells slots pc ls (.long y :: .long x :: st) :=
  Run.pure (fun p e below T m c target hA hx hby hs => XS.land hA hx rfl (hb hby hd) rfl (by subst hp; exact hs)) rfl hr
theorem r_lor {pc' : Nat} {x y : Int64} (hd : decode B pc = .ok (.lor, 1)) (hp : pc + 1 = pc') (hr : Run w l Z EL n0 own nm B ret R Q Ny My h cells slots pc' ls (.long (x ||| y) :: st)) : Run w l Z EL n0 own nm B ret R Q Ny My h cells slots pc ls (.long y :: .long x :: st) :=
  Run.pure (fun p e below T m c target hA hx hby hs => XS.lor hA hx rfl (hb hby hd) rfl (by subst hp; exact hs)) rfl hr
theorem r_lxor {pc' : Nat} {x y : Int64} (hd : decode B pc = .ok (.lxor, 1)) (hp : pc + 1 = pc') (hr : Run w l Z EL n0 own nm B ret R Q Ny My h cells slots pc' ls (.long (x ^^^ y) :: st)) : Run w l Z EL n0 own nm B ret R Q Ny My h cells slots pc ls (.long y :: .long x :: st) :=
  Run.pure (fun p e below T m c target hA hx hby hs => XS.lxor hA hx rfl (hb hby hd) rfl (by subst hp; exact hs)) rfl hr
theorem r_idiv {pc' : Nat} {x y : Int32} (hd : decode B pc = .ok (.idiv, 1)) (hp : pc + 1 = pc') (hy : y ≠ 0) (hr : Run w l Z EL n0 own nm B ret R Q Ny My h cells slots pc' ls (.int (x / y) :: st)) : Run w l Z EL n0 own nm B ret R Q Ny My h cells slots pc ls (.int y :: .int x :: st) :=
  Run.pure (fun p e below T m c target hA hx hby hs => XS.idiv hA hx rfl (hb hby hd) rfl hy (by subst hp; exact hs)) rfl hr
theorem r_ldiv {pc' : Nat} {x y : Int64} (hd : decode B pc = .ok (.ldiv, 1)) (hp : pc + 1 = pc') (hy : y ≠ 0) (hr : Run w l Z EL n0 own nm B ret R Q Ny My h cells slots pc' ls (.long (x / y) :: st)) : Run w l Z EL n0 own nm B ret R Q Ny My h cells slots pc ls (.long y :: .long x :: st) :=
  Run.pure (fun p e below T m c target hA hx hby hs => XS.ldiv hA hx rfl (hb hby hd) rfl hy (by subst hp; exact hs)) rfl hr
theorem r_ineg {pc' : Nat} {x : Int32} (hd : decode B pc = .ok (.ineg, 1)) (hp : pc + 1 = pc') (hr : Run w l Z EL n0 own nm B ret R Q Ny My h cells slots pc' ls (.int (-x) :: st)) : Run w l Z EL n0 own nm B ret R Q Ny My h cells slots pc ls (.int x :: st) :=
  Run.pure (fun p e below T m c target hA hx hby hs => XS.ineg hA hx rfl (hb hby hd) rfl (by subst hp; exact hs)) rfl hr
theorem r_i2b {pc' : Nat} {x : Int32} (hd : decode B pc = .ok (.i2b, 1)) (hp : pc + 1 = pc') (hr : Run w l Z EL n0 own nm B ret R Q Ny My h cells slots pc' ls (.int (x.toInt8.toInt32) :: st)) : Run w l Z EL n0 own nm B ret R Q Ny My h cells slots pc ls (.int x :: st) :=
  Run.pure (fun p e below T m c target hA hx hby hs => XS.i2b hA hx rfl (hb hby hd) rfl (by subst hp; exact hs)) rfl hr
theorem r_i2c {pc' : Nat} {x : Int32} (hd : decode B pc = .ok (.i2c, 1)) (hp : pc + 1 = pc') (hr : Run w l Z EL n0 own nm B ret R Q Ny My h cells slots pc' ls (.int (x.toUInt32.toUInt16.toUInt32.toInt32) :: st)) : Run w l Z EL n0 own nm B ret R Q Ny My h cells slots pc ls (.int x :: st) :=
  Run.pure (fun p e below T m c target hA hx hby hs => XS.i2c hA hx rfl (hb hby hd) rfl (by subst hp; exact hs)) rfl hr
theorem r_i2s {pc' : Nat} {x : Int32} (hd : decode B pc = .ok (.i2s, 1)) (hp : pc + 1 = pc') (hr : Run w l Z EL n0 own nm B ret R Q Ny My h cells slots pc' ls (.int (x.toInt16.toInt32) :: st)) : Run w l Z EL n0 own nm B ret R Q Ny My h cells slots pc ls (.int x :: st) :=
  Run.pure (fun p e below T m c target hA hx hby hs => XS.i2s hA hx rfl (hb hby hd) rfl (by subst hp; exact hs)) rfl hr
theorem r_i2l {pc' : Nat} {x : Int32} (hd : decode B pc = .ok (.i2l, 1)) (hp : pc + 1 = pc') (hr : Run w l Z EL n0 own nm B ret R Q Ny My h cells slots pc' ls (.long (x.toInt64) :: st)) : Run w l Z EL n0 own nm B ret R Q Ny My h cells slots pc ls (.int x :: st) :=
  Run.pure (fun p e below T m c target hA hx hby hs => XS.i2l hA hx rfl (hb hby hd) rfl (by subst hp; exact hs)) rfl hr
theorem r_l2i {pc' : Nat} {x : Int64} (hd : decode B pc = .ok (.l2i, 1)) (hp : pc + 1 = pc') (hr : Run w l Z EL n0 own nm B ret R Q Ny My h cells slots pc' ls (.int (x.toInt32) :: st)) : Run w l Z EL n0 own nm B ret R Q Ny My h cells slots pc ls (.long x :: st) :=
  Run.pure (fun p e below T m c target hA hx hby hs => XS.l2i hA hx rfl (hb hby hd) rfl (by subst hp; exact hs)) rfl hr
theorem r_lneg {pc' : Nat} {x : Int64} (hd : decode B pc = .ok (.lneg, 1)) (hp : pc + 1 = pc') (hr : Run w l Z EL n0 own nm B ret R Q Ny My h cells slots pc' ls (.long (-x) :: st)) : Run w l Z EL n0 own nm B ret R Q Ny My h cells slots pc ls (.long x :: st) :=
  Run.pure (fun p e below T m c target hA hx hby hs => XS.lneg hA hx rfl (hb hby hd) rfl (by subst hp; exact hs)) rfl hr
theorem r_lcmp {pc' : Nat} {x y : Int64} (hd : decode B pc = .ok (.lcmp, 1)) (hp : pc + 1 = pc') (hr : Run w l Z EL n0 own nm B ret R Q Ny My h cells slots pc' ls (.int (lcmpW x y) :: st)) : Run w l Z EL n0 own nm B ret R Q Ny My h cells slots pc ls (.long y :: .long x :: st) :=
  Run.pure (fun p e below T m c target hA hx hby hs => XS.lcmp hA hx rfl (hb hby hd) rfl (by subst hp; exact hs)) rfl hr
theorem r_pop {pc' : Nat} {x : Value} (hd : decode B pc = .ok (.pop, 1)) (hp : pc + 1 = pc') (hc : x.category = 1) (hr : Run w l Z EL n0 own nm B ret R Q Ny My h cells slots pc' ls (st)) : Run w l Z EL n0 own nm B ret R Q Ny My h cells slots pc ls (x :: st) :=
  Run.pure (fun p e below T m c target hA hx hby hs => XS.pop hA hx rfl (hb hby hd) rfl hc (by subst hp; exact hs)) rfl hr
theorem r_dup {pc' : Nat} {x : Value} (hd : decode B pc = .ok (.dup, 1)) (hp : pc + 1 = pc') (hc : x.category = 1) (hr : Run w l Z EL n0 own nm B ret R Q Ny My h cells slots pc' ls (x :: x :: st)) : Run w l Z EL n0 own nm B ret R Q Ny My h cells slots pc ls (x :: st) :=
  Run.pure (fun p e below T m c target hA hx hby hs => XS.dup hA hx rfl (hb hby hd) rfl hc (by subst hp; exact hs)) rfl hr
theorem r_swap {pc' : Nat} {x y : Value} (hd : decode B pc = .ok (.swap, 1)) (hp : pc + 1 = pc') (hc : x.category = 1) (hc2 : y.category = 1) (hr : Run w l Z EL n0 own nm B ret R Q Ny My h cells slots pc' ls (y :: x :: st)) : Run w l Z EL n0 own nm B ret R Q Ny My h cells slots pc ls (x :: y :: st) :=
  Run.pure (fun p e below T m c target hA hx hby hs => XS.swap hA hx rfl (hb hby hd) rfl hc hc2 (by subst hp; exact hs)) rfl hr
theorem r_dupX1 {pc' : Nat} {x y : Value} (hd : decode B pc = .ok (.dup_x1, 1)) (hp : pc + 1 = pc') (hc : x.category = 1) (hc2 : y.category = 1) (hr : Run w l Z EL n0 own nm B ret R Q Ny My h cells slots pc' ls (x :: y :: x :: st)) : Run w l Z EL n0 own nm B ret R Q Ny My h cells slots pc ls (x :: y :: st) :=
  Run.pure (fun p e below T m c target hA hx hby hs => XS.dupX1 hA hx rfl (hb hby hd) rfl hc hc2 (by subst hp; exact hs)) rfl hr
theorem r_dup2 {pc' : Nat} {x y : Value} (hd : decode B pc = .ok (.dup2, 1)) (hp : pc + 1 = pc') (hc : x.category = 1) (hc2 : y.category = 1) (hr : Run w l Z EL n0 own nm B ret R Q Ny My h cells slots pc' ls (x :: y :: x :: y :: st)) : Run w l Z EL n0 own nm B ret R Q Ny My h cells slots pc ls (x :: y :: st) :=
  Run.pure (fun p e below T m c target hA hx hby hs => XT.dup2 hA hx rfl (hb hby hd) rfl hc hc2 (by subst hp; exact hs)) rfl hr
theorem r_istoreN {pc' : Nat} {k : Fin 4} {x : Int32} {l' : Array Slot} (hd : decode B pc = .ok (.istore_n k, 1)) (hp : pc + 1 = pc') (hl : storeLocals ls k.val (.int x) = some l') (hr : Run w l Z EL n0 own nm B ret R Q Ny My h cells slots pc' l' (st)) : Run w l Z EL n0 own nm B ret R Q Ny My h cells slots pc ls (.int x :: st) :=
  Run.pure (fun p e below T m c target hA hx hby hs => XS.istoreN hA hx rfl (hb hby hd) rfl hl (by subst hp; exact hs)) (storeLocals_size hl) hr
theorem r_istore {pc' : Nat} {k : Nat} {x : Int32} {l' : Array Slot} (hd : decode B pc = .ok (.istore k, 2)) (hp : pc + 2 = pc') (hl : storeLocals ls k (.int x) = some l') (hr : Run w l Z EL n0 own nm B ret R Q Ny My h cells slots pc' l' (st)) : Run w l Z EL n0 own nm B ret R Q Ny My h cells slots pc ls (.int x :: st) :=
  Run.pure (fun p e below T m c target hA hx hby hs => XS.istore hA hx rfl (hb hby hd) rfl hl (by subst hp; exact hs)) (storeLocals_size hl) hr
theorem r_lstoreN {pc' : Nat} {k : Fin 4} {x : Int64} {l' : Array Slot} (hd : decode B pc = .ok (.lstore_n k, 1)) (hp : pc + 1 = pc') (hl : storeLocals ls k.val (.long x) = some l') (hr : Run w l Z EL n0 own nm B ret R Q Ny My h cells slots pc' l' (st)) : Run w l Z EL n0 own nm B ret R Q Ny My h cells slots pc ls (.long x :: st) :=
  Run.pure (fun p e below T m c target hA hx hby hs => XS.lstoreN hA hx rfl (hb hby hd) rfl hl (by subst hp; exact hs)) (storeLocals_size hl) hr
theorem r_lstore {pc' : Nat} {k : Nat} {x : Int64} {l' : Array Slot} (hd : decode B pc = .ok (.lstore k, 2)) (hp : pc + 2 = pc') (hl : storeLocals ls k (.long x) = some l') (hr : Run w l Z EL n0 own nm B ret R Q Ny My h cells slots pc' l' (st)) : Run w l Z EL n0 own nm B ret R Q Ny My h cells slots pc ls (.long x :: st) :=
  Run.pure (fun p e below T m c target hA hx hby hs => XS.lstore hA hx rfl (hb hby hd) rfl hl (by subst hp; exact hs)) (storeLocals_size hl) hr
theorem r_astoreN {pc' : Nat} {k : Fin 4} {x : Value} {l' : Array Slot} (hd : decode B pc = .ok (.astore_n k, 1)) (hp : pc + 1 = pc') (hv : x.isRef = true) (hl : storeLocals ls k.val x = some l') (hr : Run w l Z EL n0 own nm B ret R Q Ny My h cells slots pc' l' (st)) : Run w l Z EL n0 own nm B ret R Q Ny My h cells slots pc ls (x :: st) :=
  Run.pure (fun p e below T m c target hA hx hby hs => XS.astoreN hA hx rfl (hb hby hd) rfl hv hl (by subst hp; exact hs)) (storeLocals_size hl) hr
theorem r_astore {pc' : Nat} {k : Nat} {x : Value} {l' : Array Slot} (hd : decode B pc = .ok (.astore k, 2)) (hp : pc + 2 = pc') (hv : x.isRef = true) (hl : storeLocals ls k x = some l') (hr : Run w l Z EL n0 own nm B ret R Q Ny My h cells slots pc' l' (st)) : Run w l Z EL n0 own nm B ret R Q Ny My h cells slots pc ls (x :: st) :=
  Run.pure (fun p e below T m c target hA hx hby hs => XS.astore hA hx rfl (hb hby hd) rfl hv hl (by subst hp; exact hs)) (storeLocals_size hl) hr
theorem r_iinc {pc' : Nat} {k : Nat} {cst : Int} {x : Int32} {l' : Array Slot} (hd : decode B pc = .ok (.iinc k cst, 3)) (hp : pc + 3 = pc') (hl : ls[k]? = some (.val (.int x))) (hl' : storeLocals ls k (.int (x + Int32.ofInt cst)) = some l') (hr : Run w l Z EL n0 own nm B ret R Q Ny My h cells slots pc' l' (st)) : Run w l Z EL n0 own nm B ret R Q Ny My h cells slots pc ls (st) :=
  Run.pure (fun p e below T m c target hA hx hby hs => XS.iinc hA hx rfl (hb hby hd) hl hl' (by subst hp; exact hs)) (storeLocals_size hl') hr
theorem r_goto {pc' : Nat} {o : Int} (hd : decode B pc = .ok (.goto o, 3)) (hp : (pc : Int) + o = (pc' : Int)) (hr : Run w l Z EL n0 own nm B ret R Q Ny My h cells slots pc' ls st) : Run w l Z EL n0 own nm B ret R Q Ny My h cells slots pc ls st :=
  Run.pure (fun p e below T m c target hA hx hby hs => XS.goto hA hx rfl (pc0 := pc) (pc' := pc') rfl (hb hby hd) (by omega) (by omega) hs) rfl hr
theorem r_if {pc' pc2 : Nat} {cd : ClassFile.Cond} {o : Int} {x : Int32} (hd : decode B pc = .ok (.ifCond cd o, 3)) (hp : pc + 3 = pc') (hq : (pc : Int) + o = (pc2 : Int)) (h1 : if_icmp.holds cd x 0 = true → Run w l Z EL n0 own nm B ret R Q Ny My h cells slots pc2 ls st) (h2 : if_icmp.holds cd x 0 = false → Run w l Z EL n0 own nm B ret R Q Ny My h cells slots pc' ls st) : Run w l Z EL n0 own nm B ret R Q Ny My h cells slots pc ls (.int x :: st) := by
  cases hb0 : if_icmp.holds cd x 0 with
  | true => exact Run.pure (fun p e below T m c target hA hx hby hs => XS.ifYes hA hx rfl (pc0 := pc) (pc' := pc2) rfl (hb hby hd) rfl ((if0 _ _).trans hb0) (by omega) (by omega) hs) rfl (h1 hb0)
  | false => exact Run.pure (fun p e below T m c target hA hx hby hs => XS.ifNo hA hx rfl (hb hby hd) rfl ((if0 _ _).trans hb0) (by subst hp; exact hs)) rfl (h2 hb0)
theorem r_icmp {pc' pc2 : Nat} {cd : ClassFile.Cond} {o : Int} {x y : Int32} (hd : decode B pc = .ok (.if_icmp cd o, 3)) (hp : pc + 3 = pc') (hq : (pc : Int) + o = (pc2 : Int)) (h1 : if_icmp.holds cd x y = true → Run w l Z EL n0 own nm B ret R Q Ny My h cells slots pc2 ls st) (h2 : if_icmp.holds cd x y = false → Run w l Z EL n0 own nm B ret R Q Ny My h cells slots pc' ls st) : Run w l Z EL n0 own nm B ret R Q Ny My h cells slots pc ls (.int y :: .int x :: st) := by
  cases hb0 : if_icmp.holds cd x y with
  | true => exact Run.pure (fun p e below T m c target hA hx hby hs => XS.icmpYes hA hx rfl (pc0 := pc) (pc' := pc2) rfl (hb hby hd) rfl hb0 (by omega) (by omega) hs) rfl (h1 hb0)
  | false => exact Run.pure (fun p e below T m c target hA hx hby hs => XS.icmpNo hA hx rfl (hb hby hd) rfl hb0 (by subst hp; exact hs)) rfl (h2 hb0)
theorem h_eq {x y : Int32} : (if_icmp.holds .eq x y = true → x = y) ∧ (if_icmp.holds .eq x y = false → ¬ x = y) := ⟨fun q => Classical.byContradiction fun e => (by rw [(feq e).1] at q; cases q), fun q e => (by rw [(teq e).1] at q; cases q)⟩
theorem h_ne {x y : Int32} : (if_icmp.holds .ne x y = true → ¬ x = y) ∧ (if_icmp.holds .ne x y = false → x = y) := ⟨fun q e => (by rw [(teq e).2] at q; cases q), fun q => Classical.byContradiction fun e => (by rw [(feq e).2] at q; cases q)⟩
theorem h_lt {x y : Int32} : (if_icmp.holds .lt x y = true → x < y) ∧ (if_icmp.holds .lt x y = false → ¬ x < y) := ⟨fun q => Classical.byContradiction fun e => (by rw [(flt e).1] at q; cases q), fun q e => (by rw [(tlt e).1] at q; cases q)⟩
theorem h_ge {x y : Int32} : (if_icmp.holds .ge x y = true → ¬ x < y) ∧ (if_icmp.holds .ge x y = false → x < y) := ⟨fun q e => (by rw [(tlt e).2.1] at q; cases q), fun q => Classical.byContradiction fun e => (by rw [(flt e).2.1] at q; cases q)⟩
theorem h_gt {x y : Int32} : (if_icmp.holds .gt x y = true → y < x) ∧ (if_icmp.holds .gt x y = false → ¬ y < x) := ⟨fun q => Classical.byContradiction fun e => (by rw [(flt e).2.2.1] at q; cases q), fun q e => (by rw [(tlt e).2.2.1] at q; cases q)⟩
theorem h_le {x y : Int32} : (if_icmp.holds .le x y = true → ¬ y < x) ∧ (if_icmp.holds .le x y = false → y < x) := ⟨fun q e => (by rw [(tlt e).2.2.2] at q; cases q), fun q => Classical.byContradiction fun e => (by rw [(flt e).2.2.2] at q; cases q)⟩
theorem r_ifeq {pc' pc2 : Nat} {o : Int} {x : Int32} (hd : decode B pc = .ok (.ifCond .eq o, 3)) (hp : pc + 3 = pc') (hq : (pc : Int) + o = (pc2 : Int)) (h1 : x = (0 : Int32) → Run w l Z EL n0 own nm B ret R Q Ny My h cells slots pc2 ls st) (h2 : ¬ x = (0 : Int32) → Run w l Z EL n0 own nm B ret R Q Ny My h cells slots pc' ls st) : Run w l Z EL n0 own nm B ret R Q Ny My h cells slots pc ls (.int x :: st) := r_if hd hp hq (fun q => h1 (h_eq.1 q)) (fun q => h2 (h_eq.2 q))
theorem r_icmpeq {pc' pc2 : Nat} {o : Int} {x y : Int32} (hd : decode B pc = .ok (.if_icmp .eq o, 3)) (hp : pc + 3 = pc') (hq : (pc : Int) + o = (pc2 : Int)) (h1 : x = y → Run w l Z EL n0 own nm B ret R Q Ny My h cells slots pc2 ls st) (h2 : ¬ x = y → Run w l Z EL n0 own nm B ret R Q Ny My h cells slots pc' ls st) : Run w l Z EL n0 own nm B ret R Q Ny My h cells slots pc ls (.int y :: .int x :: st) := r_icmp hd hp hq (fun q => h1 (h_eq.1 q)) (fun q => h2 (h_eq.2 q))
theorem r_ifne {pc' pc2 : Nat} {o : Int} {x : Int32} (hd : decode B pc = .ok (.ifCond .ne o, 3)) (hp : pc + 3 = pc') (hq : (pc : Int) + o = (pc2 : Int)) (h1 : ¬ x = (0 : Int32) → Run w l Z EL n0 own nm B ret R Q Ny My h cells slots pc2 ls st) (h2 : x = (0 : Int32) → Run w l Z EL n0 own nm B ret R Q Ny My h cells slots pc' ls st) : Run w l Z EL n0 own nm B ret R Q Ny My h cells slots pc ls (.int x :: st) := r_if hd hp hq (fun q => h1 (h_ne.1 q)) (fun q => h2 (h_ne.2 q))
theorem r_icmpne {pc' pc2 : Nat} {o : Int} {x y : Int32} (hd : decode B pc = .ok (.if_icmp .ne o, 3)) (hp : pc + 3 = pc') (hq : (pc : Int) + o = (pc2 : Int)) (h1 : ¬ x = y → Run w l Z EL n0 own nm B ret R Q Ny My h cells slots pc2 ls st) (h2 : x = y → Run w l Z EL n0 own nm B ret R Q Ny My h cells slots pc' ls st) : Run w l Z EL n0 own nm B ret R Q Ny My h cells slots pc ls (.int y :: .int x :: st) := r_icmp hd hp hq (fun q => h1 (h_ne.1 q)) (fun q => h2 (h_ne.2 q))
theorem r_iflt {pc' pc2 : Nat} {o : Int} {x : Int32} (hd : decode B pc = .ok (.ifCond .lt o, 3)) (hp : pc + 3 = pc') (hq : (pc : Int) + o = (pc2 : Int)) (h1 : x < (0 : Int32) → Run w l Z EL n0 own nm B ret R Q Ny My h cells slots pc2 ls st) (h2 : ¬ x < (0 : Int32) → Run w l Z EL n0 own nm B ret R Q Ny My h cells slots pc' ls st) : Run w l Z EL n0 own nm B ret R Q Ny My h cells slots pc ls (.int x :: st) := r_if hd hp hq (fun q => h1 (h_lt.1 q)) (fun q => h2 (h_lt.2 q))
theorem r_icmplt {pc' pc2 : Nat} {o : Int} {x y : Int32} (hd : decode B pc = .ok (.if_icmp .lt o, 3)) (hp : pc + 3 = pc') (hq : (pc : Int) + o = (pc2 : Int)) (h1 : x < y → Run w l Z EL n0 own nm B ret R Q Ny My h cells slots pc2 ls st) (h2 : ¬ x < y → Run w l Z EL n0 own nm B ret R Q Ny My h cells slots pc' ls st) : Run w l Z EL n0 own nm B ret R Q Ny My h cells slots pc ls (.int y :: .int x :: st) := r_icmp hd hp hq (fun q => h1 (h_lt.1 q)) (fun q => h2 (h_lt.2 q))
theorem r_ifge {pc' pc2 : Nat} {o : Int} {x : Int32} (hd : decode B pc = .ok (.ifCond .ge o, 3)) (hp : pc + 3 = pc') (hq : (pc : Int) + o = (pc2 : Int)) (h1 : ¬ x < (0 : Int32) → Run w l Z EL n0 own nm B ret R Q Ny My h cells slots pc2 ls st) (h2 : x < (0 : Int32) → Run w l Z EL n0 own nm B ret R Q Ny My h cells slots pc' ls st) : Run w l Z EL n0 own nm B ret R Q Ny My h cells slots pc ls (.int x :: st) := r_if hd hp hq (fun q => h1 (h_ge.1 q)) (fun q => h2 (h_ge.2 q))
theorem r_icmpge {pc' pc2 : Nat} {o : Int} {x y : Int32} (hd : decode B pc = .ok (.if_icmp .ge o, 3)) (hp : pc + 3 = pc') (hq : (pc : Int) + o = (pc2 : Int)) (h1 : ¬ x < y → Run w l Z EL n0 own nm B ret R Q Ny My h cells slots pc2 ls st) (h2 : x < y → Run w l Z EL n0 own nm B ret R Q Ny My h cells slots pc' ls st) : Run w l Z EL n0 own nm B ret R Q Ny My h cells slots pc ls (.int y :: .int x :: st) := r_icmp hd hp hq (fun q => h1 (h_ge.1 q)) (fun q => h2 (h_ge.2 q))
theorem r_ifgt {pc' pc2 : Nat} {o : Int} {x : Int32} (hd : decode B pc = .ok (.ifCond .gt o, 3)) (hp : pc + 3 = pc') (hq : (pc : Int) + o = (pc2 : Int)) (h1 : (0 : Int32) < x → Run w l Z EL n0 own nm B ret R Q Ny My h cells slots pc2 ls st) (h2 : ¬ (0 : Int32) < x → Run w l Z EL n0 own nm B ret R Q Ny My h cells slots pc' ls st) : Run w l Z EL n0 own nm B ret R Q Ny My h cells slots pc ls (.int x :: st) := r_if hd hp hq (fun q => h1 (h_gt.1 q)) (fun q => h2 (h_gt.2 q))
theorem r_icmpgt {pc' pc2 : Nat} {o : Int} {x y : Int32} (hd : decode B pc = .ok (.if_icmp .gt o, 3)) (hp : pc + 3 = pc') (hq : (pc : Int) + o = (pc2 : Int)) (h1 : y < x → Run w l Z EL n0 own nm B ret R Q Ny My h cells slots pc2 ls st) (h2 : ¬ y < x → Run w l Z EL n0 own nm B ret R Q Ny My h cells slots pc' ls st) : Run w l Z EL n0 own nm B ret R Q Ny My h cells slots pc ls (.int y :: .int x :: st) := r_icmp hd hp hq (fun q => h1 (h_gt.1 q)) (fun q => h2 (h_gt.2 q))
theorem r_ifle {pc' pc2 : Nat} {o : Int} {x : Int32} (hd : decode B pc = .ok (.ifCond .le o, 3)) (hp : pc + 3 = pc') (hq : (pc : Int) + o = (pc2 : Int)) (h1 : ¬ (0 : Int32) < x → Run w l Z EL n0 own nm B ret R Q Ny My h cells slots pc2 ls st) (h2 : (0 : Int32) < x → Run w l Z EL n0 own nm B ret R Q Ny My h cells slots pc' ls st) : Run w l Z EL n0 own nm B ret R Q Ny My h cells slots pc ls (.int x :: st) := r_if hd hp hq (fun q => h1 (h_le.1 q)) (fun q => h2 (h_le.2 q))
theorem r_icmple {pc' pc2 : Nat} {o : Int} {x y : Int32} (hd : decode B pc = .ok (.if_icmp .le o, 3)) (hp : pc + 3 = pc') (hq : (pc : Int) + o = (pc2 : Int)) (h1 : ¬ y < x → Run w l Z EL n0 own nm B ret R Q Ny My h cells slots pc2 ls st) (h2 : y < x → Run w l Z EL n0 own nm B ret R Q Ny My h cells slots pc' ls st) : Run w l Z EL n0 own nm B ret R Q Ny My h cells slots pc ls (.int y :: .int x :: st) := r_icmp hd hp hq (fun q => h1 (h_le.1 q)) (fun q => h2 (h_le.2 q))
theorem r_ifnullY {pc2 : Nat} {o : Int} (hd : decode B pc = .ok (.ifnull o, 3)) (hq : (pc : Int) + o = (pc2 : Int)) (hr : Run w l Z EL n0 own nm B ret R Q Ny My h cells slots pc2 ls st) : Run w l Z EL n0 own nm B ret R Q Ny My h cells slots pc ls (.null :: st) :=
  Run.pure (fun p e below T m c target hA hx hby hs => XS.ifnullYes hA hx rfl (pc0 := pc) (pc' := pc2) rfl (hb hby hd) rfl (by omega) (by omega) hs) rfl hr
theorem r_ifnullN {pc' : Nat} {o : Int} {b : Addr} (hd : decode B pc = .ok (.ifnull o, 3)) (hp : pc + 3 = pc') (hr : Run w l Z EL n0 own nm B ret R Q Ny My h cells slots pc' ls st) : Run w l Z EL n0 own nm B ret R Q Ny My h cells slots pc ls (.ref b :: st) :=
  Run.pure (fun p e below T m c target hA hx hby hs => XS.ifnullNo hA hx rfl (hb hby hd) rfl (by subst hp; exact hs)) rfl hr
theorem r_ifnonnullY {pc2 : Nat} {o : Int} {b : Addr} (hd : decode B pc = .ok (.ifnonnull o, 3)) (hq : (pc : Int) + o = (pc2 : Int)) (hr : Run w l Z EL n0 own nm B ret R Q Ny My h cells slots pc2 ls st) : Run w l Z EL n0 own nm B ret R Q Ny My h cells slots pc ls (.ref b :: st) :=
  Run.pure (fun p e below T m c target hA hx hby hs => XS.ifnonnullYes hA hx rfl (pc0 := pc) (pc' := pc2) rfl (hb hby hd) rfl (by omega) (by omega) hs) rfl hr
theorem r_ifnonnullN {pc' : Nat} {o : Int} (hd : decode B pc = .ok (.ifnonnull o, 3)) (hp : pc + 3 = pc') (hr : Run w l Z EL n0 own nm B ret R Q Ny My h cells slots pc' ls st) : Run w l Z EL n0 own nm B ret R Q Ny My h cells slots pc ls (.null :: st) :=
  Run.pure (fun p e below T m c target hA hx hby hs => XS.ifnonnullNo hA hx rfl (hb hby hd) rfl (by subst hp; exact hs)) rfl hr
theorem r_acmp {pc' pc2 : Nat} {cd : ClassFile.ACond} {o : Int} {x y : Value} (hx1 : x.isRef = true) (hy1 : y.isRef = true) (hd : decode B pc = .ok (.if_acmp cd o, 3)) (hp : pc + 3 = pc') (hq : (pc : Int) + o = (pc2 : Int)) (h1 : XT.acmp cd x y = true → Run w l Z EL n0 own nm B ret R Q Ny My h cells slots pc2 ls st) (h2 : XT.acmp cd x y = false → Run w l Z EL n0 own nm B ret R Q Ny My h cells slots pc' ls st) : Run w l Z EL n0 own nm B ret R Q Ny My h cells slots pc ls (y :: x :: st) := by
  cases hb0 : XT.acmp cd x y with
  | true => exact Run.pure (fun p e below T m c target hA hx hby hs => XT.acmpYes hA hx rfl (pc0 := pc) (pc' := pc2) rfl (hb hby hd) rfl hx1 hy1 hb0 (by omega) (by omega) hs) rfl (h1 hb0)
  | false => exact Run.pure (fun p e below T m c target hA hx hby hs => XT.acmpNo hA hx rfl (hb hby hd) rfl hx1 hy1 hb0 (by subst hp; exact hs)) rfl (h2 hb0)
theorem r_irem {pc' : Nat} {x y : Int32} (hd : decode B pc = .ok (.irem, 1)) (hp : pc + 1 = pc') (hy : y ≠ 0) (hr : Run w l Z EL n0 own nm B ret R Q Ny My h cells slots pc' ls (.int (x % y) :: st)) : Run w l Z EL n0 own nm B ret R Q Ny My h cells slots pc ls (.int y :: .int x :: st) :=
  Run.warm (fun p e s m args below meth c T locs hx hby hml hnm hZ hown X eT hO => ⟨T, X, eT, fun t k => iremM X hx (g := mkF m pc ls (.int y :: .int x :: st)) rfl (hb hby hd) rfl hy (by subst hp; exact k)⟩) hr
theorem r_getfield {pc' : Nat} {R0 O n d host : String} {index : Nat} {a : Addr} {v : Value} (hd : decode B pc = .ok (.getfield index, 3)) (hp : pc + 3 = pc') (wl : (Jvm.Cond.fieldLink own index R0 n d).before a0 Z = true ∨ (Jvm.Cond.fieldLinkNest own index R0 n d host).before a0 Z = true) (via : Via Z R0 O n d) (F : Fld Z h a O n d v) (hr : Run w l Z EL n0 own nm B ret R Q Ny My h cells slots pc' ls (v :: st)) : Run w l Z EL n0 own nm B ret R Q Ny My h cells slots pc ls (.ref a :: st) :=
  Run.warm (fun p e s m args below meth c T locs hx hby hml hnm hZ hown X eT hO => by
    obtain ⟨T', X', e', stp⟩ := getF X hx hZ hown wl via eT F (g := mkF m pc ls (.ref a :: st)) rfl rfl (hb hby hd)
    exact ⟨T', X', e', fun t k => stp t (by subst hp; exact k)⟩) hr
theorem r_getstatic {pc' : Nat} {R0 O n d host : String} {index : Nat} {v : Value} (hd : decode B pc = .ok (.getstatic index, 3)) (hp : pc + 3 = pc') (wl : (Jvm.Cond.fieldLink own index R0 n d).before a0 Z = true ∨ (Jvm.Cond.fieldLinkNest own index R0 n d host).before a0 Z = true) (via : Via Z R0 O n d) (F : Sta Z Z.heap O n d v) (hr : Run w l Z EL n0 own nm B ret R Q Ny My h cells slots pc' ls (v :: st)) : Run w l Z EL n0 own nm B ret R Q Ny My h cells slots pc ls st :=
  Run.warm (fun p e s m args below meth c T locs hx hby hml hnm hZ hown X eT hO => by
    obtain ⟨T', X', e', stp⟩ := getS2 X hx hZ hown wl via eT (F.ext hO.2) (g := mkF m pc ls st) rfl (hb hby hd)
    exact ⟨T', X', e', fun t k => stp t (by subst hp; exact k)⟩) hr
theorem r_castY {pc' : Nat} {K : String} {index : Nat} {a : Addr} (hd : decode B pc = .ok (.checkcast index, 3)) (hp : pc + 3 = pc') (wl : (Jvm.Cond.classLink own index K).before a0 Z = true) (F : Ins Z h a K true) (hr : Run w l Z EL n0 own nm B ret R Q Ny My h cells slots pc' ls (.ref a :: st)) : Run w l Z EL n0 own nm B ret R Q Ny My h cells slots pc ls (.ref a :: st) :=
  Run.warm (fun p e s m args below meth c T locs hx hby hml hnm hZ hown X eT hO => by
    obtain ⟨T', X', e', stp⟩ := castY X hx hZ hown wl eT F (g := mkF m pc ls (.ref a :: st)) rfl rfl (hb hby hd)
    exact ⟨T', X', e', fun t k => stp t (by subst hp; exact k)⟩) hr
theorem r_instY {pc' : Nat} {K : String} {index : Nat} {a : Addr} (hd : decode B pc = .ok (.instanceof index, 3)) (hp : pc + 3 = pc') (wl : (Jvm.Cond.classLink own index K).before a0 Z = true) (F : Ins Z h a K true) (hr : Run w l Z EL n0 own nm B ret R Q Ny My h cells slots pc' ls (.int 1 :: st)) : Run w l Z EL n0 own nm B ret R Q Ny My h cells slots pc ls (.ref a :: st) :=
  Run.warm (fun p e s m args below meth c T locs hx hby hml hnm hZ hown X eT hO => by
    obtain ⟨T', X', e', stp⟩ := instY X hx hZ hown wl eT F (g := mkF m pc ls (.ref a :: st)) rfl rfl (hb hby hd)
    exact ⟨T', X', e', fun t k => stp t (by subst hp; exact k)⟩) hr
theorem r_instNo {pc' : Nat} {K C : String} {index : Nat} {a : Addr} (hd : decode B pc = .ok (.instanceof index, 3)) (hp : pc + 3 = pc') (wl : (Jvm.Cond.classLink own index K).before a0 Z = true) (E : Exa Z h a C) (F : ∃ c t, Z.vm.findClass C = some c ∧ Z.vm.findClass K = some t ∧ Z.vm.assignable c t = false) (hr : Run w l Z EL n0 own nm B ret R Q Ny My h cells slots pc' ls (.int 0 :: st)) : Run w l Z EL n0 own nm B ret R Q Ny My h cells slots pc ls (.ref a :: st) :=
  Run.warm (fun p e s m args below meth c T locs hx hby hml hnm hZ hown X eT hO => by
    obtain ⟨T', X', e', stp⟩ := instNo X hx hZ hown wl eT E F (g := mkF m pc ls (.ref a :: st)) rfl rfl (hb hby hd)
    exact ⟨T', X', e', fun t k => stp t (by subst hp; exact k)⟩) hr
theorem r_instNull {pc' : Nat} {index : Nat} (hd : decode B pc = .ok (.instanceof index, 3)) (hp : pc + 3 = pc') (hr : Run w l Z EL n0 own nm B ret R Q Ny My h cells slots pc' ls (.int 0 :: st)) : Run w l Z EL n0 own nm B ret R Q Ny My h cells slots pc ls (.null :: st) :=
  Run.warm (fun p e s m args below meth c T locs hx hby hml hnm hZ hown X eT hO => ⟨T, X, eT, fun t k => X.instanceofNull hx (g := mkF m pc ls (.null :: st)) rfl rfl (hb hby hd) t (by subst hp; exact k)⟩) hr
theorem r_castNull {pc' : Nat} {index : Nat} (hd : decode B pc = .ok (.checkcast index, 3)) (hp : pc + 3 = pc') (hr : Run w l Z EL n0 own nm B ret R Q Ny My h cells slots pc' ls (.null :: st)) : Run w l Z EL n0 own nm B ret R Q Ny My h cells slots pc ls (.null :: st) :=
  Run.warm (fun p e s m args below meth c T locs hx hby hml hnm hZ hown X eT hO => ⟨T, X, eT, fun t k => X.checkcastNull hx (g := mkF m pc ls (.null :: st)) rfl rfl (hb hby hd) t (by subst hp; exact k)⟩) hr
theorem r_initO {pc' : Nat} {index : Nat} {a : Addr} {W : Nat} (hd : decode B pc = .ok (.invokespecial index, 3)) (hp : pc + 3 = pc') (w1 : (Jvm.Cond.methodLink own index Lib.objectInit).before a0 Z = true) (w2 : (Jvm.Cond.instanceMethod Lib.objectInit).before a0 Z = true) (w3 : (Jvm.Cond.code Lib.objectInit ⟨#[0xb1]⟩ 1 none).before a0 Z = true)
    (hf : 1 ≤ R.frames) (hW : (st.map fun v => v.category).sum ≤ W) (hl : W + 12 ≤ R.locals) (hr : Run w l Z EL n0 own nm B ret R Q Ny My h cells slots pc' ls st) : Run w l Z EL n0 own nm B ret R Q Ny My h cells slots pc ls (.ref a :: st) :=
  Run.warm (fun p e s m args below meth c T locs hx hby hml hnm hZ hown X eT hO => by
    obtain ⟨T', X', e', stp⟩ := initO X hx hZ hown w1 w2 w3 eT (g := mkF m pc ls (.ref a :: st)) rfl hml.symm rfl (hb hby hd) hf (W := W) (by show 2 * 0 + _ ≤ _; omega) hl
    exact ⟨T', X', e', fun t k => stp t (by subst hp; exact k)⟩) hr
theorem r_ldcI {pc' : Nat} {index : Nat} {v : Int32} (hd : decode B pc = .ok (.ldc index, 2)) (hp : pc + 2 = pc') (wl : (Jvm.Cond.constant own index v).before a0 Z = true) (hr : Run w l Z EL n0 own nm B ret R Q Ny My h cells slots pc' ls (.int v :: st)) : Run w l Z EL n0 own nm B ret R Q Ny My h cells slots pc ls st :=
  Run.warm (fun p e s m args below meth c T locs hx hby hml hnm hZ hown X eT hO => ⟨T, X, eT, fun t k => X.ldcInt hx hown (mvT hZ wl) (g := mkF m pc ls st) rfl (hb hby hd) t (by subst hp; exact k)⟩) hr
theorem r_ldcwI {pc' : Nat} {index : Nat} {v : Int32} (hd : decode B pc = .ok (.ldc_w index, 3)) (hp : pc + 3 = pc') (wl : (Jvm.Cond.constant own index v).before a0 Z = true) (hr : Run w l Z EL n0 own nm B ret R Q Ny My h cells slots pc' ls (.int v :: st)) : Run w l Z EL n0 own nm B ret R Q Ny My h cells slots pc ls st :=
  Run.warm (fun p e s m args below meth c T locs hx hby hml hnm hZ hown X eT hO => ⟨T, X, eT, fun t k => X.ldcwInt hx hown (mvT hZ wl) (g := mkF m pc ls st) rfl (hb hby hd) t (by subst hp; exact k)⟩) hr
theorem r_lookHit {pc2 len : Nat} {k : Int32} {dflt a off : Int} {pairs : Array (Int × Int)} (hd : decode B pc = .ok (.lookupswitch dflt pairs, len)) (hs : (pairs.toList.zip (pairs.toList.drop 1)).all (fun (a, next) => a.1 < next.1) = true) (hf : pairs.find? (·.1 == k.toInt) = some (a, off)) (hq : (pc : Int) + off = (pc2 : Int)) (hr : Run w l Z EL n0 own nm B ret R Q Ny My h cells slots pc2 ls st) : Run w l Z EL n0 own nm B ret R Q Ny My h cells slots pc ls (.int k :: st) :=
  Run.warm (fun p ee s m args below meth c T locs hx hby hml hnm hZ hown X eT hO => ⟨T, X, eT, fun t kk => X.lookupswitchHit hx (g := mkF m pc ls (.int k :: st)) rfl rfl (hb hby hd) hs hf (by show 0 ≤ (pc : Int) + off; omega) t (by
    have e : ((pc : Int) + off).toNat = pc2 := by omega
    show Steps p.tables ee below (T.setTop (mkF m ((pc : Int) + off).toNat ls st)) t
    rw [e]; exact kk)⟩) hr
theorem r_lookMiss {pc2 len : Nat} {k : Int32} {dflt : Int} {pairs : Array (Int × Int)} (hd : decode B pc = .ok (.lookupswitch dflt pairs, len)) (hs : (pairs.toList.zip (pairs.toList.drop 1)).all (fun (a, next) => a.1 < next.1) = true) (hf : pairs.find? (·.1 == k.toInt) = none) (hq : (pc : Int) + dflt = (pc2 : Int)) (hr : Run w l Z EL n0 own nm B ret R Q Ny My h cells slots pc2 ls st) : Run w l Z EL n0 own nm B ret R Q Ny My h cells slots pc ls (.int k :: st) :=
  Run.warm (fun p ee s m args below meth c T locs hx hby hml hnm hZ hown X eT hO => ⟨T, X, eT, fun t kk => X.lookupswitchMiss hx (g := mkF m pc ls (.int k :: st)) rfl rfl (hb hby hd) hs hf (by show 0 ≤ (pc : Int) + dflt; omega) t (by
    have e : ((pc : Int) + dflt).toNat = pc2 := by omega
    show Steps p.tables ee below (T.setTop (mkF m ((pc : Int) + dflt).toNat ls st)) t
    rw [e]; exact kk)⟩) hr
theorem r_tabIn {pc2 len : Nat} {k : Int32} {dflt low high off : Int} {offs : Array Int} (hd : decode B pc = .ok (.tableswitch dflt low high offs, len)) (hin : ¬ (k.toInt < low ∨ k.toInt > high)) (ho : offs[(k.toInt - low).toNat]? = some off) (hq : (pc : Int) + off = (pc2 : Int)) (hr : Run w l Z EL n0 own nm B ret R Q Ny My h cells slots pc2 ls st) : Run w l Z EL n0 own nm B ret R Q Ny My h cells slots pc ls (.int k :: st) :=
  Run.pure (fun p e below T m c target hA hx hby hs => XS.tswIn hA hx rfl (pc0 := pc) (pc' := pc2) rfl (hb hby hd) rfl hin ho (by omega) (by omega) hs) rfl hr
theorem r_tabOut {pc2 len : Nat} {k : Int32} {dflt low high : Int} {offs : Array Int} (hd : decode B pc = .ok (.tableswitch dflt low high offs, len)) (hout : k.toInt < low ∨ k.toInt > high) (hq : (pc : Int) + dflt = (pc2 : Int)) (hr : Run w l Z EL n0 own nm B ret R Q Ny My h cells slots pc2 ls st) : Run w l Z EL n0 own nm B ret R Q Ny My h cells slots pc ls (.int k :: st) :=
  Run.pure (fun p e below T m c target hA hx hby hs => XS.tswOut hA hx rfl (pc0 := pc) (pc' := pc2) rfl (hb hby hd) rfl hout (by omega) (by omega) hs) rfl hr
theorem r_ldc2L {pc' : Nat} {index : Nat} {v : Int64} (hd : decode B pc = .ok (.ldc2_w index, 3)) (hp : pc + 3 = pc') (wl : (Jvm.Cond.constantLong own index v).before a0 Z = true) (hr : Run w l Z EL n0 own nm B ret R Q Ny My h cells slots pc' ls (.long v :: st)) : Run w l Z EL n0 own nm B ret R Q Ny My h cells slots pc ls st :=
  Run.warm (fun p e s m args below meth c T locs hx hby hml hnm hZ hown X eT hO => ⟨T, X, eT, fun t k => X.ldc2Long hx hown (mvT hZ wl) (g := mkF m pc ls st) rfl (hb hby hd) t (by subst hp; exact k)⟩) hr
theorem r_arraylength {pc' : Nat} {a : Addr} {k : ClassId} {ty : FieldType} {z : Int32} {vs : List Value} {dv : Value} (hd : decode B pc = .ok (.arraylength, 1)) (hp : pc + 1 = pc') (A : Arv Z h a k ty z vs dv) (hr : Run w l Z EL n0 own nm B ret R Q Ny My h cells slots pc' ls (.int z :: st)) : Run w l Z EL n0 own nm B ret R Q Ny My h cells slots pc ls (.ref a :: st) :=
  Run.warm (fun p e s m args below meth c T locs hx hby hml hnm hZ hown X eT hO => by
    obtain ⟨cl, A1, -, S1, N1, -, -⟩ := A
    refine ⟨T, X, eT, fun t k => X.arraylength hx (by rw [eT]; exact A1.1) (State.isArrayOf_alike hZ.alike A1.2.1) (g := mkF m pc ls (.ref a :: st)) rfl rfl (hb hby hd) t ?_⟩
    rw [len_of S1 N1]; subst hp; exact k) hr
theorem arv_at {Z : State} {h : Heap} {a : Addr} {k : ClassId} {ty : FieldType} {z j : Int32} {vs : List Value} {dv v : Value} (A : Arv Z h a k ty z vs dv) (hj : ¬ j < 0 ∧ j < z) (hv : vs.getD j.toNatClampNeg dv = v) :
    ∃ c, Arr Z h a c ty ∧ ¬ (j < 0 ∨ c.slots.size ≤ j.toNatClampNeg) ∧ c.slots[j.toNatClampNeg]? = some v := by
  obtain ⟨cl, A1, -, S1, N1, H1, -⟩ := A
  exact ⟨cl, A1, inb_of S1 hj, H1.at (inb_of S1 hj) hv⟩
theorem r_caload {pc' : Nat} {a : Addr} {k : ClassId} {z j : Int32} {vs : List Value} {dv v : Value} (hd : decode B pc = .ok (.caload, 1)) (hp : pc + 1 = pc') (A : Arv Z h a k .char z vs dv) (hj : ¬ j < 0 ∧ j < z) (hv : vs.getD j.toNatClampNeg dv = v) (hr : Run w l Z EL n0 own nm B ret R Q Ny My h cells slots pc' ls (v :: st)) : Run w l Z EL n0 own nm B ret R Q Ny My h cells slots pc ls (.int j :: .ref a :: st) :=
  Run.warm (fun p e s m args below meth c T locs hx hby hml hnm hZ hown X eT hO => by
    obtain ⟨cl, A1, b1, g1⟩ := arv_at A hj hv
    exact ⟨T, X, eT, fun t k => X.caload hx (by rw [eT]; exact A1.1) (State.isArrayOf_alike hZ.alike A1.2.1) A1.2.2 b1 g1 (g := mkF m pc ls (.int j :: .ref a :: st)) rfl rfl (hb hby hd) t (by subst hp; exact k)⟩) hr
theorem r_iaload {pc' : Nat} {a : Addr} {k : ClassId} {z j : Int32} {vs : List Value} {dv v : Value} (hd : decode B pc = .ok (.iaload, 1)) (hp : pc + 1 = pc') (A : Arv Z h a k .int z vs dv) (hj : ¬ j < 0 ∧ j < z) (hv : vs.getD j.toNatClampNeg dv = v) (hr : Run w l Z EL n0 own nm B ret R Q Ny My h cells slots pc' ls (v :: st)) : Run w l Z EL n0 own nm B ret R Q Ny My h cells slots pc ls (.int j :: .ref a :: st) :=
  Run.warm (fun p e s m args below meth c T locs hx hby hml hnm hZ hown X eT hO => by
    obtain ⟨cl, A1, b1, g1⟩ := arv_at A hj hv
    exact ⟨T, X, eT, fun t k => X.iaload hx (by rw [eT]; exact A1.1) (State.isArrayOf_alike hZ.alike A1.2.1) A1.2.2 b1 g1 (g := mkF m pc ls (.int j :: .ref a :: st)) rfl rfl (hb hby hd) t (by subst hp; exact k)⟩) hr
theorem r_baload {pc' : Nat} {a : Addr} {k : ClassId} {z j : Int32} {vs : List Value} {dv v : Value} (hd : decode B pc = .ok (.baload, 1)) (hp : pc + 1 = pc') (A : Arv Z h a k .byte z vs dv) (hj : ¬ j < 0 ∧ j < z) (hv : vs.getD j.toNatClampNeg dv = v) (hr : Run w l Z EL n0 own nm B ret R Q Ny My h cells slots pc' ls (v :: st)) : Run w l Z EL n0 own nm B ret R Q Ny My h cells slots pc ls (.int j :: .ref a :: st) :=
  Run.warm (fun p e s m args below meth c T locs hx hby hml hnm hZ hown X eT hO => by
    obtain ⟨cl, A1, b1, g1⟩ := arv_at A hj hv
    exact ⟨T, X, eT, fun t k => X.baloadBytes hx (by rw [eT]; exact A1.1) (State.isArrayOf_alike hZ.alike A1.2.1) A1.2.2 b1 g1 (g := mkF m pc ls (.int j :: .ref a :: st)) rfl rfl (hb hby hd) t (by subst hp; exact k)⟩) hr
theorem r_aaload {pc' : Nat} {a : Addr} {k : ClassId} {ty : FieldType} {z j : Int32} {vs : List Value} {dv v : Value} (hd : decode B pc = .ok (.aaload, 1)) (hp : pc + 1 = pc') (A : Arv Z h a k ty z vs dv) (hty : ty.isReference = true) (hj : ¬ j < 0 ∧ j < z) (hv : vs.getD j.toNatClampNeg dv = v) (hr : Run w l Z EL n0 own nm B ret R Q Ny My h cells slots pc' ls (v :: st)) : Run w l Z EL n0 own nm B ret R Q Ny My h cells slots pc ls (.int j :: .ref a :: st) :=
  Run.warm (fun p e s m args below meth c T locs hx hby hml hnm hZ hown X eT hO => by
    obtain ⟨cl, A1, b1, g1⟩ := arv_at A hj hv
    exact ⟨T, X, eT, fun t k => X.aaload hx (by rw [eT]; exact A1.1) (State.isArrayOf_alike hZ.alike A1.2.1) hty A1.2.2 b1 g1 (g := mkF m pc ls (.int j :: .ref a :: st)) rfl rfl (hb hby hd) t (by subst hp; exact k)⟩) hr
/-- a step that makes or writes -/
theorem Run.heap {pc' cells' slots' : Nat} {st' : List Value} {h' : Heap} {My' : List Addr} (H : ∀ (p : Program) (e : Env) (s : State) (m : MethodId) (args : Array Value) (below : List Frame) (meth : Method) (c : Code) (T : State) (locs : List Loc) (vm : Vm), p.tables.exec = Jvm.exec → c.code = B → c.maxLocals = ls.size → meth.name = nm → Z.Warmed39 vm → vm.findClass own = some m.cls → Stand p l e R (s.setVm vm) m args below meth c T locs cells slots → T.heap = h → Fr n0 locs → Hid w Z EL n0 My s vm h →
      ∃ T' locs', Stand p l e R (s.setVm vm) m args below meth c T' locs' cells' slots' ∧ T'.heap = h' ∧ Fr n0 locs' ∧ Hid w Z EL n0 My' s vm h' ∧ ∀ target, Steps p.tables e below (T'.setTop (mkF m pc' ls st')) target → Steps p.tables e below (T.setTop (mkF m pc ls st)) target)
    (hr : Run w l Z EL n0 own nm B ret R Q Ny My' h' cells' slots' pc' ls st') : Run w l Z EL n0 own nm B ret R Q Ny My h cells slots pc ls st := by
  intro p e s m args below meth c T locs vm hx hby hml hret hnm hlk hZ hown X eT N hH
  obtain ⟨T', locs', X', e', N', hH', stp⟩ := H p e s m args below meth c T locs vm hx hby hml hnm hZ hown X eT N hH
  obtain ⟨t, o, hs, r⟩ := hr p e s m args below meth c T' locs' vm hx hby hml hret hnm hlk hZ hown X' e' N' hH'
  exact ⟨t, o, stp t hs, r⟩
theorem r_new {pc' : Nat} {C : String} {index n : Nat} (hd : decode B pc = .ok (.new index, 3)) (hp : pc + 3 = pc') (wl : (Jvm.Cond.classLink own index C).before a0 Z = true) (wi : (Jvm.Cond.instantiable C n).before a0 Z = true) (wz : (Jvm.Cond.initialized C).before a0 Z = true) (hc : cells + 1 ≤ R.cells) (hl : slots + n ≤ R.slots)
    (K : ∀ (h' : Heap) (b : Nat), b = h.size → h.size < h'.size → Ext h h' → Exa Z h' b C → (∀ {O nm d : String} {ty : FieldType}, Laid Z a0 C O nm d → parseFieldDescriptor d = some ty → Fld Z h' b O nm d (defaultValue ty)) → Unt h' b → Run w l Z EL n0 own nm B ret R Q Ny (b :: My) h' (cells + 1) (slots + n) pc' ls (.ref b :: st)) : Run w l Z EL n0 own nm B ret R Q Ny My h cells slots pc ls st := by
  intro p e s m args below meth c T locs vm hx hby hml hret hnm hlk hZ hown X eT N hH
  obtain ⟨T', h', X', e', E', A', D', U', stp⟩ := newO X hx hZ hown wl wi wz eT (g := mkF m pc ls st) rfl (hb hby hd) hc hl
  have hlt : h.size < h'.size := A'.lt
  obtain ⟨t, o, hs, r⟩ := K h' h.size rfl hlt E' A' D' U' p e s m args below meth c T' locs vm hx hby hml hret hnm hlk hZ hown X' e' N (hH.extNew E' hlt)
  exact ⟨t, o, stp t (by subst hp; exact hs), r⟩
theorem r_newP {pc' : Nat} {aty : ArrayType} {n : Int32} {cap : Nat} {ad : String} (hd : decode B pc = .ok (.newarray aty, 2)) (hp : pc + 2 = pc') (wa : (Jvm.Cond.arrayClass (newarray.typeOf aty)).before a0 Z = true) (hn : ¬ n < 0) (hcap : n.toNatClampNeg ≤ cap) (hbig : cap * 8 ≤ 536870912) (hc : cells + 1 ≤ R.cells) (hl : slots + cap ≤ R.slots) (had : "[" ++ (newarray.typeOf aty).toString = ad)
    (K : ∀ (h' : Heap) (b : Nat) (k : ClassId), b = h.size → h.size < h'.size → Ext h h' → Exa Z h' b ad → Arv Z h' b k (newarray.typeOf aty) n [] (defaultValue (newarray.typeOf aty)) → Run w l Z EL n0 own nm B ret R Q Ny (b :: My) h' (cells + 1) (slots + cap) pc' ls (.ref b :: st)) : Run w l Z EL n0 own nm B ret R Q Ny My h cells slots pc ls (.int n :: st) := by
  intro p e s m args below meth c T locs vm hx hby hml hret hnm hlk hZ hown X eT N hH
  obtain ⟨T', h', cA, X', e', E', A', D', stp⟩ := newPE X hx hZ wa eT (g := mkF m pc ls (.int n :: st)) rfl (hb hby hd) rfl hn hcap hbig hc hl had
  have hlt : h.size < h'.size := D'.lt
  obtain ⟨t, o, hs, r⟩ := K h' h.size cA rfl hlt E' D' (Arv.new A' hn) p e s m args below meth c T' locs vm hx hby hml hret hnm hlk hZ hown X' e' N (hH.extNew E' hlt)
  exact ⟨t, o, stp t (by subst hp; exact hs), r⟩
theorem r_newR {pc' : Nat} {C : String} {index : Nat} {n : Int32} {cap : Nat} {ad : String} (hd : decode B pc = .ok (.anewarray index, 3)) (hp : pc + 3 = pc') (w1 : (Jvm.Cond.classLink own index C).before a0 Z = true) (w2 : (Jvm.Cond.arrayOver (.object C)).before a0 Z = true) (hn : ¬ n < 0) (hcap : n.toNatClampNeg ≤ cap) (hbig : cap * 8 ≤ 536870912) (hc : cells + 1 ≤ R.cells) (hl : slots + cap ≤ R.slots) (had : "[" ++ (FieldType.object C).toString = ad)
    (K : ∀ (h' : Heap) (b : Nat) (k : ClassId), b = h.size → h.size < h'.size → Ext h h' → Exa Z h' b ad → Ovr Z k C → Arv Z h' b k (.object C) n [] .null → Run w l Z EL n0 own nm B ret R Q Ny (b :: My) h' (cells + 1) (slots + cap) pc' ls (.ref b :: st)) : Run w l Z EL n0 own nm B ret R Q Ny My h cells slots pc ls (.int n :: st) := by
  intro p e s m args below meth c T locs vm hx hby hml hret hnm hlk hZ hown X eT N hH
  obtain ⟨T', h', cA, X', e', E', A', D', O', stp⟩ := newRE X hx hZ hown w1 w2 eT (g := mkF m pc ls (.int n :: st)) rfl (hb hby hd) rfl hn hcap hbig hc hl had
  have hlt : h.size < h'.size := D'.lt
  obtain ⟨t, o, hs, r⟩ := K h' h.size cA rfl hlt E' D' O' (Arv.new A' hn) p e s m args below meth c T' locs vm hx hby hml hret hnm hlk hZ hown X' e' N (hH.extNew E' hlt)
  exact ⟨t, o, stp t (by subst hp; exact hs), r⟩
theorem r_putfield {pc' : Nat} {R0 O n d C : String} {index kk : Nat} {ty : FieldType} {a : Addr} {v v' old : Value} (hd : decode B pc = .ok (.putfield index, 3)) (hp : pc + 3 = pc') (wl : (Jvm.Cond.fieldLink own index R0 n d).before a0 Z = true) (via : Via Z R0 O n d) (F : Fld Z h a O n d old) (E : Exa Z h a C)
    (L : (Jvm.Cond.lays C O n d).before a0 Z = true ∨ ((Jvm.Cond.laysFinal C O n d).before a0 Z = true ∧ own = O ∧ nm = "<init>")) (wi : (Jvm.Cond.instantiable C kk).before a0 Z = true) (hty : parseFieldDescriptor d = some ty) (hn : narrow ty v = v') (hf : fits ty v' = true) (ge : n0 ≤ a) (S : Sf w Z h My a)
    (K : ∀ h' : Heap, Wr h h' a (Jvm.RoadKit.slotOf Z O n d) v' → Run w l Z EL n0 own nm B ret R Q Ny My h' cells slots pc' ls st) : Run w l Z EL n0 own nm B ret R Q Ny My h cells slots pc ls (v :: .ref a :: st) := by
  intro p e s m args below meth c T locs vm hx hby hml hret hnm hlk hZ hown X eT N hH
  obtain ⟨T', h', X', e', W', stp⟩ := putFN X hx hZ hown wl via eT F E (L.imp id fun q => ⟨q.1, q.2.1, hnm.trans q.2.2⟩) wi hty hn hf (g := mkF m pc ls (v :: .ref a :: st)) rfl rfl (hb hby hd)
  obtain ⟨t, o, hs, r⟩ := K h' W' p e s m args below meth c T' _ vm hx hby hml hret hnm hlk hZ hown X' e' (Fr.snoc X' N ge) (hH.keep hZ (Keep.of_wr W') (allS ⟨ge, S⟩ all0))
  exact ⟨t, o, stp t (by subst hp; exact hs), r⟩
theorem Sf.arv {w : Bool} {Z : State} {h : Heap} {My : List Addr} {a : Addr} {k : ClassId} {ty : FieldType} {z : Int32} {vs : List Value} {dv : Value} (A : Arv Z h a k ty z vs dv) (ht : ty ≠ .byte) : Sf w Z h My a := by
  obtain ⟨cl, A1, -⟩ := A
  exact Or.inr (Or.inr (Or.inr ⟨cl, ty, A1, ht⟩))
theorem Sf.exa {w : Bool} {Z : State} {h : Heap} {My : List Addr} {a : Addr} {C : String} (E : Exa Z h a C) (h1 : C ≠ "java/lang/String") (h2 : C ≠ "[B") : Sf w Z h My a := Or.inr (Or.inr (Or.inl ⟨C, E, h1, h2⟩))
theorem Sf.my {w : Bool} {Z : State} {h : Heap} {My : List Addr} {a : Addr} (q : a ∈ My) : Sf w Z h My a := Or.inr (Or.inl q)
theorem r_castore {pc' : Nat} {a : Addr} {k : ClassId} {z j x : Int32} {vs : List Value} {dv : Value} (i : Nat) (hd : decode B pc = .ok (.castore, 1)) (hp : pc + 1 = pc') (A : Arv Z h a k .char z vs dv) (hj : ¬ j < 0 ∧ j < z) (hi : j.toNatClampNeg = i) (hlen : i < vs.length) (ge : n0 ≤ a) 
    (K : ∀ h' : Heap, Wr h h' a i (.int (nar .char x)) → Arv Z h' a k .char z (vs.set i (.int (nar .char x))) dv → Run w l Z EL n0 own nm B ret R Q Ny My h' cells slots pc' ls st) : Run w l Z EL n0 own nm B ret R Q Ny My h cells slots pc ls (.int x :: .int j :: .ref a :: st) := by
  intro p e s m args below meth c T locs vm hx hby hml hret hnm hlk hZ hown X eT N hH
  obtain ⟨cl, A1, q1, S1, N1, H1, G1⟩ := id A
  obtain ⟨T', h', X', e', W', stp⟩ := stC X hx hZ eT A1 (inb_of S1 hj) (g := mkF m pc ls (.int x :: .int j :: .ref a :: st)) rfl rfl (hb hby hd)
  have S : Sf w Z h My a := Sf.arv A (by decide)
  obtain ⟨t, o, hs, r⟩ := K h' (hi ▸ W') (Arv.set A1 q1 S1 N1 H1 G1 (fits_nar_char _) W' i hi hlen) p e s m args below meth c T' _ vm hx hby hml hret hnm hlk hZ hown X' e' (Fr.snoc X' N ge) (hH.keep hZ (Keep.of_wr W') (allS ⟨ge, S⟩ all0))
  exact ⟨t, o, stp t (by subst hp; exact hs), r⟩
theorem r_bastore {pc' : Nat} {a : Addr} {k : ClassId} {z j x : Int32} {vs : List Value} {dv : Value} (i : Nat) (hd : decode B pc = .ok (.bastore, 1)) (hp : pc + 1 = pc') (A : Arv Z h a k .byte z vs dv) (hj : ¬ j < 0 ∧ j < z) (hi : j.toNatClampNeg = i) (hlen : i < vs.length) (ge : n0 ≤ a) (S : Sf w Z h My a) 
    (K : ∀ h' : Heap, Wr h h' a i (.int (nar .byte x)) → Arv Z h' a k .byte z (vs.set i (.int (nar .byte x))) dv → Run w l Z EL n0 own nm B ret R Q Ny My h' cells slots pc' ls st) : Run w l Z EL n0 own nm B ret R Q Ny My h cells slots pc ls (.int x :: .int j :: .ref a :: st) := by
  intro p e s m args below meth c T locs vm hx hby hml hret hnm hlk hZ hown X eT N hH
  obtain ⟨cl, A1, q1, S1, N1, H1, G1⟩ := id A
  obtain ⟨T', h', X', e', W', stp⟩ := stB X hx hZ eT A1 (inb_of S1 hj) (g := mkF m pc ls (.int x :: .int j :: .ref a :: st)) rfl rfl (hb hby hd)
  obtain ⟨t, o, hs, r⟩ := K h' (hi ▸ W') (Arv.set A1 q1 S1 N1 H1 G1 (fits_nar_byte _) W' i hi hlen) p e s m args below meth c T' _ vm hx hby hml hret hnm hlk hZ hown X' e' (Fr.snoc X' N ge) (hH.keep hZ (Keep.of_wr W') (allS ⟨ge, S⟩ all0))
  exact ⟨t, o, stp t (by subst hp; exact hs), r⟩
theorem r_sastore {pc' : Nat} {a : Addr} {k : ClassId} {z j x : Int32} {vs : List Value} {dv : Value} (i : Nat) (hd : decode B pc = .ok (.sastore, 1)) (hp : pc + 1 = pc') (A : Arv Z h a k .short z vs dv) (hj : ¬ j < 0 ∧ j < z) (hi : j.toNatClampNeg = i) (hlen : i < vs.length) (ge : n0 ≤ a) 
    (K : ∀ h' : Heap, Wr h h' a i (.int (nar .short x)) → Arv Z h' a k .short z (vs.set i (.int (nar .short x))) dv → Run w l Z EL n0 own nm B ret R Q Ny My h' cells slots pc' ls st) : Run w l Z EL n0 own nm B ret R Q Ny My h cells slots pc ls (.int x :: .int j :: .ref a :: st) := by
  intro p e s m args below meth c T locs vm hx hby hml hret hnm hlk hZ hown X eT N hH
  obtain ⟨cl, A1, q1, S1, N1, H1, G1⟩ := id A
  obtain ⟨T', h', X', e', W', stp⟩ := stS X hx hZ eT A1 (inb_of S1 hj) (g := mkF m pc ls (.int x :: .int j :: .ref a :: st)) rfl rfl (hb hby hd)
  have S : Sf w Z h My a := Sf.arv A (by decide)
  obtain ⟨t, o, hs, r⟩ := K h' (hi ▸ W') (Arv.set A1 q1 S1 N1 H1 G1 (fits_nar_short _) W' i hi hlen) p e s m args below meth c T' _ vm hx hby hml hret hnm hlk hZ hown X' e' (Fr.snoc X' N ge) (hH.keep hZ (Keep.of_wr W') (allS ⟨ge, S⟩ all0))
  exact ⟨t, o, stp t (by subst hp; exact hs), r⟩
theorem r_bastoreZ {pc' : Nat} {a : Addr} {k : ClassId} {z j x : Int32} {vs : List Value} {dv : Value} (i : Nat) (hd : decode B pc = .ok (.bastore, 1)) (hp : pc + 1 = pc') (A : Arv Z h a k .boolean z vs dv) (hj : ¬ j < 0 ∧ j < z) (hi : j.toNatClampNeg = i) (hlen : i < vs.length) (ge : n0 ≤ a) 
    (K : ∀ h' : Heap, Wr h h' a i (.int (nar .boolean x)) → Arv Z h' a k .boolean z (vs.set i (.int (nar .boolean x))) dv → Run w l Z EL n0 own nm B ret R Q Ny My h' cells slots pc' ls st) : Run w l Z EL n0 own nm B ret R Q Ny My h cells slots pc ls (.int x :: .int j :: .ref a :: st) := by
  intro p e s m args below meth c T locs vm hx hby hml hret hnm hlk hZ hown X eT N hH
  obtain ⟨cl, A1, q1, S1, N1, H1, G1⟩ := id A
  obtain ⟨T', h', X', e', W', stp⟩ := stZ X hx hZ eT A1 (inb_of S1 hj) (g := mkF m pc ls (.int x :: .int j :: .ref a :: st)) rfl rfl (hb hby hd)
  have S : Sf w Z h My a := Sf.arv A (by decide)
  obtain ⟨t, o, hs, r⟩ := K h' (hi ▸ W') (Arv.set A1 q1 S1 N1 H1 G1 (fits_nar_bool _) W' i hi hlen) p e s m args below meth c T' _ vm hx hby hml hret hnm hlk hZ hown X' e' (Fr.snoc X' N ge) (hH.keep hZ (Keep.of_wr W') (allS ⟨ge, S⟩ all0))
  exact ⟨t, o, stp t (by subst hp; exact hs), r⟩
theorem r_iastore {pc' : Nat} {a : Addr} {k : ClassId} {z j x : Int32} {vs : List Value} {dv : Value} (i : Nat) (hd : decode B pc = .ok (.iastore, 1)) (hp : pc + 1 = pc') (A : Arv Z h a k .int z vs dv) (hj : ¬ j < 0 ∧ j < z) (hi : j.toNatClampNeg = i) (hlen : i < vs.length) (ge : n0 ≤ a) 
    (K : ∀ h' : Heap, Wr h h' a i (.int x) → Arv Z h' a k .int z (vs.set i (.int x)) dv → Run w l Z EL n0 own nm B ret R Q Ny My h' cells slots pc' ls st) : Run w l Z EL n0 own nm B ret R Q Ny My h cells slots pc ls (.int x :: .int j :: .ref a :: st) := by
  intro p e s m args below meth c T locs vm hx hby hml hret hnm hlk hZ hown X eT N hH
  obtain ⟨cl, A1, q1, S1, N1, H1, G1⟩ := id A
  obtain ⟨T', h', X', e', W', stp⟩ := stI X hx hZ eT A1 (inb_of S1 hj) (g := mkF m pc ls (.int x :: .int j :: .ref a :: st)) rfl rfl (hb hby hd)
  have S : Sf w Z h My a := Sf.arv A (by decide)
  obtain ⟨t, o, hs, r⟩ := K h' (hi ▸ W') (Arv.set A1 q1 S1 N1 H1 G1 (rfl) W' i hi hlen) p e s m args below meth c T' _ vm hx hby hml hret hnm hlk hZ hown X' e' (Fr.snoc X' N ge) (hH.keep hZ (Keep.of_wr W') (allS ⟨ge, S⟩ all0))
  exact ⟨t, o, stp t (by subst hp; exact hs), r⟩
theorem r_aastore {pc' : Nat} {a : Addr} {k : ClassId} {ty : FieldType} {z j : Int32} {vs : List Value} {dv v : Value} (i : Nat) (hd : decode B pc = .ok (.aastore, 1)) (hp : pc + 1 = pc') (A : Arv Z h a k ty z vs dv) (hty : ty.isReference = true) (hj : ¬ j < 0 ∧ j < z) (hi : j.toNatClampNeg = i) (hlen : i < vs.length) (F : Sto Z h a v) (hv : fits ty v = true) (ge : n0 ≤ a)
    (K : ∀ h' : Heap, Wr h h' a i v → Arv Z h' a k ty z (vs.set i v) dv → Run w l Z EL n0 own nm B ret R Q Ny My h' cells slots pc' ls st) : Run w l Z EL n0 own nm B ret R Q Ny My h cells slots pc ls (v :: .int j :: .ref a :: st) := by
  intro p e s m args below meth c T locs vm hx hby hml hret hnm hlk hZ hown X eT N hH
  obtain ⟨cl, A1, q1, S1, N1, H1, G1⟩ := id A
  obtain ⟨T', h', X', e', W', stp⟩ := stR X hx hZ eT A1 (inb_of S1 hj) hty F (g := mkF m pc ls (v :: .int j :: .ref a :: st)) rfl rfl (hb hby hd)
  have S : Sf w Z h My a := Sf.arv A (fun q => by rw [q] at hty; cases hty)
  obtain ⟨t, o, hs, r⟩ := K h' (hi ▸ W') (Arv.set A1 q1 S1 N1 H1 G1 hv W' i hi hlen) p e s m args below meth c T' _ vm hx hby hml hret hnm hlk hZ hown X' e' (Fr.snoc X' N ge) (hH.keep hZ (Keep.of_wr W') (allS ⟨ge, S⟩ all0))
  exact ⟨t, o, stp t (by subst hp; exact hs), r⟩
theorem r_arraycopy {pc' index : Nat} {a b : Addr} {k k' : ClassId} {ty ty' : FieldType} {z z' sp dp nn : Int32} {vs vd us : List Value} {dv dd : Value} {W : Nat} (hd : decode B pc = .ok (.invokestatic index, 3)) (hp : pc + 3 = pc')
    (w1 : (Jvm.Cond.methodLink own index Jvm.Stand.acN).before a0 Z = true) (w2 : (Jvm.Cond.native Jvm.Stand.acN).before a0 Z = true) (w3 : (Jvm.Cond.static Jvm.Stand.acN).before a0 Z = true) (w4 : (Jvm.Cond.initialized "java/lang/System").before a0 Z = true)
    (A : Arv Z h a k ty z vs dv) (B' : Arv Z h b k' ty' z' vd dd) (hty : (ty = ty' ∧ refKind ty = false) ∨ (refKind ty = true ∧ refKind ty' = true ∧ StoL Z h b us)) (h1 : ¬ sp < 0) (h2 : ¬ dp < 0) (h3 : ¬ nn < 0) (h4 : sp.toNatClampNeg + nn.toNatClampNeg ≤ z.toNatClampNeg) (h5 : dp.toNatClampNeg + nn.toNatClampNeg ≤ z'.toNatClampNeg)
    (hus : us = (List.range nn.toNatClampNeg).map fun i => vs.getD (sp.toNatClampNeg + i) dv) (hlv : dp.toNatClampNeg + nn.toNatClampNeg ≤ vd.length) (ge : n0 ≤ b) (S : Sf w Z h My b) (hf : 1 ≤ R.frames) (hW : (st.map fun v => v.category).sum ≤ W) (hlo : W + (nativeFrameWords "java/lang/System" "arraycopy" 5 + 11) ≤ R.locals)
    (K : ∀ h' : Heap, Keep h h' [b] → Arv Z h' b k' ty' z' (vd.take dp.toNatClampNeg ++ us ++ vd.drop (dp.toNatClampNeg + nn.toNatClampNeg)) dd → Run w l Z EL n0 own nm B ret R Q Ny My h' cells slots pc' ls st) : Run w l Z EL n0 own nm B ret R Q Ny My h cells slots pc ls (.int nn :: .int dp :: .ref b :: .int sp :: .ref a :: st) := by
  intro p e s m args below meth c T locs vm hx hby hml hret hnm hlk hZ hown X eT N hH
  obtain ⟨T', h', L', X', e', N', K', A', stp⟩ := cpA X hx hZ hown w1 w2 w3 w4 eT A B' hty h1 h2 h3 h4 h5 hus hlv N ge (g := mkF m pc ls (.int nn :: .int dp :: .ref b :: .int sp :: .ref a :: st)) rfl hml.symm rfl (hb hby hd) hf (W := W) (by show 2 * 0 + _ ≤ _; omega) hlo
  obtain ⟨t, o, hs, r⟩ := K h' K' A' p e s m args below meth c T' L' vm hx hby hml hret hnm hlk hZ hown X' e' N' (hH.keep hZ K' (allS ⟨ge, S⟩ all0))
  exact ⟨t, o, stp t (by subst hp; exact hs), r⟩
/-- the end of a walk -/
theorem Run.leave {v : Option Value} (hv : ret = none → v = none) (hQ : Q v h) (hS : ∀ x ∈ Ny v, x ∈ My) (hc : cells ≤ R.cells) (hl : slots ≤ R.slots)
    (H : ∀ (p : Program) (e : Env) (s : State) (m : MethodId) (args : Array Value) (below : List Frame) (meth : Method) (c : Code) (T : State) (locs : List Loc) (fs : List Frame), p.tables.exec = Jvm.exec → c.code = B → meth.sig.returnType = ret → Stand p l e R s m args below meth c T locs cells slots →
      (∀ (f : JFrame) (acts : List Action), f.method = m → f.locked = none → f.entered = [] → (doReturn e (T.setTop f) acts v).1 = T.setFrames fs) → Steps p.tables e below (T.setTop (mkF m pc ls st)) (T.setFrames fs)) : Run w l Z EL n0 own nm B ret R Q Ny My h cells slots pc ls st := by
  intro p e s m args below meth c T locs vm hx hby hml hret hnm hlk hZ hown X eT N hH
  cases w with
  | false =>
    obtain rfl := hH.2.1 rfl
    obtain ⟨fs, hr, hrun, hended, hW, hsame⟩ := X.leave (v := v) (fun q => hv (hret ▸ q)) hlk
    exact ⟨_, _, H p e _ m args below meth c T locs fs hx hby hret X hr, hrun, hended, v, locs, rfl, (by show Q v T.heap; rw [eT]; exact hQ), N, fun _ => ⟨⟨v, rfl⟩, hW, hsame.mono hc hl⟩, fun q => (by cases q)⟩
  | true =>
    obtain ⟨hEW0, ⟨k0, hS0, hk0⟩, hC, hMy⟩ := hH.2.2 rfl
    obtain ⟨fs, hr, hrun, hended, hE⟩ := X.leaveW hS0 (by rw [eT]; exact hk0) (v := v) (fun q => hv (hret ▸ q)) hlk
    have hZT : Z.Warmed39 T.vm := wtrans (s := s.setVm vm) hZ X.warmed
    have hA : CHr Z EL vm h T.vm h := by obtain ⟨a1, hEW⟩ := hEW0; exact CHv.at X hZ hEW hC.1
    exact ⟨_, _, H p e _ m args below meth c T locs fs hx hby hret X hr, hrun, hended, v, locs, rfl, (by show Q v T.heap; rw [eT]; exact hQ), N, fun q => (by cases q), fun _ => ⟨⟨hE.1, hE.2.1, hE.2.2.1, hE.2.2.2.mono hc hl⟩, by
      show CHr Z EL s.vm s.heap T.vm T.heap
      rw [eT]; exact hC.trans hA, fun x hx => by
      show x < T.heap.size ∧ Safe Z EL T.vm T.heap x
      rw [eT]
      exact ⟨(hMy x (hS x hx)).1, hA.safe (hMy x (hS x hx)).1 (hMy x (hS x hx)).2⟩⟩⟩
theorem r_ireturn {z : Int32} (hd : decode B pc = .ok (.ireturn, 1)) (hret : ret = some .int) (hQ : Q (some (.int z)) h) (hS : ∀ x ∈ Ny (some (.int z)), x ∈ My) (hc : cells ≤ R.cells) (hl : slots ≤ R.slots) : Run w l Z EL n0 own nm B ret R Q Ny My h cells slots pc ls (.int z :: st) :=
  Run.leave (v := some (.int z)) (fun q => by rw [hret] at q; cases q) hQ hS hc hl fun p e s m args below meth c T locs fs hx hby hr X hl => retOut X hx (hr.trans hret) rfl (Or.inl ⟨rfl, Or.inl rfl, z, rfl⟩) (hb hby hd) hl
theorem r_ireturnN {z : Int32} {t : FieldType} (hd : decode B pc = .ok (.ireturn, 1)) (hret : ret = some t) (ht : t = .boolean ∨ t = .byte ∨ t = .char ∨ t = .short) (hQ : Q (some (.int (nar t z))) h) (hS : ∀ x ∈ Ny (some (.int (nar t z))), x ∈ My) (hc : cells ≤ R.cells) (hl : slots ≤ R.slots) : Run w l Z EL n0 own nm B ret R Q Ny My h cells slots pc ls (.int z :: st) :=
  Run.leave (v := some (.int (nar t z))) (fun q => by rw [hret] at q; cases q) hQ hS hc hl fun p e s m args below meth c T locs fs hx hby hr X hl => retN X hx (hr.trans hret) ht (hb hby hd) hl
theorem r_lreturn {z : Int64} (hd : decode B pc = .ok (.lreturn, 1)) (hret : ret = some .long) (hQ : Q (some (.long z)) h) (hS : ∀ x ∈ Ny (some (.long z)), x ∈ My) (hc : cells ≤ R.cells) (hl : slots ≤ R.slots) : Run w l Z EL n0 own nm B ret R Q Ny My h cells slots pc ls (.long z :: st) :=
  Run.leave (v := some (.long z)) (fun q => by rw [hret] at q; cases q) hQ hS hc hl fun p e s m args below meth c T locs fs hx hby hr X hl => retOut X hx (hr.trans hret) rfl (Or.inr (Or.inl ⟨rfl, rfl, z, rfl⟩)) (hb hby hd) hl
theorem r_areturn {v : Value} {t : FieldType} (hd : decode B pc = .ok (.areturn, 1)) (hret : ret = some t) (ht : t.isReference = true) (hv : v.isRef = true) (hn : narrow t v = v) (hQ : Q (some v) h) (hS : ∀ x ∈ Ny (some v), x ∈ My) (hc : cells ≤ R.cells) (hl : slots ≤ R.slots) : Run w l Z EL n0 own nm B ret R Q Ny My h cells slots pc ls (v :: st) :=
  Run.leave (v := some v) (fun q => by rw [hret] at q; cases q) hQ hS hc hl fun p e s m args below meth c T locs fs hx hby hr X hl => retOut X hx (hr.trans hret) hn (Or.inr (Or.inr (Or.inr (Or.inr ⟨rfl, ht, hv⟩)))) (hb hby hd) hl
theorem r_return (hd : decode B pc = .ok (.return_, 1)) (hret : ret = none) (hQ : Q none h) (hS : ∀ x ∈ Ny none, x ∈ My) (hc : cells ≤ R.cells) (hl : slots ≤ R.slots) : Run w l Z EL n0 own nm B ret R Q Ny My h cells slots pc ls [] :=
  Run.leave (v := none) (fun _ => rfl) hQ hS hc hl fun p e s m args below meth c T locs fs hx hby hr X hl => X.returnOut hx (hr.trans hret) (hb hby hd) hl
end Rules
/-- who pays a call, tables not widened -/
def Pays (l : Launch) (Z : State) (n0 : Nat) (R : Room) (y : MethodName) (len W : Nat) (as : Array Value) (h : Heap) (kc ks : Nat) (Q : Option Value → Heap → Prop) : Prop :=
  Old Z n0 h → ∀ (p : Program) (e : Env) (below : List Frame) (s : State) (args : Array Value), Z.Warmed39 s.vm →
    Back l R p e below s args y len W (fun A a => a = as ∧ A.U.heap = h ∧ A.cells + kc ≤ R.cells ∧ A.slots + ks ≤ R.slots) (fun A _ v B => ∃ L, (Q v B.U.heap ∧ Fr n0 L) ∧ B.locs = A.locs ++ L ∧ B.cells = A.cells + kc ∧ B.slots = A.slots + ks)
/-- who pays a call that may intern -/
def PaysW (l : Launch) (Z : State) (EL : List (String × Nat)) (n0 : Nat) (My : List Addr) (R : Room) (y : MethodName) (len W : Nat) (as : Array Value) (h : Heap) (kc ks : Nat) (Q : Option Value → Heap → Prop) (Ny : Option Value → List Addr) : Prop :=
  Old Z n0 h → ∀ (p : Program) (e : Env) (below : List Frame) (s : State) (args : Array Value) (vm : Vm), Z.Warmed39 vm → (∃ a0, EW Z a0 EL) → CHv Z EL vm h → (∀ x ∈ My, x < h.size ∧ Safe Z EL vm h x) →
    BackS l R p e below (s.setVm vm) args y len W (fun A a => a = as ∧ A.U.heap = h ∧ A.cells + kc ≤ R.cells ∧ A.slots + ks ≤ R.slots) (fun A _ v B => ∃ L, (Q v B.U.heap ∧ Fr n0 L) ∧ B.locs = A.locs ++ L ∧ B.cells = A.cells + kc ∧ B.slots = A.slots + ks ∧ CHr Z EL vm h B.U.vm B.U.heap ∧ ∀ x ∈ Ny v, x < B.U.heap.size ∧ Safe Z EL B.U.vm B.U.heap x)
section Calls
variable {w : Bool} {l : Launch} {Z : State} {EL : List (String × Nat)} {n0 : Nat} {own nm : String} {B : ByteArray} {ret : Option FieldType} {R : Room} {Q : Option Value → Heap → Prop} {Ny : Option Value → List Addr} {My : List Addr} {h : Heap} {cells slots pc : Nat} {ls : Array Slot} {st : List Value} {a0 : Array Value}
theorem Ok.pays {y : MethodName} {bytes : ByteArray} {maxL : Nat} {rt : Option FieldType} {rm : Room} {as : Array Value} {Qc : Option Value → Heap → Prop} {Nc : Option Value → List Addr} {len W : Nat} (O : Ok false l Z EL n0 My y bytes maxL rt rm as h Qc Nc) (wc : (Jvm.Cond.code y bytes maxL rt).before a0 Z = true) (wz : (Jvm.Cond.initialized y.cls).before a0 Z = true) (hf : rm.frames + 1 ≤ R.frames) (hl : W + (maxL + 11) + rm.locals ≤ R.locals) :
    Pays l Z n0 R y len W as h rm.cells rm.slots Qc := fun hO p e below s args hZ => by
  have hM : MetFree l y (head1 [Jvm.Cond.code y bytes maxL rt] rm) (fun a U => a = as ∧ Z.Warmed39 U.vm ∧ U.heap = h) (fun _ _ _ _ _ => True) (fun _ U o U' => ∃ v L, o = .returned v ∧ (Qc v U'.heap ∧ Fr n0 L) ∧ FrameEnd U o U' L rm.cells rm.slots) := by
    intro p e ha hc hk s m args below hf happ hP hK
    obtain ⟨n, o, h1, h2, h3, v, L, h4, h5, h6, h7, -⟩ := O [] p e ha hc hk s m args below hf happ ⟨hP.1, hP.2.1, hP.2.2, hO, fun q => by cases q⟩ hK
    exact ⟨n, o, h1, h2, h3, v, L, h4, ⟨h5, h6⟩, h7 rfl⟩
  exact backOf (Q := fun v h' L => Qc v h' ∧ Fr n0 L) hM hZ wc wz hf hl
theorem Ok.paysW {y : MethodName} {bytes : ByteArray} {maxL : Nat} {rt : Option FieldType} {rm : Room} {as : Array Value} {Qc : Option Value → Heap → Prop} {Nc : Option Value → List Addr} {len W : Nat} (O : Ok true l Z EL n0 My y bytes maxL rt rm as h Qc Nc) (wc : (Jvm.Cond.code y bytes maxL rt).before a0 Z = true) (wz : (Jvm.Cond.initialized y.cls).before a0 Z = true) (hf : rm.frames + 1 ≤ R.frames) (hl : W + (maxL + 11) + rm.locals ≤ R.locals) :
    PaysW l Z EL n0 My R y len W as h rm.cells rm.slots Qc Nc := fun hO p e below s args vm0 hZ hEL H hMy => by
  obtain ⟨a1, hEW⟩ := id hEL
  exact BackS.of_freeW (bytes := bytes) (maxL := maxL) (ret := rt) (E := fun _ first o t L k n => k = rm.cells ∧ n = rm.slots ∧ (∃ v, o = .returned v ∧ (Qc v t.heap ∧ Fr n0 L) ∧ ∀ x ∈ Nc v, x < t.heap.size ∧ Safe Z EL t.vm t.heap x) ∧ CHr Z EL first.vm first.heap t.vm t.heap) (O []) hf hl
    (fun m meth c A a Y hp => have hU : Z.Warmed39 A.U.vm := wtrans (s := s.setVm vm0) hZ Y.warmed
      ⟨by show (Cond.and _ .tt).before a A.U = true; rw [Cond.before_and, mv hU wc]; rfl, mv hU wc, mv hU wz, hp.2.2.1, hp.2.2.2⟩)
    (fun m meth c A a g mk Y hp => ⟨hp.1, wtrans (s := s.setVm vm0) hZ Y.warmed, hp.2.1, hO, fun _ => ⟨hEL, (CHv.at Y hZ hEW H).1, fun x hx => ⟨(hMy x hx).1, (CHv.at Y hZ hEW H).safe (hMy x hx).1 (hMy x hx).2⟩⟩⟩) (fun _ _ _ _ _ _ _ _ _ => trivial)
    (fun _ _ _ _ ⟨v, L, h1, h2, h3, h4⟩ => ⟨L, _, _, (h4.2 rfl).1, rfl, rfl, ⟨v, h1, ⟨h2, h3⟩, (h4.2 rfl).2.2⟩, (h4.2 rfl).2.1⟩)
    (fun m meth c A a g mk v t L k n Y hp _ _ ⟨e1, e2, ⟨v', e3, e4, e4'⟩, e5⟩ => by
      cases e3; subst e1 e2
      refine ⟨L, e4, rfl, rfl, rfl, (CHv.at Y hZ hEW H).trans ?_, e4'⟩
      rw [← hp.2.1]; exact e5)
/-- a call, narrow -/
theorem Run.call {pc' len W kc ks : Nat} {y : MethodName} {as : Array Value} {Qc : Option Value → Heap → Prop} {rest : List Value} {wl : List Addr} (hp : pc + len = pc')
    (H : ∀ (p : Program) (e : Env) (s : State) (m : MethodId) (args : Array Value) (below : List Frame) (meth : Method) (c : Code) (T : State) (locs : List Loc), p.tables.exec = Jvm.exec → c.code = B → c.maxLocals = ls.size → Z.Warmed39 s.vm → s.vm.findClass own = some m.cls → Stand p l e R s m args below meth c T locs cells slots → T.heap = h →
      ∀ (Pre : Pt → Array Value → Prop) (Post : Pt → Array Value → Option Value → Pt → Prop), Back l R p e below s args y len W Pre Post → (∀ vm₁, s.WarmedH vm₁ → Pre ⟨T.setVm vm₁, locs, cells, slots⟩ as) →
        ∃ (v : Option Value) (vm₁ : Vm) (B' : Pt), s.WarmedH vm₁ ∧ Stand p l e R s m args below meth c B'.U B'.locs B'.cells B'.slots ∧ Post ⟨T.setVm vm₁, locs, cells, slots⟩ as v B' ∧ Steps p.tables e below (T.setTop (mkF m pc ls st)) (B'.U.setTop (mkF m (pc + len) ls (v.toList ++ rest))))
    (P : Pays l Z n0 R y len W as h kc ks Qc) (hk : ∀ v h', Qc v h' → Keep h h' wl) (hs : ∀ x ∈ wl, n0 ≤ x ∧ Sf w Z h My x) (hc : cells + kc ≤ R.cells) (hl : slots + ks ≤ R.slots)
    (K : ∀ v h', Qc v h' → Run w l Z EL n0 own nm B ret R Q Ny My h' (cells + kc) (slots + ks) pc' ls (v.toList ++ rest)) : Run w l Z EL n0 own nm B ret R Q Ny My h cells slots pc ls st := by
  intro p e s m args below meth c T locs vm hx hby hml hret hnm hlk hZ hown X eT N hH
  obtain ⟨v, vm₁, ⟨U, L', c', n'⟩, -, X', ⟨L, ⟨hq, hF⟩, l1, l2, l3⟩, stp⟩ := H p e (s.setVm vm) m args below meth c T locs hx hby hml hZ hown X eT _ _ (P hH.1 p e below (s.setVm vm) args hZ) (fun vm₁ _ => ⟨rfl, eT, hc, hl⟩)
  dsimp only [Pt.U, Pt.locs, Pt.cells, Pt.slots] at X' l1 l2 l3 stp hq
  subst l1 l2 l3
  obtain ⟨t, o, hs', r⟩ := K v U.heap hq p e s m args below meth c U _ vm hx hby hml hret hnm hlk hZ hown X' rfl (Fr.app N hF) (hH.keep hZ (hk v _ hq) hs)
  exact ⟨t, o, stp.trans (by subst hp; exact hs'), r⟩
/-- a call that may intern, in a walk that may -/
theorem Run.callW {pc' len W kc ks : Nat} {y : MethodName} {as : Array Value} {Qc : Option Value → Heap → Prop} {Nc : Option Value → List Addr} {Mc : List Addr} {rest : List Value} {wl : List Addr} (hw : w = true) (hp : pc + len = pc')
    (H : ∀ (p : Program) (e : Env) (s : State) (m : MethodId) (args : Array Value) (below : List Frame) (meth : Method) (c : Code) (T : State) (locs : List Loc), p.tables.exec = Jvm.exec → c.code = B → c.maxLocals = ls.size → Z.Warmed39 s.vm → s.vm.findClass own = some m.cls → Stand p l e R s m args below meth c T locs cells slots → T.heap = h →
      ∀ (Pre : Pt → Array Value → Prop) (Post : Pt → Array Value → Option Value → Pt → Prop), BackS l R p e below s args y len W Pre Post → (∀ vm₁, s.WarmedH vm₁ → Pre ⟨T.setVm vm₁, locs, cells, slots⟩ as) →
        ∃ (v : Option Value) (vm₁ : Vm) (B' : Pt), s.WarmedH vm₁ ∧ Stand p l e R (s.setVm B'.U.vm) m args below meth c B'.U B'.locs B'.cells B'.slots ∧ s.Since B'.U.vm B'.U.heap.size ∧ T.heap.size ≤ B'.U.heap.size ∧ Post ⟨T.setVm vm₁, locs, cells, slots⟩ as v B' ∧ Steps p.tables e below (T.setTop (mkF m pc ls st)) (B'.U.setTop (mkF m (pc + len) ls (v.toList ++ rest))))
    (P : PaysW l Z EL n0 Mc R y len W as h kc ks Qc Nc) (hm : ∀ x ∈ Mc, x ∈ My) (hk : ∀ v h', Qc v h' → Keep h h' wl) (hs : ∀ x ∈ wl, n0 ≤ x) (hc : cells + kc ≤ R.cells) (hl : slots + ks ≤ R.slots)
    (K : ∀ v h', Qc v h' → Run w l Z EL n0 own nm B ret R Q Ny (Nc v ++ My) h' (cells + kc) (slots + ks) pc' ls (v.toList ++ rest)) : Run w l Z EL n0 own nm B ret R Q Ny My h cells slots pc ls st := by
  intro p e s m args below meth c T locs vm hx hby hml hret hnm hlk hZ hown X eT N hH
  obtain ⟨hEW, ⟨k0, hS0, hk0⟩, hC, hMy⟩ := hH.2.2 hw
  obtain ⟨v, vm₁, ⟨U, L', c', n'⟩, -, X', hS', hgr, ⟨L, ⟨hq, hF⟩, l1, l2, l3, hC', hN'⟩, stp⟩ := H p e (s.setVm vm) m args below meth c T locs hx hby hml hZ hown X eT _ _ (P hH.1 p e below s args vm hZ hEW hC.1 fun x hx => hMy x (hm x hx)) (fun vm₁ _ => ⟨rfl, eT, hc, hl⟩)
  dsimp only [Pt.U, Pt.locs, Pt.cells, Pt.slots] at X' l1 l2 l3 stp hq hS' hgr hC' hN'
  subst l1 l2 l3
  obtain ⟨X2, hS2, hZ2, hown2⟩ := rebS hS0 (Nat.le_trans hk0 (by rw [eT]; exact Nat.le_refl _) : k0 ≤ T.heap.size) X' hS' hgr hZ hown
  obtain ⟨t, o, hs', r⟩ := K v U.heap hq p e s m args below meth c U _ U.vm hx hby hml hret hnm hlk hZ2 hown2 X2 rfl (Fr.app N hF) ⟨hH.1.keep (hk v _ hq) hs, fun q => (by rw [hw] at q; cases q), fun _ => ⟨hEW, ⟨_, hS2, Nat.le_refl _⟩, hC.trans hC', fun x hx => by
    rcases List.mem_append.mp hx with hx | hx
    · exact hN' x hx
    · exact ⟨Nat.lt_of_lt_of_le (hMy x hx).1 (hk v _ hq).1, hC'.safe (hMy x hx).1 (hMy x hx).2⟩⟩⟩
  exact ⟨t, o, stp.trans (by subst hp; exact hs'), r⟩
theorem r_static {pc' index W kc ks : Nat} {y : MethodName} {argsL rest : List Value} {as : Array Value} {Qc : Option Value → Heap → Prop} {wl : List Addr} {bytes : ByteArray} {maxL : Nat} {rt : Option FieldType} (hd : decode B pc = .ok (.invokestatic index, 3)) (hp : pc + 3 = pc') (w1 : (Jvm.Cond.methodLink own index y).before a0 Z = true) (w2 : (Jvm.Cond.static y).before a0 Z = true) (w3 : (Jvm.Cond.initialized y.cls).before a0 Z = true) (w4 : (Jvm.Cond.code y bytes maxL rt).before a0 Z = true) (hy : y.cls ≠ "java/lang/invoke/MethodHandle" ∧ y.cls ≠ "java/lang/invoke/VarHandle") (hlen : ∀ sig, parseMethodDescriptor y.desc = some sig → argsL.length = sig.parameters.length) (hst : st = argsL.reverse ++ rest) (has : argsL.toArray = as) (hW : (rest.map fun v => v.category).sum ≤ W) (P : Pays l Z n0 R y 3 W as h kc ks Qc) (hk : ∀ v h', Qc v h' → Keep h h' wl) (hs : ∀ x ∈ wl, n0 ≤ x ∧ Sf w Z h My x) (hc : cells + kc ≤ R.cells) (hl : slots + ks ≤ R.slots)
    (K : ∀ v h', Qc v h' → Run w l Z EL n0 own nm B ret R Q Ny My h' (cells + kc) (slots + ks) pc' ls (v.toList ++ rest)) : Run w l Z EL n0 own nm B ret R Q Ny My h cells slots pc ls st :=
  Run.call (len := 3) (y := y) (as := as) hp (fun p e s m args below meth c T locs hx hby hml hZ hown X eT Pre Post hK hpre => by
    obtain ⟨v, vm₁, B', x1, x2, x3, st0⟩ := Jvm.LawKit.callS X hx hown (mvT hZ w1) (mvT hZ w2) (mvT hZ w3) (mvT hZ w4) hy hK (g := mkF m pc ls st) rfl hml.symm (argsL := argsL) (rest := rest) hlen hst (by show 2 * 0 + _ ≤ _; omega) (hb hby hd) (by rw [has]; exact hpre)
    exact ⟨v, vm₁, B', x1, x2, has ▸ x3, st0 _ (Steps.refl _)⟩) P hk hs hc hl K
theorem r_staticW {pc' index W kc ks : Nat} {y : MethodName} {argsL rest : List Value} {as : Array Value} {Qc : Option Value → Heap → Prop} {wl : List Addr} {Nc : Option Value → List Addr} {Mc : List Addr} (hw : w = true) {bytes : ByteArray} {maxL : Nat} {rt : Option FieldType} (hd : decode B pc = .ok (.invokestatic index, 3)) (hp : pc + 3 = pc') (w1 : (Jvm.Cond.methodLink own index y).before a0 Z = true) (w2 : (Jvm.Cond.static y).before a0 Z = true) (w3 : (Jvm.Cond.initialized y.cls).before a0 Z = true) (w4 : (Jvm.Cond.code y bytes maxL rt).before a0 Z = true) (hy : y.cls ≠ "java/lang/invoke/MethodHandle" ∧ y.cls ≠ "java/lang/invoke/VarHandle") (hlen : ∀ sig, parseMethodDescriptor y.desc = some sig → argsL.length = sig.parameters.length) (hst : st = argsL.reverse ++ rest) (has : argsL.toArray = as) (hW : (rest.map fun v => v.category).sum ≤ W) (P : PaysW l Z EL n0 Mc R y 3 W as h kc ks Qc Nc) (hm : ∀ x ∈ Mc, x ∈ My) (hk : ∀ v h', Qc v h' → Keep h h' wl) (hs : ∀ x ∈ wl, n0 ≤ x) (hc : cells + kc ≤ R.cells) (hl : slots + ks ≤ R.slots)
    (K : ∀ v h', Qc v h' → Run w l Z EL n0 own nm B ret R Q Ny (Nc v ++ My) h' (cells + kc) (slots + ks) pc' ls (v.toList ++ rest)) : Run w l Z EL n0 own nm B ret R Q Ny My h cells slots pc ls st :=
  Run.callW (len := 3) (y := y) (as := as) hw hp (fun p e s m args below meth c T locs hx hby hml hZ hown X eT Pre Post hK hpre => by
    obtain ⟨v, vm₁, B', x1, x2, x4, x5, x3, st0⟩ := callSS X hx hown (mvT hZ w1) (mvT hZ w2) (mvT hZ w3) (mvT hZ w4) hy hK (g := mkF m pc ls st) rfl hml.symm (argsL := argsL) (rest := rest) hlen hst (by show 2 * 0 + _ ≤ _; omega) (hb hby hd) (by rw [has]; exact hpre)
    exact ⟨v, vm₁, B', x1, x2, x4, x5, has ▸ x3, st0⟩) P hm hk hs hc hl K
theorem r_special {pc' index W kc ks : Nat} {y : MethodName} {argsL rest : List Value} {as : Array Value} {Qc : Option Value → Heap → Prop} {wl : List Addr} {bytes : ByteArray} {maxL : Nat} {a : Addr} (hd : decode B pc = .ok (.invokespecial index, 3)) (hp : pc + 3 = pc') (hi : y.name = "<init>") (w1 : (Jvm.Cond.methodLink own index y).before a0 Z = true) (w2 : (Jvm.Cond.instanceMethod y).before a0 Z = true) (w4 : (Jvm.Cond.code y bytes maxL none).before a0 Z = true) (hy : y.cls ≠ "java/lang/invoke/MethodHandle" ∧ y.cls ≠ "java/lang/invoke/VarHandle") (hlen : ∀ sig, parseMethodDescriptor y.desc = some sig → argsL.length = sig.parameters.length) (hst : st = argsL.reverse ++ .ref a :: rest) (has : (Value.ref a :: argsL).toArray = as) (hW : (rest.map fun v => v.category).sum ≤ W) (P : Pays l Z n0 R y 3 W as h kc ks Qc) (hk : ∀ v h', Qc v h' → Keep h h' wl) (hs : ∀ x ∈ wl, n0 ≤ x ∧ Sf w Z h My x) (hc : cells + kc ≤ R.cells) (hl : slots + ks ≤ R.slots)
    (K : ∀ v h', Qc v h' → Run w l Z EL n0 own nm B ret R Q Ny My h' (cells + kc) (slots + ks) pc' ls (v.toList ++ rest)) : Run w l Z EL n0 own nm B ret R Q Ny My h cells slots pc ls st :=
  Run.call (len := 3) (y := y) (as := as) hp (fun p e s m args below meth c T locs hx hby hml hZ hown X eT Pre Post hK hpre => by
    obtain ⟨v, vm₁, B', x1, x2, x3, st0⟩ := X.specialBack hx hi hown (mvT hZ w1) (mvT hZ w2) (mvT hZ w4) hy hK (g := mkF m pc ls st) rfl hml.symm (Steps.refl _) (a := a) (argsL := argsL) (rest := rest) hlen hst (by show 2 * 0 + _ ≤ _; omega) (hb hby hd) (by rw [has]; exact hpre)
    exact ⟨v, vm₁, B', x1, x2, has ▸ x3, st0⟩) P hk hs hc hl K
theorem r_specialW {pc' index W kc ks : Nat} {y : MethodName} {argsL rest : List Value} {as : Array Value} {Qc : Option Value → Heap → Prop} {wl : List Addr} {Nc : Option Value → List Addr} {Mc : List Addr} (hw : w = true) {bytes : ByteArray} {maxL : Nat} {a : Addr} (hd : decode B pc = .ok (.invokespecial index, 3)) (hp : pc + 3 = pc') (hi : y.name = "<init>") (w1 : (Jvm.Cond.methodLink own index y).before a0 Z = true) (w2 : (Jvm.Cond.instanceMethod y).before a0 Z = true) (w4 : (Jvm.Cond.code y bytes maxL none).before a0 Z = true) (hy : y.cls ≠ "java/lang/invoke/MethodHandle" ∧ y.cls ≠ "java/lang/invoke/VarHandle") (hlen : ∀ sig, parseMethodDescriptor y.desc = some sig → argsL.length = sig.parameters.length) (hst : st = argsL.reverse ++ .ref a :: rest) (has : (Value.ref a :: argsL).toArray = as) (hW : (rest.map fun v => v.category).sum ≤ W) (P : PaysW l Z EL n0 Mc R y 3 W as h kc ks Qc Nc) (hm : ∀ x ∈ Mc, x ∈ My) (hk : ∀ v h', Qc v h' → Keep h h' wl) (hs : ∀ x ∈ wl, n0 ≤ x) (hc : cells + kc ≤ R.cells) (hl : slots + ks ≤ R.slots)
    (K : ∀ v h', Qc v h' → Run w l Z EL n0 own nm B ret R Q Ny (Nc v ++ My) h' (cells + kc) (slots + ks) pc' ls (v.toList ++ rest)) : Run w l Z EL n0 own nm B ret R Q Ny My h cells slots pc ls st :=
  Run.callW (len := 3) (y := y) (as := as) hw hp (fun p e s m args below meth c T locs hx hby hml hZ hown X eT Pre Post hK hpre => by
    obtain ⟨v, vm₁, B', x1, x2, x4, x5, x3, st0⟩ := X.specialBackS hx hi hown (mvT hZ w1) (mvT hZ w2) (mvT hZ w4) hy hK (g := mkF m pc ls st) rfl hml.symm (Steps.refl _) (a := a) (argsL := argsL) (rest := rest) hlen hst (by show 2 * 0 + _ ≤ _; omega) (hb hby hd) (by rw [has]; exact hpre)
    exact ⟨v, vm₁, B', x1, x2, x4, x5, has ▸ x3, st0⟩) P hm hk hs hc hl K
theorem r_virtual {pc' index W kc ks : Nat} {y : MethodName} {argsL rest : List Value} {as : Array Value} {Qc : Option Value → Heap → Prop} {wl : List Addr} {x0 : MethodName} {C : String} {a : Addr} (hd : decode B pc = .ok (.invokevirtual index, 3)) (hp : pc + 3 = pc') (w1 : (Jvm.Cond.methodLink own index x0).before a0 Z = true) (w2 : (Jvm.Cond.declares x0).before a0 Z = true) (w3 : (Jvm.Cond.selects C x0 y).before a0 Z = true) (w4 : (Jvm.Cond.instanceMethod y).before a0 Z = true) (hy : x0.cls ≠ "java/lang/invoke/MethodHandle" ∧ x0.cls ≠ "java/lang/invoke/VarHandle") (hn : x0 = y ∧ C = x0.cls) (E : Exa Z h a C) (hlen : ∀ sig, parseMethodDescriptor x0.desc = some sig → argsL.length = sig.parameters.length) (hst : st = argsL.reverse ++ .ref a :: rest) (has : (Value.ref a :: argsL).toArray = as) (hW : (rest.map fun v => v.category).sum ≤ W) (P : Pays l Z n0 R y 3 W as h kc ks Qc) (hk : ∀ v h', Qc v h' → Keep h h' wl) (hs : ∀ x ∈ wl, n0 ≤ x ∧ Sf w Z h My x) (hc : cells + kc ≤ R.cells) (hl : slots + ks ≤ R.slots)
    (K : ∀ v h', Qc v h' → Run w l Z EL n0 own nm B ret R Q Ny My h' (cells + kc) (slots + ks) pc' ls (v.toList ++ rest)) : Run w l Z EL n0 own nm B ret R Q Ny My h cells slots pc ls st :=
  Run.call (len := 3) (y := y) (as := as) hp (fun p e s m args below meth c T locs hx hby hml hZ hown X eT Pre Post hK hpre => by
    obtain ⟨cq34, kq34, q34a, q34b, q34c⟩ := isOf hZ eT E
    obtain ⟨v, vm₁, B', x1, x2, x3, st0⟩ := X.virtualBack hx (y := x0) (z := y) hown (mvT hZ w1) (mvT hZ w2) (notFace_of_selects (args := #[]) (by obtain ⟨q1, q2⟩ := hn; subst q1 q2; exact mvT hZ w3)) (mvT hZ w3) (mvT hZ w4) hy hK q34a q34c (g := mkF m pc ls st) rfl hml.symm (Steps.refl _) (argsL := argsL) (rest := rest) hlen hst (by show 2 * 0 + _ ≤ _; omega) (hb hby hd) (by rw [has]; exact hpre)
    exact ⟨v, vm₁, B', x1, x2, has ▸ x3, st0⟩) P hk hs hc hl K
theorem r_virtualW {pc' index W kc ks : Nat} {y : MethodName} {argsL rest : List Value} {as : Array Value} {Qc : Option Value → Heap → Prop} {wl : List Addr} {Nc : Option Value → List Addr} {Mc : List Addr} (hw : w = true) {x0 : MethodName} {C : String} {a : Addr} (hd : decode B pc = .ok (.invokevirtual index, 3)) (hp : pc + 3 = pc') (w1 : (Jvm.Cond.methodLink own index x0).before a0 Z = true) (w2 : (Jvm.Cond.declares x0).before a0 Z = true) (w3 : (Jvm.Cond.selects C x0 y).before a0 Z = true) (w4 : (Jvm.Cond.instanceMethod y).before a0 Z = true) (hy : x0.cls ≠ "java/lang/invoke/MethodHandle" ∧ x0.cls ≠ "java/lang/invoke/VarHandle") (hn : x0 = y ∧ C = x0.cls) (E : Exa Z h a C) (hlen : ∀ sig, parseMethodDescriptor x0.desc = some sig → argsL.length = sig.parameters.length) (hst : st = argsL.reverse ++ .ref a :: rest) (has : (Value.ref a :: argsL).toArray = as) (hW : (rest.map fun v => v.category).sum ≤ W) (P : PaysW l Z EL n0 Mc R y 3 W as h kc ks Qc Nc) (hm : ∀ x ∈ Mc, x ∈ My) (hk : ∀ v h', Qc v h' → Keep h h' wl) (hs : ∀ x ∈ wl, n0 ≤ x) (hc : cells + kc ≤ R.cells) (hl : slots + ks ≤ R.slots)
    (K : ∀ v h', Qc v h' → Run w l Z EL n0 own nm B ret R Q Ny (Nc v ++ My) h' (cells + kc) (slots + ks) pc' ls (v.toList ++ rest)) : Run w l Z EL n0 own nm B ret R Q Ny My h cells slots pc ls st :=
  Run.callW (len := 3) (y := y) (as := as) hw hp (fun p e s m args below meth c T locs hx hby hml hZ hown X eT Pre Post hK hpre => by
    obtain ⟨cq34, kq34, q34a, q34b, q34c⟩ := isOf hZ eT E
    obtain ⟨v, vm₁, B', x1, x2, x4, x5, x3, st0⟩ := X.virtualBackS hx (y := x0) (z := y) hown (mvT hZ w1) (mvT hZ w2) (notFace_of_selects (args := #[]) (by obtain ⟨q1, q2⟩ := hn; subst q1 q2; exact mvT hZ w3)) (mvT hZ w3) (mvT hZ w4) hy hK q34a q34c (g := mkF m pc ls st) rfl hml.symm (Steps.refl _) (argsL := argsL) (rest := rest) hlen hst (by show 2 * 0 + _ ≤ _; omega) (hb hby hd) (by rw [has]; exact hpre)
    exact ⟨v, vm₁, B', x1, x2, x4, x5, has ▸ x3, st0⟩) P hm hk hs hc hl K
theorem r_virtualU {pc' index W kc ks : Nat} {y : MethodName} {argsL rest : List Value} {as : Array Value} {Qc : Option Value → Heap → Prop} {wl : List Addr} {x0 : MethodName} {C : String} {a : Addr} {S0 : String} (hd : decode B pc = .ok (.invokevirtual index, 3)) (hp : pc + 3 = pc') (w1 : (Jvm.Cond.methodLink own index x0).before a0 Z = true) (w2 : (Jvm.Cond.declares x0).before a0 Z = true) (w3 : (Jvm.Cond.selects C x0 y).before a0 Z = true) (w4 : (Jvm.Cond.instanceMethod y).before a0 Z = true) (hy : x0.cls ≠ "java/lang/invoke/MethodHandle" ∧ x0.cls ≠ "java/lang/invoke/VarHandle") (hn : (Jvm.Cond.superclass x0.cls S0).before a0 Z = true) (E : Exa Z h a C) (hlen : ∀ sig, parseMethodDescriptor x0.desc = some sig → argsL.length = sig.parameters.length) (hst : st = argsL.reverse ++ .ref a :: rest) (has : (Value.ref a :: argsL).toArray = as) (hW : (rest.map fun v => v.category).sum ≤ W) (P : Pays l Z n0 R y 3 W as h kc ks Qc) (hk : ∀ v h', Qc v h' → Keep h h' wl) (hs : ∀ x ∈ wl, n0 ≤ x ∧ Sf w Z h My x) (hc : cells + kc ≤ R.cells) (hl : slots + ks ≤ R.slots)
    (K : ∀ v h', Qc v h' → Run w l Z EL n0 own nm B ret R Q Ny My h' (cells + kc) (slots + ks) pc' ls (v.toList ++ rest)) : Run w l Z EL n0 own nm B ret R Q Ny My h cells slots pc ls st :=
  Run.call (len := 3) (y := y) (as := as) hp (fun p e s m args below meth c T locs hx hby hml hZ hown X eT Pre Post hK hpre => by
    obtain ⟨cq34, kq34, q34a, q34b, q34c⟩ := isOf hZ eT E
    obtain ⟨v, vm₁, B', x1, x2, x3, st0⟩ := X.virtualBack hx (y := x0) (z := y) hown (mvT hZ w1) (mvT hZ w2) (nf_super (args := #[]) (mvT hZ hn)) (mvT hZ w3) (mvT hZ w4) hy hK q34a q34c (g := mkF m pc ls st) rfl hml.symm (Steps.refl _) (argsL := argsL) (rest := rest) hlen hst (by show 2 * 0 + _ ≤ _; omega) (hb hby hd) (by rw [has]; exact hpre)
    exact ⟨v, vm₁, B', x1, x2, has ▸ x3, st0⟩) P hk hs hc hl K
theorem r_virtualUW {pc' index W kc ks : Nat} {y : MethodName} {argsL rest : List Value} {as : Array Value} {Qc : Option Value → Heap → Prop} {wl : List Addr} {Nc : Option Value → List Addr} {Mc : List Addr} (hw : w = true) {x0 : MethodName} {C : String} {a : Addr} {S0 : String} (hd : decode B pc = .ok (.invokevirtual index, 3)) (hp : pc + 3 = pc') (w1 : (Jvm.Cond.methodLink own index x0).before a0 Z = true) (w2 : (Jvm.Cond.declares x0).before a0 Z = true) (w3 : (Jvm.Cond.selects C x0 y).before a0 Z = true) (w4 : (Jvm.Cond.instanceMethod y).before a0 Z = true) (hy : x0.cls ≠ "java/lang/invoke/MethodHandle" ∧ x0.cls ≠ "java/lang/invoke/VarHandle") (hn : (Jvm.Cond.superclass x0.cls S0).before a0 Z = true) (E : Exa Z h a C) (hlen : ∀ sig, parseMethodDescriptor x0.desc = some sig → argsL.length = sig.parameters.length) (hst : st = argsL.reverse ++ .ref a :: rest) (has : (Value.ref a :: argsL).toArray = as) (hW : (rest.map fun v => v.category).sum ≤ W) (P : PaysW l Z EL n0 Mc R y 3 W as h kc ks Qc Nc) (hm : ∀ x ∈ Mc, x ∈ My) (hk : ∀ v h', Qc v h' → Keep h h' wl) (hs : ∀ x ∈ wl, n0 ≤ x) (hc : cells + kc ≤ R.cells) (hl : slots + ks ≤ R.slots)
    (K : ∀ v h', Qc v h' → Run w l Z EL n0 own nm B ret R Q Ny (Nc v ++ My) h' (cells + kc) (slots + ks) pc' ls (v.toList ++ rest)) : Run w l Z EL n0 own nm B ret R Q Ny My h cells slots pc ls st :=
  Run.callW (len := 3) (y := y) (as := as) hw hp (fun p e s m args below meth c T locs hx hby hml hZ hown X eT Pre Post hK hpre => by
    obtain ⟨cq34, kq34, q34a, q34b, q34c⟩ := isOf hZ eT E
    obtain ⟨v, vm₁, B', x1, x2, x4, x5, x3, st0⟩ := X.virtualBackS hx (y := x0) (z := y) hown (mvT hZ w1) (mvT hZ w2) (nf_super (args := #[]) (mvT hZ hn)) (mvT hZ w3) (mvT hZ w4) hy hK q34a q34c (g := mkF m pc ls st) rfl hml.symm (Steps.refl _) (argsL := argsL) (rest := rest) hlen hst (by show 2 * 0 + _ ≤ _; omega) (hb hby hd) (by rw [has]; exact hpre)
    exact ⟨v, vm₁, B', x1, x2, x4, x5, has ▸ x3, st0⟩) P hm hk hs hc hl K
theorem r_virtualUp {pc' index W kc ks : Nat} {y : MethodName} {argsL rest : List Value} {as : Array Value} {Qc : Option Value → Heap → Prop} {wl : List Addr} {x0 : MethodName} {C owner : String} {a : Addr} (hd : decode B pc = .ok (.invokevirtual index, 3)) (hp : pc + 3 = pc') (w1 : (Jvm.Cond.methodLink own index x0).before a0 Z = true) (w5 : (Jvm.Cond.sameMethod x0.cls owner x0.name x0.desc).before a0 Z = true) (w2 : (Jvm.Cond.declares ⟨owner, x0.name, x0.desc⟩).before a0 Z = true) (hy : owner ≠ "java/lang/invoke/MethodHandle" ∧ owner ≠ "java/lang/invoke/VarHandle") (w3 : (Jvm.Cond.selects C x0 y).before a0 Z = true) (w4 : (Jvm.Cond.instanceMethod y).before a0 Z = true) (E : Exa Z h a C) (hlen : ∀ sig, parseMethodDescriptor x0.desc = some sig → argsL.length = sig.parameters.length) (hst : st = argsL.reverse ++ .ref a :: rest) (has : (Value.ref a :: argsL).toArray = as) (hW : (rest.map fun v => v.category).sum ≤ W) (P : Pays l Z n0 R y 3 W as h kc ks Qc) (hk : ∀ v h', Qc v h' → Keep h h' wl) (hs : ∀ x ∈ wl, n0 ≤ x ∧ Sf w Z h My x) (hc : cells + kc ≤ R.cells) (hl : slots + ks ≤ R.slots)
    (K : ∀ v h', Qc v h' → Run w l Z EL n0 own nm B ret R Q Ny My h' (cells + kc) (slots + ks) pc' ls (v.toList ++ rest)) : Run w l Z EL n0 own nm B ret R Q Ny My h cells slots pc ls st :=
  Run.call (len := 3) (y := y) (as := as) hp (fun p e s m args below meth c T locs hx hby hml hZ hown X eT Pre Post hK hpre => by
    obtain ⟨cq34, kq34, q34a, q34b, q34c⟩ := isOf hZ eT E
    obtain ⟨v, vm₁, B', x1, x2, x3, st0⟩ := X.virtualBackUp hx (x := x0) (y := y) hown (mvT hZ w1) (mvT hZ w5) (mvT hZ w2) hy (mvT hZ w3) (mvT hZ w4) hK q34a q34c (g := mkF m pc ls st) rfl hml.symm (Steps.refl _) (argsL := argsL) (rest := rest) hlen hst (by show 2 * 0 + _ ≤ _; omega) (hb hby hd) (by rw [has]; exact hpre)
    exact ⟨v, vm₁, B', x1, x2, has ▸ x3, st0⟩) P hk hs hc hl K
theorem r_virtualUpW {pc' index W kc ks : Nat} {y : MethodName} {argsL rest : List Value} {as : Array Value} {Qc : Option Value → Heap → Prop} {wl : List Addr} {Nc : Option Value → List Addr} {Mc : List Addr} (hw : w = true) {x0 : MethodName} {C owner : String} {a : Addr} (hd : decode B pc = .ok (.invokevirtual index, 3)) (hp : pc + 3 = pc') (w1 : (Jvm.Cond.methodLink own index x0).before a0 Z = true) (w5 : (Jvm.Cond.sameMethod x0.cls owner x0.name x0.desc).before a0 Z = true) (w2 : (Jvm.Cond.declares ⟨owner, x0.name, x0.desc⟩).before a0 Z = true) (hy : owner ≠ "java/lang/invoke/MethodHandle" ∧ owner ≠ "java/lang/invoke/VarHandle") (w3 : (Jvm.Cond.selects C x0 y).before a0 Z = true) (w4 : (Jvm.Cond.instanceMethod y).before a0 Z = true) (E : Exa Z h a C) (hlen : ∀ sig, parseMethodDescriptor x0.desc = some sig → argsL.length = sig.parameters.length) (hst : st = argsL.reverse ++ .ref a :: rest) (has : (Value.ref a :: argsL).toArray = as) (hW : (rest.map fun v => v.category).sum ≤ W) (P : PaysW l Z EL n0 Mc R y 3 W as h kc ks Qc Nc) (hm : ∀ x ∈ Mc, x ∈ My) (hk : ∀ v h', Qc v h' → Keep h h' wl) (hs : ∀ x ∈ wl, n0 ≤ x) (hc : cells + kc ≤ R.cells) (hl : slots + ks ≤ R.slots)
    (K : ∀ v h', Qc v h' → Run w l Z EL n0 own nm B ret R Q Ny (Nc v ++ My) h' (cells + kc) (slots + ks) pc' ls (v.toList ++ rest)) : Run w l Z EL n0 own nm B ret R Q Ny My h cells slots pc ls st :=
  Run.callW (len := 3) (y := y) (as := as) hw hp (fun p e s m args below meth c T locs hx hby hml hZ hown X eT Pre Post hK hpre => by
    obtain ⟨cq34, kq34, q34a, q34b, q34c⟩ := isOf hZ eT E
    obtain ⟨v, vm₁, B', x1, x2, x4, x5, x3, st0⟩ := X.virtualBackUpS hx (x := x0) (y := y) hown (mvT hZ w1) (mvT hZ w5) (mvT hZ w2) hy (mvT hZ w3) (mvT hZ w4) hK q34a q34c (g := mkF m pc ls st) rfl hml.symm (Steps.refl _) (argsL := argsL) (rest := rest) hlen hst (by show 2 * 0 + _ ≤ _; omega) (hb hby hd) (by rw [has]; exact hpre)
    exact ⟨v, vm₁, B', x1, x2, x4, x5, has ▸ x3, st0⟩) P hm hk hs hc hl K
theorem r_private {pc' index W kc ks : Nat} {y : MethodName} {argsL rest : List Value} {as : Array Value} {Qc : Option Value → Heap → Prop} {wl : List Addr} {bytes : ByteArray} {maxL : Nat} {rt : Option FieldType} {C : String} {a : Addr} (hd : decode B pc = .ok (.invokevirtual index, 3)) (hp : pc + 3 = pc') (w1 : (Jvm.Cond.methodLink own index y).before a0 Z = true) (w2 : (Jvm.Cond.instanceMethod y).before a0 Z = true) (w3 : (Jvm.Cond.selects y.cls y y).before a0 Z = true) (w5 : (Jvm.Cond.privateMethod y).before a0 Z = true) (w4 : (Jvm.Cond.code y bytes maxL rt).before a0 Z = true) (hy : y.cls ≠ "java/lang/invoke/MethodHandle" ∧ y.cls ≠ "java/lang/invoke/VarHandle") (E : Exa Z h a C) (hlen : ∀ sig, parseMethodDescriptor y.desc = some sig → argsL.length = sig.parameters.length) (hst : st = argsL.reverse ++ .ref a :: rest) (has : (Value.ref a :: argsL).toArray = as) (hW : (rest.map fun v => v.category).sum ≤ W) (P : Pays l Z n0 R y 3 W as h kc ks Qc) (hk : ∀ v h', Qc v h' → Keep h h' wl) (hs : ∀ x ∈ wl, n0 ≤ x ∧ Sf w Z h My x) (hc : cells + kc ≤ R.cells) (hl : slots + ks ≤ R.slots)
    (K : ∀ v h', Qc v h' → Run w l Z EL n0 own nm B ret R Q Ny My h' (cells + kc) (slots + ks) pc' ls (v.toList ++ rest)) : Run w l Z EL n0 own nm B ret R Q Ny My h cells slots pc ls st :=
  Run.call (len := 3) (y := y) (as := as) hp (fun p e s m args below meth c T locs hx hby hml hZ hown X eT Pre Post hK hpre => by
    obtain ⟨cel, ce1, ce2⟩ := E.cell
    obtain ⟨v, vm₁, B', x1, x2, x3, st0⟩ := X.privateBack hx hown (mvT hZ w1) (mvT hZ w2) (mvT hZ w3) (Cond.privateMethod_at (mvP (args := #[]) hZ w5)) (mvT hZ w4) hy hK (g := mkF m pc ls st) rfl hml.symm (Steps.refl _) (a := a) (cell := cel) (by rw [eT]; exact ce1) ce2 (argsL := argsL) (rest := rest) hlen hst (by show 2 * 0 + _ ≤ _; omega) (hb hby hd) (by rw [has]; exact hpre)
    exact ⟨v, vm₁, B', x1, x2, has ▸ x3, st0⟩) P hk hs hc hl K
theorem r_privateW {pc' index W kc ks : Nat} {y : MethodName} {argsL rest : List Value} {as : Array Value} {Qc : Option Value → Heap → Prop} {wl : List Addr} {Nc : Option Value → List Addr} {Mc : List Addr} (hw : w = true) {bytes : ByteArray} {maxL : Nat} {rt : Option FieldType} {C : String} {a : Addr} (hd : decode B pc = .ok (.invokevirtual index, 3)) (hp : pc + 3 = pc') (w1 : (Jvm.Cond.methodLink own index y).before a0 Z = true) (w2 : (Jvm.Cond.instanceMethod y).before a0 Z = true) (w3 : (Jvm.Cond.selects y.cls y y).before a0 Z = true) (w5 : (Jvm.Cond.privateMethod y).before a0 Z = true) (w4 : (Jvm.Cond.code y bytes maxL rt).before a0 Z = true) (hy : y.cls ≠ "java/lang/invoke/MethodHandle" ∧ y.cls ≠ "java/lang/invoke/VarHandle") (E : Exa Z h a C) (hlen : ∀ sig, parseMethodDescriptor y.desc = some sig → argsL.length = sig.parameters.length) (hst : st = argsL.reverse ++ .ref a :: rest) (has : (Value.ref a :: argsL).toArray = as) (hW : (rest.map fun v => v.category).sum ≤ W) (P : PaysW l Z EL n0 Mc R y 3 W as h kc ks Qc Nc) (hm : ∀ x ∈ Mc, x ∈ My) (hk : ∀ v h', Qc v h' → Keep h h' wl) (hs : ∀ x ∈ wl, n0 ≤ x) (hc : cells + kc ≤ R.cells) (hl : slots + ks ≤ R.slots)
    (K : ∀ v h', Qc v h' → Run w l Z EL n0 own nm B ret R Q Ny (Nc v ++ My) h' (cells + kc) (slots + ks) pc' ls (v.toList ++ rest)) : Run w l Z EL n0 own nm B ret R Q Ny My h cells slots pc ls st :=
  Run.callW (len := 3) (y := y) (as := as) hw hp (fun p e s m args below meth c T locs hx hby hml hZ hown X eT Pre Post hK hpre => by
    obtain ⟨cel, ce1, ce2⟩ := E.cell
    obtain ⟨v, vm₁, B', x1, x2, x4, x5, x3, st0⟩ := X.privateBackS hx hown (mvT hZ w1) (mvT hZ w2) (mvT hZ w3) (Cond.privateMethod_at (mvP (args := #[]) hZ w5)) (mvT hZ w4) hy hK (g := mkF m pc ls st) rfl hml.symm (Steps.refl _) (a := a) (cell := cel) (by rw [eT]; exact ce1) ce2 (argsL := argsL) (rest := rest) hlen hst (by show 2 * 0 + _ ≤ _; omega) (hb hby hd) (by rw [has]; exact hpre)
    exact ⟨v, vm₁, B', x1, x2, x4, x5, has ▸ x3, st0⟩) P hm hk hs hc hl K
theorem r_interface {pc' index W kc ks : Nat} {y : MethodName} {argsL rest : List Value} {as : Array Value} {Qc : Option Value → Heap → Prop} {wl : List Addr} {x0 : MethodName} {C : String} {a : Addr} {count : Nat} (hd : decode B pc = .ok (.invokeinterface index count, 5)) (hp : pc + 5 = pc') (w1 : (Jvm.Cond.methodLink own index x0).before a0 Z = true) (w2 : (Jvm.Cond.declares x0).before a0 Z = true) (w5 : (Jvm.Cond.interfaceMethod x0.cls x0.cls x0.name x0.desc).before a0 Z = true) (hd5 : ((Jvm.Cond.interfaceMethod x0.cls x0.cls x0.name x0.desc).onTables && (Jvm.Cond.interfaceMethod x0.cls x0.cls x0.name x0.desc).keepsFace) = true) (w3 : (Jvm.Cond.selects C x0 y).before a0 Z = true) (w4 : (Jvm.Cond.instanceMethod y).before a0 Z = true) (w6 : (Jvm.Cond.publicMethod y).before a0 Z = true) (w7 : (Jvm.Cond.unhidden C x0.name x0.desc).before a0 Z = true) (w8 : (Jvm.Cond.castable C x0.cls).before a0 Z = true) (hy : x0.cls ≠ "java/lang/invoke/MethodHandle" ∧ x0.cls ≠ "java/lang/invoke/VarHandle") (E : Exa Z h a C) (hlen : ∀ sig, parseMethodDescriptor x0.desc = some sig → argsL.length = sig.parameters.length) (hst : st = argsL.reverse ++ .ref a :: rest) (has : (Value.ref a :: argsL).toArray = as) (hW : (rest.map fun v => v.category).sum ≤ W) (P : Pays l Z n0 R y 5 W as h kc ks Qc) (hk : ∀ v h', Qc v h' → Keep h h' wl) (hs : ∀ x ∈ wl, n0 ≤ x ∧ Sf w Z h My x) (hc : cells + kc ≤ R.cells) (hl : slots + ks ≤ R.slots)
    (K : ∀ v h', Qc v h' → Run w l Z EL n0 own nm B ret R Q Ny My h' (cells + kc) (slots + ks) pc' ls (v.toList ++ rest)) : Run w l Z EL n0 own nm B ret R Q Ny My h cells slots pc ls st :=
  Run.call (len := 5) (y := y) (as := as) hp (fun p e s m args below meth c T locs hx hby hml hZ hown X eT Pre Post hK hpre => by
    obtain ⟨cq34, kq34, q34a, q34b, q34c⟩ := isOf hZ eT E
    obtain ⟨v, vm₁, B', x1, x2, x3, st0⟩ := X.interfaceBack hx (xi := x0) (y := y) hown (mvT hZ w1) (mvT hZ w2) (mvT hZ w5 hd5) (mvT hZ w3) (mvT hZ w4) (mvT hZ w6) (mvT hZ w7) (mvT hZ w8) hy hK q34a q34b q34c (g := mkF m pc ls st) rfl hml.symm (Steps.refl _) (argsL := argsL) (rest := rest) hlen hst (by show 2 * 0 + _ ≤ _; omega) (hb hby hd) (by rw [has]; exact hpre)
    exact ⟨v, vm₁, B', x1, x2, has ▸ x3, st0⟩) P hk hs hc hl K
theorem r_interfaceW {pc' index W kc ks : Nat} {y : MethodName} {argsL rest : List Value} {as : Array Value} {Qc : Option Value → Heap → Prop} {wl : List Addr} {Nc : Option Value → List Addr} {Mc : List Addr} (hw : w = true) {x0 : MethodName} {C : String} {a : Addr} {count : Nat} (hd : decode B pc = .ok (.invokeinterface index count, 5)) (hp : pc + 5 = pc') (w1 : (Jvm.Cond.methodLink own index x0).before a0 Z = true) (w2 : (Jvm.Cond.declares x0).before a0 Z = true) (w5 : (Jvm.Cond.interfaceMethod x0.cls x0.cls x0.name x0.desc).before a0 Z = true) (hd5 : ((Jvm.Cond.interfaceMethod x0.cls x0.cls x0.name x0.desc).onTables && (Jvm.Cond.interfaceMethod x0.cls x0.cls x0.name x0.desc).keepsFace) = true) (w3 : (Jvm.Cond.selects C x0 y).before a0 Z = true) (w4 : (Jvm.Cond.instanceMethod y).before a0 Z = true) (w6 : (Jvm.Cond.publicMethod y).before a0 Z = true) (w7 : (Jvm.Cond.unhidden C x0.name x0.desc).before a0 Z = true) (w8 : (Jvm.Cond.castable C x0.cls).before a0 Z = true) (hy : x0.cls ≠ "java/lang/invoke/MethodHandle" ∧ x0.cls ≠ "java/lang/invoke/VarHandle") (E : Exa Z h a C) (hlen : ∀ sig, parseMethodDescriptor x0.desc = some sig → argsL.length = sig.parameters.length) (hst : st = argsL.reverse ++ .ref a :: rest) (has : (Value.ref a :: argsL).toArray = as) (hW : (rest.map fun v => v.category).sum ≤ W) (P : PaysW l Z EL n0 Mc R y 5 W as h kc ks Qc Nc) (hm : ∀ x ∈ Mc, x ∈ My) (hk : ∀ v h', Qc v h' → Keep h h' wl) (hs : ∀ x ∈ wl, n0 ≤ x) (hc : cells + kc ≤ R.cells) (hl : slots + ks ≤ R.slots)
    (K : ∀ v h', Qc v h' → Run w l Z EL n0 own nm B ret R Q Ny (Nc v ++ My) h' (cells + kc) (slots + ks) pc' ls (v.toList ++ rest)) : Run w l Z EL n0 own nm B ret R Q Ny My h cells slots pc ls st :=
  Run.callW (len := 5) (y := y) (as := as) hw hp (fun p e s m args below meth c T locs hx hby hml hZ hown X eT Pre Post hK hpre => by
    obtain ⟨cq34, kq34, q34a, q34b, q34c⟩ := isOf hZ eT E
    obtain ⟨v, vm₁, B', x1, x2, x4, x5, x3, st0⟩ := X.interfaceBackS hx (xi := x0) (y := y) hown (mvT hZ w1) (mvT hZ w2) (mvT hZ w5 hd5) (mvT hZ w3) (mvT hZ w4) (mvT hZ w6) (mvT hZ w7) (mvT hZ w8) hy hK q34a q34b q34c (g := mkF m pc ls st) rfl hml.symm (Steps.refl _) (argsL := argsL) (rest := rest) hlen hst (by show 2 * 0 + _ ≤ _; omega) (hb hby hd) (by rw [has]; exact hpre)
    exact ⟨v, vm₁, B', x1, x2, x4, x5, has ▸ x3, st0⟩) P hm hk hs hc hl K
/-- ldc of a String constant that is held, read -/
theorem r_ldcS {pc' : Nat} {index : Nat} {text : String} {vs : List Value} {z : Int32} {n : Nat} (hw : w = true) (hd : decode B pc = .ok (.ldc index, 2)) (hp : pc + 2 = pc') (wl : (Jvm.Cond.stringLink own index text).before a0 Z = true) (wS : ∀ a ∈ Bundle.stringAtoms, a.before a0 Z = true) (hmem : (own, index) ∈ EL)
    (ht : (∀ c ∈ text.toList, c.toNat < 256) ∧ text.toList.map (fun c => Value.int (Jvm.Lit.byteI c.toNat.toUInt16)) = vs) (hz : ¬ z < 0) (hl : z.toNatClampNeg = vs.length) (hn : 4 * text.toList.length ≤ n) (hbig : n ≤ 536870912) (hc : cells + 2 ≤ R.cells) (hl' : slots + (n + 4) ≤ R.slots)
    (K : ∀ (h' : Heap) (a b : Addr) (k : ClassId), Ext h h' → Exa Z h' a "java/lang/String" → Fld Z h' a "java/lang/String" "coder" "B" (.int 0) → Fld Z h' a "java/lang/String" "value" "[B" (.ref b) → Arv Z h' b k .byte z vs (.int 0) → (∀ x ∈ My, x ≠ a ∧ x ≠ b) → Run w l Z EL n0 own nm B ret R Q Ny My h' (cells + 2) (slots + (n + 4)) pc' ls (.ref a :: st)) : Run w l Z EL n0 own nm B ret R Q Ny My h cells slots pc ls st := by
  intro p e s m args below meth c T locs vm hx hby hml hret hnm hlk hZ hown X eT N hH
  obtain ⟨hEW0, ⟨k0, hS0, hk0⟩, hC, hMy⟩ := hH.2.2 hw
  obtain ⟨a1, hEW⟩ := id hEW0
  have hEWa : EW Z a0 EL := fun q hq => by obtain ⟨t, h1, h2⟩ := hEW q hq; exact ⟨t, h1, h2⟩
  obtain ⟨a, T', h', k1, b, k, X', e', E', hS', hk', hZ', hown', A1, C1, V1, K1, la, lb, hC', -, hne, stp⟩ := ldcCH X hx hZ hown wl wS eT hS0 hk0 hEWa hmem hC.1 ht hz hl (g := mkF m pc ls st) rfl (hb hby hd) hn hbig hc hl'
  have hmy : ∀ x ∈ My, x < h'.size ∧ Safe Z EL T'.vm h' x := fun x hx => ⟨Nat.lt_of_lt_of_le (hMy x hx).1 E'.1, hC'.safe (hMy x hx).1 (hMy x hx).2⟩
  obtain ⟨t, o, hs, r⟩ := K h' a b k E' A1 C1 V1 K1 (fun x hx => hne x (hmy x hx).2) p e s m args below meth c T' locs T'.vm hx hby hml hret hnm hlk hZ' hown' X' e' N ⟨hH.1.ext E', fun q => (by rw [hw] at q; cases q), fun _ => ⟨hEW0, ⟨k1, hS', hk'⟩, hC.trans hC', hmy⟩⟩
  exact ⟨t, o, stp t (by subst hp; exact hs), r⟩
/-- from a walk to the contract -/
theorem Ok.of_run {y : MethodName} {bytes : ByteArray} {maxL : Nat} {rt : Option FieldType} {rm : Room} {as : Array Value} {Qc : Option Value → Heap → Prop} {Nc : Option Value → List Addr} {ls0 : Array Slot} (hy : plainFor y = true) (hef : ∀ m, entryFrame m as maxL = mkF m 0 ls0 []) (hsz : maxL = ls0.size)
    (r : Run w l Z EL n0 y.cls y.name bytes rt rm Qc Nc My h 0 0 0 ls0 []) : Ok w l Z EL n0 My y bytes maxL rt rm as h Qc Nc := by
  intro ws
  refine MetFree.of_bodySF hy hisR ?_
  intro p e s m args below meth c s₁ Bd hml0 hP hK
  obtain ⟨rfl, hZ, hh, hO, hw⟩ := hP
  have hml : c.maxLocals = maxL := hml0
  have hown : s.vm.findClass y.cls = some m.cls := findClass_of_methodNamed Bd.named
  have hnm := (name_of_methodNamed Bd.named Bd.method).1
  have X0 : Stand p l e rm s m args below meth c s₁ [] 0 0 := Stand.of_body Bd
  have e0 : s₁.heap = h := by rw [← hh, Bd.state]; rfl
  obtain ⟨t, o, hs, h1, h2, v, L, h3, h4, h5, h6⟩ := r p e s m args below meth c s₁ [] s.vm Bd.exec Bd.bytes (hml.trans hsz) Bd.returns hnm Bd.notSynchronized hZ hown X0 e0 (Fr.nil n0) ⟨hO, fun _ => rfl, fun q => by
    obtain ⟨a, b, c⟩ := hw q
    exact ⟨a, ⟨s.heap.size, (State.WarmedH.refl s).since _, by rw [hh]; exact Nat.le_refl _⟩, by rw [hh]; exact CHr.refl b, c⟩⟩
  exact ⟨t, o, castTop (hef m) hs, h1, h2, v, L, h3, h4, h5, h6⟩
end Calls
end Jvm.OwnKit
namespace Jvm.OwnKit
open Jvm Jvm.ClassFile Sem Op Lib Jvm.Free Jvm.Stand Jvm.LawKit Jvm.RoadKit Bundle
/-- the bytes of a Latin-1 text, as values -/
abbrev bv (cs : List Int32) : List Value := (cs.map (fun c => c.toInt8.toInt32)).map Value.int
/-- a compact String with these chars: its array is at t -/
def Str (Z : State) (h : Heap) (a t : Addr) (cs : List Int32) : Prop :=
  Exa Z h a "java/lang/String" ∧ Fld Z h a "java/lang/String" "coder" "B" (.int 0) ∧ Fld Z h a "java/lang/String" "value" "[B" (.ref t) ∧ (∃ kb, Arv Z h t kb .byte (Int32.ofNat cs.length) (bv cs) (.int 0)) ∧ (cs ≠ [] → Exa Z h t "[B")
/-- every char from 0 to 255 -/
def Lat (cs : List Int32) : Prop := ∀ c ∈ cs, ¬ c < 0 ∧ ¬ (255 : Int32) < c
/-- the object that is returned -/
def refs : Option Value → List Addr
  | some (.ref a) => [a]
  | _ => []
theorem ofNat_in {i n : Nat} (h : i < n) (hn : n < 2 ^ 31) : ¬ Int32.ofNat i < 0 ∧ Int32.ofNat i < Int32.ofNat n := by
  have e1 : (Int32.ofNat i).toInt = i := Int32.toInt_ofNat_of_lt (by omega)
  have e2 : (Int32.ofNat n).toInt = n := Int32.toInt_ofNat_of_lt (by omega)
  have e3 : (0 : Int32).toInt = 0 := rfl
  constructor
  · rw [Int32.lt_iff_toInt_lt, e1, e3]; omega
  · rw [Int32.lt_iff_toInt_lt, e1, e2]; omega
theorem ofNat_nlt {i n : Nat} (h : n ≤ i) (hi : i < 2 ^ 31) : ¬ Int32.ofNat i < Int32.ofNat n := by
  have e1 : (Int32.ofNat i).toInt = i := Int32.toInt_ofNat_of_lt (by omega)
  have e2 : (Int32.ofNat n).toInt = n := Int32.toInt_ofNat_of_lt (by omega)
  rw [Int32.lt_iff_toInt_lt, e1, e2]; omega
theorem ofNat_cl {i : Nat} (h : i < 2 ^ 31) : (Int32.ofNat i).toNatClampNeg = i := Int32.toNatClampNeg_ofNat_of_lt h
theorem getD_map (bs : List Int32) (i : Nat) : (bs.map Value.int).getD i (.int 0) = .int (bs.getD i 0) := by
  simp only [List.getD_eq_getElem?_getD, List.getElem?_map]
  cases bs[i]? <;> rfl
theorem ofNat_sub {i j : Nat} (h : j ≤ i) : Int32.ofNat i - Int32.ofNat j = Int32.ofNat (i - j) := by
  obtain ⟨k, rfl⟩ := Nat.exists_eq_add_of_le h
  rw [Nat.add_sub_cancel_left, Int32.ofNat_add, Int32.add_comm, Int32.add_sub_cancel]
theorem ofNat_add' (i j : Nat) : Int32.ofNat i + Int32.ofNat j = Int32.ofNat (i + j) := (Int32.ofNat_add i j).symm
theorem ofNat_inj' {i j : Nat} (hi : i < 2 ^ 31) (hj : j < 2 ^ 31) (h : Int32.ofNat i = Int32.ofNat j) : i = j := by
  have e1 := ofNat_cl hi
  have e2 := ofNat_cl hj
  rw [h] at e1; omega
/-- the first place of c, from i on; -1 if there is none -/
def idx (c : Int32) : List Int32 → Nat → Int32
  | [], _ => -1
  | b :: bs, i => if b = c then Int32.ofNat i else idx c bs (i + 1)
theorem idx_hit {c : Int32} {bs : List Int32} {i : Nat} (h : i < bs.length) (e : bs.getD i 0 = c) : idx c (bs.drop i) i = Int32.ofNat i := by
  rw [List.drop_eq_getElem_cons h, idx]
  rw [List.getD_eq_getElem?_getD, List.getElem?_eq_getElem h] at e
  exact if_pos e
theorem idx_miss {c : Int32} {bs : List Int32} {i : Nat} (h : i < bs.length) (e : ¬ bs.getD i 0 = c) : idx c (bs.drop i) i = idx c (bs.drop (i + 1)) (i + 1) := by
  rw [List.drop_eq_getElem_cons h, idx]
  rw [List.getD_eq_getElem?_getD, List.getElem?_eq_getElem h] at e
  exact if_neg e
/-- a Latin-1 char and its byte -/
theorem byte_inj {a b : Int32} (ha : ¬ a < 0 ∧ ¬ (255 : Int32) < a) (hb : ¬ b < 0 ∧ ¬ (255 : Int32) < b) (h : a.toInt8.toInt32 = b.toInt8.toInt32) : a = b := by
  have q1 := (c_i2b a).1
  have q2 := (c_i2b b).1
  rw [h] at q1
  have e0 : (0 : Int32).toInt = 0 := rfl
  have e1 : (255 : Int32).toInt = 255 := rfl
  simp only [Int32.lt_iff_toInt_lt, e0, e1] at ha hb
  exact Int32.toInt_inj.mp (by omega)
theorem ofNat_le_of {m i : Nat} (hm : i + 1 < 2 ^ 31) (h : ¬ Int32.ofNat m < Int32.ofNat (i + 1)) : i < m := Classical.byContradiction fun q => h (ofNat_in (by omega) hm).2
theorem mod5 (x : Int32) : ((x &&& (2147483647 : Int32)) % (5 : Int32)) = 0 ∨ ((x &&& (2147483647 : Int32)) % (5 : Int32)) = 1 ∨ ((x &&& (2147483647 : Int32)) % (5 : Int32)) = 2 ∨ ((x &&& (2147483647 : Int32)) % (5 : Int32)) = 3 ∨ ((x &&& (2147483647 : Int32)) % (5 : Int32)) = 4 := by
  have h1 := c_mask x 2147483647 31 (by decide) (by decide)
  have h2 := (c_irem (x &&& (2147483647 : Int32)) 5 5 (by decide)).1 (by rw [h1]; omega)
  simp only [← Int32.toInt_inj]
  have e0 : (0 : Int32).toInt = 0 := rfl
  have e1 : (1 : Int32).toInt = 1 := rfl
  have e2 : (2 : Int32).toInt = 2 := rfl
  have e3 : (3 : Int32).toInt = 3 := rfl
  have e4 : (4 : Int32).toInt = 4 := rfl
  rw [h1] at h2
  omega
theorem tw_get (p : Int32 → Bool) : ∀ (l : List Int32) (i : Nat), i < (l.takeWhile p).length → (l.takeWhile p).getD i 0 = l.getD i 0
  | [], i, h => by simp at h
  | c :: l, i, h => by
    by_cases q : p c = true
    · rw [List.takeWhile_cons_of_pos q] at h ⊢
      cases i with
      | zero => rfl
      | succ i => exact tw_get p l i (by simpa using h)
    · rw [List.takeWhile_cons_of_neg q] at h
      simp at h
theorem tw_len (p : Int32 → Bool) (l : List Int32) : (l.takeWhile p).length ≤ l.length := (List.takeWhile_prefix p).length_le
theorem tw_lat {l : List Int32} (p : Int32 → Bool) (h : Lat l) : Lat (l.takeWhile p) := fun c hc => h c ((List.takeWhile_prefix p).subset hc)
/-- one more than the last place of c below n; 0 if there is none -/
def lp (c : Int32) (bs : List Int32) : Nat → Nat
  | 0 => 0
  | i + 1 => if bs.getD i 0 = c then i + 1 else lp c bs i
theorem lp_le (c : Int32) (bs : List Int32) : ∀ n, lp c bs n ≤ n
  | 0 => Nat.le_refl _
  | i + 1 => by
    rw [lp]; split
    · exact Nat.le_refl _
    · exact Nat.le_succ_of_le (lp_le c bs i)
theorem dec1 (k : Nat) : Int32.ofNat (k + 1) - 1 = Int32.ofNat k := dec_ofNat k
/-- the polynomial of the bytes, read without sign -/
def hsh (r : Int32) (bs : List Int32) : Int32 := bs.foldl (fun r b => 31 * r + (b &&& 255)) r
theorem hsh_drop {bs : List Int32} {i : Nat} (h : i < bs.length) (r : Int32) : hsh r (bs.drop i) = hsh (31 * r + (bs.getD i 0 &&& 255)) (bs.drop (i + 1)) := by
  rw [List.drop_eq_getElem_cons h, List.getD_eq_getElem?_getD, List.getElem?_eq_getElem h]
  rfl
theorem ns_root {Z : State} {a0 : Array Value} {O K : String} {n : Nat} (w : (Jvm.Cond.noSuperclass O).before a0 Z = true) (wi : (Jvm.Cond.instantiable K n).before a0 Z = true) (hn : O ≠ K) : NS Z O K := by
  obtain ⟨c, k, h1, h2, h3, -, -⟩ := Cond.noSuperclass_spec w
  obtain ⟨t, kt, g1, -⟩ := Cond.instantiable_spec wi
  have ne := ids_ne h1 g1 hn
  refine ⟨c, t, h1, g1, fun fuel => ?_⟩
  cases fuel with
  | zero => rfl
  | succ f => simp [Vm.isSubclassAux, ne, h2, h3]
theorem ns_no {Z : State} {a0 : Array Value} {C S K : String} {n : Nat} (w : (Jvm.Cond.superclass C S).before a0 Z = true) (wi : (Jvm.Cond.instantiable K n).before a0 Z = true) (nn : NS Z C K) (hn : C ≠ K) : ∃ c t, Z.vm.findClass C = some c ∧ Z.vm.findClass K = some t ∧ Z.vm.assignable c t = false := by
  obtain ⟨c, t, h0, g0, n3⟩ := nn
  obtain ⟨p, k, kp, h1, h2, h3, h4, h5, -, h7⟩ := Cond.superclass_spec h0 w
  obtain ⟨t', kt, g1, g2, g5, g7, -⟩ := Cond.instantiable_spec wi
  cases g0.symm.trans g1
  have ne := ids_ne h0 g0 hn
  have g7' : kt.isInterface = false := by
    rcases Bool.eq_false_or_eq_true kt.isInterface with q | q
    · rw [q] at g7; cases g7
    · exact q
  refine ⟨c, t, h0, g0, ?_⟩
  show Z.vm.assignableAux (255 + 1) c t = false
  simp [Vm.assignableAux, ne, h2, g2, h5, g5, g7', Vm.isSubclass, n3]
section Str
variable {Z : State} {h h' : Heap} {a t x : Addr} {cs : List Int32} {ws : List Addr} {sl : Nat} {v : Value} {a0 : Array Value}
theorem Str.exa (F : Str Z h a t cs) : Exa Z h a "java/lang/String" := F.1
theorem Str.coder (F : Str Z h a t cs) : Fld Z h a "java/lang/String" "coder" "B" (.int 0) := F.2.1
theorem Str.value (F : Str Z h a t cs) : Fld Z h a "java/lang/String" "value" "[B" (.ref t) := F.2.2.1
theorem Str.arv (F : Str Z h a t cs) : ∃ kb, Arv Z h t kb .byte (Int32.ofNat cs.length) (bv cs) (.int 0) := F.2.2.2.1
theorem Str.lt (F : Str Z h a t cs) : a < h.size := F.1.lt
theorem Str.ltB (F : Str Z h a t cs) : t < h.size := by obtain ⟨kb, K⟩ := F.arv; exact K.lt
theorem Str.ext (E : Ext h h') (F : Str Z h a t cs) : Str Z h' a t cs := by
  obtain ⟨f1, f2, f3, ⟨kb, f4⟩, f5⟩ := F
  exact ⟨f1.ext E, f2.ext E, f3.ext E, ⟨kb, f4.ext E⟩, fun q => (f5 q).ext E⟩
theorem Str.keep (F : Str Z h a t cs) (K : Keep h h' ws) (q1 : a ∉ ws) (q2 : t ∉ ws) : Str Z h' a t cs := by
  obtain ⟨f1, f2, f3, ⟨kb, f4⟩, f5⟩ := F
  exact ⟨f1.keep K, f2.keep K q1, f3.keep K q1, ⟨kb, f4.keep K q2⟩, fun q => (f5 q).keep K⟩
theorem Str.other (W : Wr h h' x sl v) (F : Str Z h a t cs) (q1 : a ≠ x) (q2 : t ≠ x) : Str Z h' a t cs := F.keep (Keep.of_wr W) (ninS q1 nin0) (ninS q2 nin0)
/-- its array is no such object -/
theorem Str.neB {C : String} {n : Nat} (F : Str Z h a t cs) (E : Exa Z h x C) (w : (Jvm.Cond.instantiable C n).before a0 Z = true) : t ≠ x := by
  obtain ⟨kb, K⟩ := F.arv
  exact (E.neArv K w).symm
theorem Exa.bytes {kb : ClassId} {n : Int32} {vs : List Value} {dv : Value} (K : Arv Z h t kb .byte n vs dv) (hk : Z.vm.findClass "[B" = some kb) : Exa Z h t "[B" := by
  obtain ⟨c, A, q, -⟩ := K
  obtain ⟨A1, ⟨p1, k, p2, comp, p3⟩, A3⟩ := id A
  exact ⟨c, k, A1, by rw [q]; exact hk, p2, A.plain, fun o => by rw [o] at p3; cases p3⟩
end Str
end Jvm.OwnKit
/- laws to paste: Road.backV, Road.lenW, Road.chN, Road.codOf (cut by pick.py; bodies as the Statement names them) -/
namespace Jvm.Pilot.@@N@@
namespace StrChars
open Jvm Sem ClassFile Op Lib Jvm.Stand Jvm.Free.XT Jvm.Free.ALB Jvm.Free.JM Jvm.Free
open Jvm.Lib.Cold (StaticIs)
/-- a char array whose places are chars -/
def Ch (a : Addr) (A : Cell) (U : State) : Prop := Arr .char a A U ∧ Typed .char A
theorem Ch.mv {a : Addr} {A : Cell} {U U' : State} (h : Ch a A U) (hal : U.vm.Alike U'.vm) (hh : U'.heap = U.heap) : Ch a A U' := ⟨h.1.mv hal hh, h.2⟩
theorem Ch.keep {a : Addr} {A : Cell} {U U' : State} (h : Ch a A U) (hal : U.vm.Alike U'.vm) (hk : U'.heap[a]? = some A) : Ch a A U' := ⟨h.1.keep hal hk, h.2⟩
/-- what place i of a char[]'s cell holds -/
def cv (A : Cell) (i : Nat) : Int32 := match A.slots[i]? with | some (.int x) => x | _ => 0
theorem Ch.get {a : Addr} {A : Cell} {U : State} (h : Ch a A U) {i : Nat} (hi : i < A.slots.size) : A.slots[i]? = some (.int (cv A i)) := by
  have e := Array.getElem?_eq_getElem hi
  have f := h.2 i _ e
  unfold cv; rw [e]
  generalize A.slots[i] = v at f
  cases v <;> simp [fits] at f ⊢
/-- the byte that i2b leaves of a char -/
def lo8 (x : Int32) : Int32 := x.toInt8.toInt32
theorem fits_lo8 (y : Int32) : fits .byte (.int (lo8 y)) = true := by
  have h1 := y.toInt8.le_toInt
  have h2 := y.toInt8.toInt_lt
  simp only [lo8, fits, Bool.and_eq_true, decide_eq_true_eq, Int32.le_iff_toInt_le, Int8.toInt_toInt32, show (-128 : Int32).toInt = -128 from by decide, show (127 : Int32).toInt = 127 from by decide]
  omega
/-- A' is A but that each place j of lo .. hi - 1 holds f j -/
def Laid (A A' : Cell) (lo hi : Nat) (f : Nat → Value) : Prop := A'.cls = A.cls ∧ A'.vm = A.vm ∧ A'.slots.size = A.slots.size ∧ ∀ i, A'.slots[i]? = if lo ≤ i ∧ i < hi then some (f i) else A.slots[i]?
theorem Laid.zero (A : Cell) (lo : Nat) (f : Nat → Value) : Laid A A lo (lo + 0) f := ⟨rfl, rfl, rfl, fun i => by rw [if_neg (by omega)]⟩
theorem Laid.step {A Ak : Cell} {lo k : Nat} {f : Nat → Value} {v : Value} (h : Laid A Ak lo k f) (hlo : lo ≤ k) (hk : k < Ak.slots.size) (hv : v = f k) : Laid A (Ak.setSlot k v) lo (k + 1) f := by
  refine ⟨h.1, h.2.1, by simpa [Cell.setSlot] using h.2.2.1, fun i => ?_⟩
  by_cases e : k = i
  · subst e; rw [Cell.slots_setSlot_self v hk, if_pos (by omega), hv]
  · rw [Cell.slots_setSlot_ne v e, h.2.2.2 i]
    by_cases q : lo ≤ i ∧ i < k
    · rw [if_pos q, if_pos (by omega)]
    · rw [if_neg q, if_neg (by omega)]
def U16 : String := "java/lang/StringUTF16"
namespace Cmp5
def yN : MethodName := ⟨"java/lang/StringUTF16", "compress", "([CI[BII)I"⟩
abbrev yB : ByteArray := jdk_52_method_21_code
theorem d0 : decode yB 0 = .ok (.iconst 0, 1) := by decide +kernel
theorem d1 : decode yB 1 = .ok (.istore 5, 2) := by decide +kernel
theorem d3 : decode yB 3 = .ok (.iload 5, 2) := by decide +kernel
theorem d5 : decode yB 5 = .ok (.iload 4, 2) := by decide +kernel
theorem d7 : decode yB 7 = .ok (.if_icmp (.ge) 37, 3) := by decide +kernel
theorem d10 : decode yB 10 = .ok (.aload_n 0, 1) := by decide +kernel
theorem d11 : decode yB 11 = .ok (.iload_n 1, 1) := by decide +kernel
theorem d12 : decode yB 12 = .ok (.caload, 1) := by decide +kernel
theorem d13 : decode yB 13 = .ok (.istore 6, 2) := by decide +kernel
theorem d15 : decode yB 15 = .ok (.iload 6, 2) := by decide +kernel
theorem d17 : decode yB 17 = .ok (.sipush 255, 3) := by decide +kernel
theorem d20 : decode yB 20 = .ok (.if_icmp (.le) 6, 3) := by decide +kernel
theorem d26 : decode yB 26 = .ok (.aload_n 2, 1) := by decide +kernel
theorem d27 : decode yB 27 = .ok (.iload_n 3, 1) := by decide +kernel
theorem d28 : decode yB 28 = .ok (.iload 6, 2) := by decide +kernel
theorem d30 : decode yB 30 = .ok (.i2b, 1) := by decide +kernel
theorem d31 : decode yB 31 = .ok (.bastore, 1) := by decide +kernel
theorem d32 : decode yB 32 = .ok (.iinc 1 1, 3) := by decide +kernel
theorem d35 : decode yB 35 = .ok (.iinc 3 1, 3) := by decide +kernel
theorem d38 : decode yB 38 = .ok (.iinc 5 1, 3) := by decide +kernel
theorem d41 : decode yB 41 = .ok (.goto (-38), 3) := by decide +kernel
theorem d44 : decode yB 44 = .ok (.iload 4, 2) := by decide +kernel
theorem d46 : decode yB 46 = .ok (.ireturn, 1) := by decide +kernel
def site : List Cond := []
def tab : Cond := tabOf yN yB 7 (some .int) site
def P (b : Addr) (A : Cell) (d : Addr) (B : Cell) (o q len : Nat) (args : Array Value) (s : State) : Prop := args = #[.ref b, .int (Int32.ofNat o), .ref d, .int (Int32.ofNat q), .int (Int32.ofNat len)] ∧ Ch b A s ∧ Arr .byte d B s ∧ b ≠ d ∧ o + len ≤ A.slots.size ∧ q + len ≤ B.slots.size ∧ ∀ i, i < len → ¬ 255 < cv A (o + i)
def E (b : Addr) (A : Cell) (d : Addr) (B : Cell) (o q len : Nat) (r : Option Value) (s u : State) : Prop := r = some (.int (Int32.ofNat len)) ∧ ∃ B', Put d B' s u ∧ Laid B B' q (q + len) (fun j => Value.int (lo8 (cv A (o + (j - q)))))
/-- no char of the range above 255: len; the places written hold each char's low byte -/
theorem law (l : Launch) (b : Addr) (A : Cell) (d : Addr) (B : Cell) (o q len : Nat) : Law l yN 5 5 0 0 yB 7 (some .int) site (P b A d B o q len) (E b A d B o q len) (copyLocs d q len) 0 0 := by
  refine Law.of_walk (plainFor_of_name (by decide +kernel)) (by decide +kernel) (by decide +kernel) (by decide) (fun _ _ h => by rw [h.1]; rfl) (fun _ U U' hal hh h => ⟨h.1, h.2.1.mv hal hh, h.2.2.1.mv hal hh, h.2.2.2⟩) (fun r U U' V V' h1 hal h2 h => ⟨h.1, h.2.elim fun B' q => ⟨B', q.1.mv h1 h2, q.2⟩⟩) ?_
  intro p e s m args below meth c s₁ X0 hexec hbytes hml hret hlk hnm hown hh0 W hP
  obtain ⟨rfl, hA, hB, hne, l1, l2, hp⟩ := hP
  have c1 : Steps p.tables e below (s₁.setTop (entryFrame m #[.ref b, .int (Int32.ofNat o), .ref d, .int (Int32.ofNat q), .int (Int32.ofNat len)] 7)) (s₁.setTop (mkF m 0 #[.val (.ref b), .val (.int (Int32.ofNat o)), .val (.ref d), .val (.int (Int32.ofNat q)), .val (.int (Int32.ofNat len)), .unset, .unset] [])) := entry rfl
  have hA0 := hA.1.mv X0.warmed.alike hh0
  have hB0 := hB.mv X0.warmed.alike hh0
  have a31 := hA.1.2.2.2
  have c2 : Steps p.tables e below (s₁.setTop (entryFrame m #[.ref b, .int (Int32.ofNat o), .ref d, .int (Int32.ofNat q), .int (Int32.ofNat len)] 7)) (s₁.setTop (mkF m 3 #[.val (.ref b), .val (.int (Int32.ofNat o)), .val (.ref d), .val (.int (Int32.ofNat q)), .val (.int (Int32.ofNat len)), .val (.int 0), .unset] [])) := c1.trans (by
    refine iconstV X0.here hexec rfl 0 (hb hbytes d0) (by decide) ?_
    refine XS.istore X0.here hexec rfl (hb hbytes d1) rfl rfl ?_
    exact Steps.refl _)
  have loop : ∀ (r i : Nat), i + r = len → ∀ (z : Slot), (z = .unset ∨ ∃ w, z = .val w ∧ w.category = 1) → ∀ (Tl : State) (Bk : Cell), Stand p l e { frames := 0, locals := 0, cells := 0, slots := 0 } s m #[.ref b, .int (Int32.ofNat o), .ref d, .int (Int32.ofNat q), .int (Int32.ofNat len)] below meth c Tl ([] ++ copyLocs d q i) 0 0 → Put d Bk s₁ Tl → Laid B Bk q (q + i) (fun j => Value.int (lo8 (cv A (o + (j - q))))) →
      Steps p.tables e below (s₁.setTop (entryFrame m #[.ref b, .int (Int32.ofNat o), .ref d, .int (Int32.ofNat q), .int (Int32.ofNat len)] 7)) (Tl.setTop (mkF m 3 #[.val (.ref b), .val (.int (Int32.ofNat (o + i))), .val (.ref d), .val (.int (Int32.ofNat (q + i))), .val (.int (Int32.ofNat len)), .val (.int (Int32.ofNat i)), z] [])) → ∃ (T' : State) (B' : Cell) (z' : Slot), Stand p l e { frames := 0, locals := 0, cells := 0, slots := 0 } s m #[.ref b, .int (Int32.ofNat o), .ref d, .int (Int32.ofNat q), .int (Int32.ofNat len)] below meth c T' ([] ++ copyLocs d q len) 0 0 ∧ Put d B' s₁ T' ∧ Laid B B' q (q + len) (fun j => Value.int (lo8 (cv A (o + (j - q))))) ∧
      Steps p.tables e below (s₁.setTop (entryFrame m #[.ref b, .int (Int32.ofNat o), .ref d, .int (Int32.ofNat q), .int (Int32.ofNat len)] 7)) (T'.setTop (mkF m 3 #[.val (.ref b), .val (.int (Int32.ofNat (o + len))), .val (.ref d), .val (.int (Int32.ofNat (q + len))), .val (.int (Int32.ofNat len)), .val (.int (Int32.ofNat len)), z'] [])) := by
    intro r
    induction r with
    | zero =>
      intro i hi z hz Tl Bk Xl pl fl cl
      have hil : i = len := by omega
      rw [hil] at Xl fl cl
      exact ⟨Tl, Bk, z, Xl, pl, fl, cl⟩
    | succ r ih =>
      intro i hi z hz Tl Bk Xl pl fl cl
      have all := X0.warmed.alike.symm.trans Xl.warmed.alike
      have hAl := hA0.keep all (pl.other hne hA0.1)
      have hBk := hB0.like all pl.1 fl.1 fl.2.1 fl.2.2.1
      have hlt : q + i < Bk.slots.size := by rw [fl.2.2.1]; omega
      have c3 : Steps p.tables e below (s₁.setTop (entryFrame m #[.ref b, .int (Int32.ofNat o), .ref d, .int (Int32.ofNat q), .int (Int32.ofNat len)] 7)) (Tl.setTop (mkF m 12 #[.val (.ref b), .val (.int (Int32.ofNat (o + i))), .val (.ref d), .val (.int (Int32.ofNat (q + i))), .val (.int (Int32.ofNat len)), .val (.int (Int32.ofNat i)), z] [.int (Int32.ofNat (o + i)), .ref b])) := cl.trans (by
        refine XS.iload Xl.here hexec rfl (hb hbytes d3) rfl ?_
        refine XS.iload Xl.here hexec rfl (hb hbytes d5) rfl ?_
        refine XS.icmpNo Xl.here hexec rfl (hb hbytes d7) rfl (ii_ge_f (lt32 (by omega) (by omega))) ?_
        refine XS.aloadN Xl.here hexec rfl (hb hbytes d10) rfl rfl ?_
        refine XS.iloadN Xl.here hexec rfl (hb hbytes d11) rfl ?_
        exact Steps.refl _)
      have c4 : Steps p.tables e below (s₁.setTop (entryFrame m #[.ref b, .int (Int32.ofNat o), .ref d, .int (Int32.ofNat q), .int (Int32.ofNat len)] 7)) (Tl.setTop (mkF m 13 #[.val (.ref b), .val (.int (Int32.ofNat (o + i))), .val (.ref d), .val (.int (Int32.ofNat (q + i))), .val (.int (Int32.ofNat len)), .val (.int (Int32.ofNat i)), z] [.int (cv A (o + i))])) := c3.trans (by
        refine Xl.aget hexec hAl rfl (hA.get (i := o + i) (by omega)) rfl rfl (hb hbytes d12) ?_
        exact Steps.refl _)
      have c5 : Steps p.tables e below (s₁.setTop (entryFrame m #[.ref b, .int (Int32.ofNat o), .ref d, .int (Int32.ofNat q), .int (Int32.ofNat len)] 7)) (Tl.setTop (mkF m 15 #[.val (.ref b), .val (.int (Int32.ofNat (o + i))), .val (.ref d), .val (.int (Int32.ofNat (q + i))), .val (.int (Int32.ofNat len)), .val (.int (Int32.ofNat i)), .val (.int (cv A (o + i)))] [])) := c4.trans (by
        refine XS.istoreS Xl.here hexec rfl (hb hbytes d13) rfl rfl hz ?_
        exact Steps.refl _)
      have c6 : Steps p.tables e below (s₁.setTop (entryFrame m #[.ref b, .int (Int32.ofNat o), .ref d, .int (Int32.ofNat q), .int (Int32.ofNat len)] 7)) (Tl.setTop (mkF m 31 #[.val (.ref b), .val (.int (Int32.ofNat (o + i))), .val (.ref d), .val (.int (Int32.ofNat (q + i))), .val (.int (Int32.ofNat len)), .val (.int (Int32.ofNat i)), .val (.int (cv A (o + i)))] [.int (lo8 (cv A (o + i))), .int (Int32.ofNat (q + i)), .ref d])) := c5.trans (by
        refine XS.iload Xl.here hexec rfl (hb hbytes d15) rfl ?_
        refine sipushV Xl.here hexec rfl 255 (hb hbytes d17) (by decide) ?_
        refine XS.icmpYes Xl.here hexec rfl (pc0 := 20) rfl (hb hbytes d20) rfl (ii_le_t (hp i (by omega))) (by decide) rfl ?_
        refine XS.aloadN Xl.here hexec rfl (hb hbytes d26) rfl rfl ?_
        refine XS.iloadN Xl.here hexec rfl (hb hbytes d27) rfl ?_
        refine XS.iload Xl.here hexec rfl (hb hbytes d28) rfl ?_
        refine i2b Xl.here hexec rfl (hb hbytes d30) rfl ?_
        exact Steps.refl _)
      obtain ⟨T7, X7, p7, st7⟩ := Xl.aput hexec hBk rfl hlt rfl (fits_lo8 (cv A (o + i))) (g := (mkF m 31 #[.val (.ref b), .val (.int (Int32.ofNat (o + i))), .val (.ref d), .val (.int (Int32.ofNat (q + i))), .val (.int (Int32.ofNat len)), .val (.int (Int32.ofNat i)), .val (.int (cv A (o + i)))] [.int (lo8 (cv A (o + i))), .int (Int32.ofNat (q + i)), .ref d])) rfl (rest := []) rfl (hb hbytes d31)
      have c8 : Steps p.tables e below (s₁.setTop (entryFrame m #[.ref b, .int (Int32.ofNat o), .ref d, .int (Int32.ofNat q), .int (Int32.ofNat len)] 7)) (T7.setTop (mkF m 32 #[.val (.ref b), .val (.int (Int32.ofNat (o + i))), .val (.ref d), .val (.int (Int32.ofNat (q + i))), .val (.int (Int32.ofNat len)), .val (.int (Int32.ofNat i)), .val (.int (cv A (o + i)))] [])) := c6.trans (st7 _ (Steps.refl _))
      have c9 : Steps p.tables e below (s₁.setTop (entryFrame m #[.ref b, .int (Int32.ofNat o), .ref d, .int (Int32.ofNat q), .int (Int32.ofNat len)] 7)) (T7.setTop (mkF m 3 #[.val (.ref b), .val (.int (Int32.ofNat (o + i) + 1)), .val (.ref d), .val (.int (Int32.ofNat (q + i) + 1)), .val (.int (Int32.ofNat len)), .val (.int (Int32.ofNat i + 1)), .val (.int (cv A (o + i)))] [])) := c8.trans (by
        refine iincV X7.here hexec rfl 1 (hb hbytes d32) (by decide) rfl rfl ?_
        refine iincV X7.here hexec rfl 1 (hb hbytes d35) (by decide) rfl rfl ?_
        refine iincV X7.here hexec rfl 1 (hb hbytes d38) (by decide) rfl rfl ?_
        refine XS.goto X7.here hexec rfl (pc0 := 41) rfl (hb hbytes d41) (by decide) rfl ?_
        exact Steps.refl _)
      have c10 : Steps p.tables e below (s₁.setTop (entryFrame m #[.ref b, .int (Int32.ofNat o), .ref d, .int (Int32.ofNat q), .int (Int32.ofNat len)] 7)) (T7.setTop (mkF m 3 #[.val (.ref b), .val (.int (Int32.ofNat (o + (i + 1)))), .val (.ref d), .val (.int (Int32.ofNat (q + (i + 1)))), .val (.int (Int32.ofNat len)), .val (.int (Int32.ofNat (i + 1))), .val (.int (cv A (o + i)))] [])) := by
        have := c9
        rw [succ32, succ32, succ32] at this
        exact this
      exact ih (i + 1) (by omega) _ (Or.inr ⟨_, rfl, rfl⟩) T7 _ (by rw [copyLocs_step, ← List.append_assoc]; exact X7) (pl.trans p7) (fl.step (by omega) hlt (by simp)) c10
  obtain ⟨T9, B9, z9, X9, p9, f9, g9⟩ := loop len 0 (by omega) .unset (Or.inl rfl) s₁ B (by simpa [copyLocs] using X0) ⟨hB0.1, fun _ _ => rfl, rfl⟩ (Laid.zero _ _ _) c2
  have c11 : Steps p.tables e below (s₁.setTop (entryFrame m #[.ref b, .int (Int32.ofNat o), .ref d, .int (Int32.ofNat q), .int (Int32.ofNat len)] 7)) (T9.setTop (mkF m 46 #[.val (.ref b), .val (.int (Int32.ofNat (o + len))), .val (.ref d), .val (.int (Int32.ofNat (q + len))), .val (.int (Int32.ofNat len)), .val (.int (Int32.ofNat len)), z9] [.int (Int32.ofNat len)])) := g9.trans (by
    refine XS.iload X9.here hexec rfl (hb hbytes d3) rfl ?_
    refine XS.iload X9.here hexec rfl (hb hbytes d5) rfl ?_
    refine XS.icmpYes X9.here hexec rfl (pc0 := 7) rfl (hb hbytes d7) rfl (ii_ge_t (nlt32 (by omega) (Nat.le_refl _))) (by decide) rfl ?_
    refine XS.iload X9.here hexec rfl (hb hbytes d44) rfl ?_
    exact Steps.refl _)
  exact ⟨T9, some (.int (Int32.ofNat len)), _, _, _, X9, by simp, rfl, rfl, (fun h => by cases h), ⟨rfl, B9, p9.from hh0, f9⟩, fun fs hl => c11.trans (X9.ireturnOut hexec hret rfl (Or.inl rfl) (hb hbytes d46) hl)⟩
end Cmp5
namespace Cmp3
def yN : MethodName := ⟨"java/lang/StringUTF16", "compress", "([CII)[B"⟩
abbrev yB : ByteArray := jdk_52_method_16_code
theorem d0 : decode yB 0 = .ok (.iload_n 2, 1) := by decide +kernel
theorem d1 : decode yB 1 = .ok (.newarray .byte, 2) := by decide +kernel
theorem d3 : decode yB 3 = .ok (.astore_n 3, 1) := by decide +kernel
theorem d4 : decode yB 4 = .ok (.aload_n 0, 1) := by decide +kernel
theorem d5 : decode yB 5 = .ok (.iload_n 1, 1) := by decide +kernel
theorem d6 : decode yB 6 = .ok (.aload_n 3, 1) := by decide +kernel
theorem d7 : decode yB 7 = .ok (.iconst 0, 1) := by decide +kernel
theorem d8 : decode yB 8 = .ok (.iload_n 2, 1) := by decide +kernel
theorem d9 : decode yB 9 = .ok (.invokestatic 115, 3) := by decide +kernel
theorem d12 : decode yB 12 = .ok (.istore 4, 2) := by decide +kernel
theorem d14 : decode yB 14 = .ok (.iload 4, 2) := by decide +kernel
theorem d16 : decode yB 16 = .ok (.iload_n 2, 1) := by decide +kernel
theorem d17 : decode yB 17 = .ok (.if_icmp (.eq) 40, 3) := by decide +kernel
theorem d57 : decode yB 57 = .ok (.aload_n 3, 1) := by decide +kernel
theorem d58 : decode yB 58 = .ok (.areturn, 1) := by decide +kernel
def site : List Cond := [.arrayClass .byte, Cmp5.tab] ++ staticW U16 115 Cmp5.yN
def tab : Cond := tabOf yN yB 6 (some (.array .byte)) site
def P (b : Addr) (A : Cell) (o len : Nat) (args : Array Value) (s : State) : Prop := args = #[.ref b, .int (Int32.ofNat o), .int (Int32.ofNat len)] ∧ Ch b A s ∧ o + len ≤ A.slots.size ∧ len ≤ 536870912 ∧ ∀ i, i < len → ¬ 255 < cv A (o + i)
def E (b : Addr) (A : Cell) (o len : Nat) (r : Option Value) (s u : State) : Prop := NewArr .byte "[B" len (fun j => .int (lo8 (cv A (o + j)))) r s u ∧ u.heap.size = s.heap.size + 1
/-- no char of the range above 255: a new byte[] of their low bytes -/
theorem law (l : Launch) (b : Addr) (A : Cell) (o len : Nat) : Law l yN 3 3 1 18 yB 6 (some (.array .byte)) site (P b A o len) (E b A o len) [] 1 len := by
  refine Law.of_walk (plainFor_of_name (by decide +kernel)) (by decide +kernel) (by decide +kernel) (by decide) (fun _ _ h => by rw [h.1]; rfl) (fun _ U U' hal hh h => ⟨h.1, h.2.1.mv hal hh, h.2.2⟩) (fun r U U' V V' h1 hal h2 h => ⟨NewArr.mv r U U' V V' h1 hal h2 h.1, by rw [h1, h2]; exact h.2⟩) ?_
  intro p e s m args below meth c s₁ X0 hexec hbytes hml hret hlk hnm hown hh0 W hP
  obtain ⟨rfl, hA, l1, l2, hp⟩ := hP
  have a31 := hA.1.2.2.2
  have c1 : Steps p.tables e below (s₁.setTop (entryFrame m #[.ref b, .int (Int32.ofNat o), .int (Int32.ofNat len)] 6)) (s₁.setTop (mkF m 0 #[.val (.ref b), .val (.int (Int32.ofNat o)), .val (.int (Int32.ofNat len)), .unset, .unset, .unset] [])) := entry rfl
  have c2 : Steps p.tables e below (s₁.setTop (entryFrame m #[.ref b, .int (Int32.ofNat o), .int (Int32.ofNat len)] 6)) (s₁.setTop (mkF m 1 #[.val (.ref b), .val (.int (Int32.ofNat o)), .val (.int (Int32.ofNat len)), .unset, .unset, .unset] [.int (Int32.ofNat len)])) := c1.trans (by
    refine XS.iloadN X0.here hexec rfl (hb hbytes d0) rfl ?_
    exact Steps.refl _)
  obtain ⟨T3, B3, X3, ba3, bs3, bv3, bh3, bf3, st3⟩ := X0.anew hexec (atype := .byte) (wk W (.arrayClass .byte)) rfl (by show len * 1 ≤ _; omega) (by omega) (g := (mkF m 1 #[.val (.ref b), .val (.int (Int32.ofNat o)), .val (.int (Int32.ofNat len)), .unset, .unset, .unset] [.int (Int32.ofNat len)])) rfl (hb hbytes d1) (rest := []) rfl (Nat.le_refl _) (by show 0 + len ≤ len; omega)
  rw [hh0] at ba3 st3
  have kp3 : XT.Kept s T3 := (XT.Kept.of_eq hh0).push bh3
  have hA3 := hA.keep X3.warmed.alike (kp3 _ _ hA.1.1)
  have hne : b ≠ s.heap.size := hA.1.ne
  have c4 : Steps p.tables e below (s₁.setTop (entryFrame m #[.ref b, .int (Int32.ofNat o), .int (Int32.ofNat len)] 6)) (T3.setTop (mkF m 3 #[.val (.ref b), .val (.int (Int32.ofNat o)), .val (.int (Int32.ofNat len)), .unset, .unset, .unset] [.ref s.heap.size])) := c2.trans (st3 _ (Steps.refl _))
  have c5 : Steps p.tables e below (s₁.setTop (entryFrame m #[.ref b, .int (Int32.ofNat o), .int (Int32.ofNat len)] 6)) (T3.setTop (mkF m 9 #[.val (.ref b), .val (.int (Int32.ofNat o)), .val (.int (Int32.ofNat len)), .val (.ref s.heap.size), .unset, .unset] [.int (Int32.ofNat len), .int 0, .ref s.heap.size, .int (Int32.ofNat o), .ref b])) := c4.trans (by
    refine XS.astoreN X3.here hexec rfl (hb hbytes d3) rfl rfl rfl ?_
    refine XS.aloadN X3.here hexec rfl (hb hbytes d4) rfl rfl ?_
    refine XS.iloadN X3.here hexec rfl (hb hbytes d5) rfl ?_
    refine XS.aloadN X3.here hexec rfl (hb hbytes d6) rfl rfl ?_
    refine iconstV X3.here hexec rfl 0 (hb hbytes d7) (by decide) ?_
    refine XS.iloadN X3.here hexec rfl (hb hbytes d8) rfl ?_
    exact Steps.refl _)
  obtain ⟨v6, T6, X6, E6, g6⟩ := X3.callS hexec (Cmp5.law l b A s.heap.size B3 o 0 len) hown (wks W (staticW U16 115 Cmp5.yN)) (wk W Cmp5.tab) (W := 0) (Nat.le_of_ble_eq_true rfl) (Nat.le_of_ble_eq_true rfl) (Nat.le_refl _) (by show 0 + len + 0 ≤ len; omega) (g := (mkF m 9 #[.val (.ref b), .val (.int (Int32.ofNat o)), .val (.int (Int32.ofNat len)), .val (.ref s.heap.size), .unset, .unset] [.int (Int32.ofNat len), .int (Int32.ofNat 0), .ref s.heap.size, .int (Int32.ofNat o), .ref b])) rfl (by rw [hml]; rfl) c5 (argsL := [.ref b, .int (Int32.ofNat o), .ref s.heap.size, .int (Int32.ofNat 0), .int (Int32.ofNat len)]) (rest := []) rfl rfl (by show 2 * 0 + 0 ≤ _; decide) (hb hbytes d9) (⟨rfl, hA3, ba3, hne, l1, by rw [bs3]; simp, hp⟩)
  obtain ⟨rfl, B6, p6, f6⟩ := E6
  have c7 : Steps p.tables e below (s₁.setTop (entryFrame m #[.ref b, .int (Int32.ofNat o), .int (Int32.ofNat len)] 6)) (T6.setTop (mkF m 12 #[.val (.ref b), .val (.int (Int32.ofNat o)), .val (.int (Int32.ofNat len)), .val (.ref s.heap.size), .unset, .unset] [.int (Int32.ofNat len)])) := g6
  have c8 : Steps p.tables e below (s₁.setTop (entryFrame m #[.ref b, .int (Int32.ofNat o), .int (Int32.ofNat len)] 6)) (T6.setTop (mkF m 58 #[.val (.ref b), .val (.int (Int32.ofNat o)), .val (.int (Int32.ofNat len)), .val (.ref s.heap.size), .val (.int (Int32.ofNat len)), .unset] [.ref s.heap.size])) := c7.trans (by
    refine XS.istore X6.here hexec rfl (hb hbytes d12) rfl rfl ?_
    refine XS.iload X6.here hexec rfl (hb hbytes d14) rfl ?_
    refine XS.iloadN X6.here hexec rfl (hb hbytes d16) rfl ?_
    refine XS.icmpYes X6.here hexec rfl (pc0 := 17) rfl (hb hbytes d17) rfl (ii_eq_t rfl) (by decide) rfl ?_
    refine XS.aloadN X6.here hexec rfl (hb hbytes d57) rfl rfl ?_
    exact Steps.refl _)
  have X8 := X6.wide (L' := []) (cells' := 1) (slots' := len) (fun x hx hlt => by
    simp only [List.nil_append, copyLocs, List.mem_map, List.mem_range] at hx
    obtain ⟨i, -, rfl⟩ := hx
    exact absurd hlt (Nat.lt_irrefl _)) (Nat.le_refl _) (by omega)
  exact ⟨T6, some (.ref s.heap.size), _, _, _, X8, rfl, rfl, rfl, (fun h => by cases h), ⟨⟨rfl, B6, ba3.like (X3.warmed.alike.symm.trans X6.warmed.alike) p6.1 f6.1 f6.2.1 f6.2.2.1, f6.2.1.trans bv3, by rw [X6.warmed.alike.findClass, f6.1]; exact bf3, by rw [f6.2.2.1, bs3]; simp, fun j hj => by rw [f6.2.2.2 j, if_pos (by omega)]; rfl, kp3.put p6 (Nat.le_refl _)⟩, by rw [p6.2.2, bh3, hh0]; simp⟩, fun fs hl => c8.trans (X8.areturnOut hexec rfl hret rfl (hb hbytes d58) hl)⟩
end Cmp3
namespace CodL
def yN : MethodName := ⟨"java/lang/StringUTF16", "coderFromArrayLen", "([BI)B"⟩
abbrev yB : ByteArray := jdk_52_method_15_code
theorem d0 : decode yB 0 = .ok (.iload_n 1, 1) := by decide +kernel
theorem d1 : decode yB 1 = .ok (.aload_n 0, 1) := by decide +kernel
theorem d2 : decode yB 2 = .ok (.arraylength, 1) := by decide +kernel
theorem d3 : decode yB 3 = .ok (.isub, 1) := by decide +kernel
theorem d4 : decode yB 4 = .ok (.bipush 31, 2) := by decide +kernel
theorem d6 : decode yB 6 = .ok (.iushr, 1) := by decide +kernel
theorem d7 : decode yB 7 = .ok (.i2b, 1) := by decide +kernel
theorem d8 : decode yB 8 = .ok (.ireturn, 1) := by decide +kernel
def site : List Cond := []
def tab : Cond := tabOf yN yB 2 (some .byte) site
def P (d : Addr) (B : Cell) (args : Array Value) (s : State) : Prop := args = #[.ref d, .int (Int32.ofNat B.slots.size)] ∧ Arr .byte d B s
def E (r : Option Value) (s u : State) : Prop := XT.PureE (some (.int 0)) r s u
/-- an array as long as the number of chars: LATIN1 -/
theorem law (l : Launch) (d : Addr) (B : Cell) : Law l yN 2 2 0 0 yB 2 (some .byte) site (P d B) E [] 0 0 := by
  refine Law.of_walk (plainFor_of_name (by decide +kernel)) (by decide +kernel) (by decide +kernel) (by decide) (fun _ _ h => by rw [h.1]; rfl) (fun _ U U' hal hh h => ⟨h.1, h.2.mv hal hh⟩) (fun r U U' V V' h1 hal h2 h => XT.PureE.mv r U U' V V' h1 hal h2 h) ?_
  intro p e s m args below meth c s₁ X0 hexec hbytes hml hret hlk hnm hown hh0 W hP
  obtain ⟨rfl, hB⟩ := hP
  have hB0 := hB.mv X0.warmed.alike hh0
  have c1 : Steps p.tables e below (s₁.setTop (entryFrame m #[.ref d, .int (Int32.ofNat B.slots.size)] 2)) (s₁.setTop (mkF m 0 #[.val (.ref d), .val (.int (Int32.ofNat B.slots.size))] [])) := entry rfl
  have c2 : Steps p.tables e below (s₁.setTop (entryFrame m #[.ref d, .int (Int32.ofNat B.slots.size)] 2)) (s₁.setTop (mkF m 2 #[.val (.ref d), .val (.int (Int32.ofNat B.slots.size))] [.ref d, .int (Int32.ofNat B.slots.size)])) := c1.trans (by
    refine XS.iloadN X0.here hexec rfl (hb hbytes d0) rfl ?_
    refine XS.aloadN X0.here hexec rfl (hb hbytes d1) rfl rfl ?_
    exact Steps.refl _)
  have c3 : Steps p.tables e below (s₁.setTop (entryFrame m #[.ref d, .int (Int32.ofNat B.slots.size)] 2)) (s₁.setTop (mkF m 8 #[.val (.ref d), .val (.int (Int32.ofNat B.slots.size))] [.int (lo8 (ushr (Int32.ofNat B.slots.size - Int32.ofNat B.slots.size) 31))])) := c2.trans (by
    refine X0.alen hexec hB0 rfl rfl (hb hbytes d2) ?_
    refine XS.isub X0.here hexec rfl (hb hbytes d3) rfl ?_
    refine bipushV X0.here hexec rfl 31 (hb hbytes d4) (by decide) ?_
    refine iushr X0.here hexec rfl (hb hbytes d6) rfl ?_
    refine i2b X0.here hexec rfl (hb hbytes d7) rfl ?_
    exact Steps.refl _)
  have e0 : lo8 (ushr (Int32.ofNat B.slots.size - Int32.ofNat B.slots.size) 31) = 0 := by rw [Int32.sub_self]; decide
  rw [e0] at c3
  exact ⟨s₁, some (.int 0), _, _, _, X0, rfl, rfl, rfl, (fun h => by cases h), ⟨rfl, hh0⟩, fun fs hl => c3.trans (X0.ireturnOut hexec hret rfl (Or.inr (Or.inr (Or.inl rfl))) (hb hbytes d8) hl)⟩
end CodL
/-- the String at a is Latin-1 over a new byte[] (the heap's one new cell): the low bytes of the len chars of A from o on; every cell but a is kept -/
def Got (a : Addr) (D : Cell) (fV fC : Field) (A : Cell) (o len : Nat) (r : Option Value) (s u : State) : Prop := r = none ∧ ∃ D' V : Cell, Blank "java/lang/String" a D' u ∧ Same D D' [fV.slot, fC.slot] ∧ D'.slots[fV.slot]? = some (.ref s.heap.size) ∧ D'.slots[fC.slot]? = some (.int 0) ∧ Arr .byte s.heap.size V u ∧ V.vm = .none ∧ u.vm.findClass "[B" = some V.cls ∧ V.slots.size = len ∧ (∀ j, j < len → V.slots[j]? = some (.int (lo8 (cv A (o + j))))) ∧ (∀ (y : Addr) (c : Cell), y ≠ a → s.heap[y]? = some c → u.heap[y]? = some c) ∧ u.heap.size = s.heap.size + 1
theorem Got.mv {a : Addr} {D A : Cell} {fV fC : Field} {o len : Nat} : ∀ r (U U' V V' : State), U'.heap = U.heap → V.vm.Alike V'.vm → V'.heap = V.heap → Got a D fV fC A o len r U V → Got a D fV fC A o len r U' V' :=
  fun r U U' V V' h1 hal h2 ⟨e0, D', X, a1, a2, a3, a4, a5, a6, a7, a8, a9, a10, a11⟩ => ⟨e0, D', X, a1.mv hal h2, a2, by rw [h1]; exact a3, a4, by rw [h1]; exact a5.mv hal h2, a6, by rw [hal.findClass]; exact a7, a8, a9, by rw [h1, h2]; exact a10, by rw [h1, h2]; exact a11⟩
namespace New4
def yN : MethodName := ⟨"java/lang/String", "<init>", "([CIILjava/lang/Void;)V"⟩
abbrev yB : ByteArray := jdk_42_method_149_code
theorem d0 : decode yB 0 = .ok (.aload_n 0, 1) := by decide +kernel
theorem d1 : decode yB 1 = .ok (.invokespecial 1, 3) := by decide +kernel
theorem d4 : decode yB 4 = .ok (.iload_n 3, 1) := by decide +kernel
theorem d5 : decode yB 5 = .ok (.ifCond (.ne) 22, 3) := by decide +kernel
theorem d27 : decode yB 27 = .ok (.getstatic 38, 3) := by decide +kernel
theorem d30 : decode yB 30 = .ok (.ifCond (.eq) 28, 3) := by decide +kernel
theorem d33 : decode yB 33 = .ok (.aload_n 1, 1) := by decide +kernel
theorem d34 : decode yB 34 = .ok (.iload_n 2, 1) := by decide +kernel
theorem d35 : decode yB 35 = .ok (.iload_n 3, 1) := by decide +kernel
theorem d36 : decode yB 36 = .ok (.invokestatic 177, 3) := by decide +kernel
theorem d39 : decode yB 39 = .ok (.astore 5, 2) := by decide +kernel
theorem d41 : decode yB 41 = .ok (.aload_n 0, 1) := by decide +kernel
theorem d42 : decode yB 42 = .ok (.aload 5, 2) := by decide +kernel
theorem d44 : decode yB 44 = .ok (.iload_n 3, 1) := by decide +kernel
theorem d45 : decode yB 45 = .ok (.invokestatic 47, 3) := by decide +kernel
theorem d48 : decode yB 48 = .ok (.putfield 15, 3) := by decide +kernel
theorem d51 : decode yB 51 = .ok (.aload_n 0, 1) := by decide +kernel
theorem d52 : decode yB 52 = .ok (.aload 5, 2) := by decide +kernel
theorem d54 : decode yB 54 = .ok (.putfield 9, 3) := by decide +kernel
theorem d57 : decode yB 57 = .ok (.return_, 1) := by decide +kernel
def site : List Cond := [.fieldLink "java/lang/String" 38 "java/lang/String" "COMPACT_STRINGS" "Z", Cmp3.tab, CodL.tab, .laysFinal "java/lang/String" "java/lang/String" "value" "[B", .fieldLink "java/lang/String" 9 "java/lang/String" "value" "[B", .laysFinal "java/lang/String" "java/lang/String" "coder" "B", .fieldLink "java/lang/String" 15 "java/lang/String" "coder" "B"] ++ objW "java/lang/String" 1 ++ staticW "java/lang/String" 177 Cmp3.yN ++ staticW "java/lang/String" 47 CodL.yN
def tab : Cond := tabOf yN yB 6 none site
def P (a : Addr) (D : Cell) (fV fC : Field) (b : Addr) (A : Cell) (z : Int32) (o len : Nat) (args : Array Value) (s : State) : Prop := args = #[.ref a, .ref b, .int (Int32.ofNat o), .int (Int32.ofNat len), .null] ∧ Blank "java/lang/String" a D s ∧ Found "java/lang/String" "value" "[B" fV s ∧ Found "java/lang/String" "coder" "B" fC s ∧ Ch b A s ∧ StaticIs s "java/lang/String" "COMPACT_STRINGS" "Z" (.int z) ∧ ¬ z = 0 ∧ 0 < len ∧ o + len ≤ A.slots.size ∧ len ≤ 536870912 ∧ ∀ i, i < len → ¬ 255 < cv A (o + i)
def E (a : Addr) (D : Cell) (fV fC : Field) (A : Cell) (o len : Nat) (r : Option Value) (s u : State) : Prop := Got a D fV fC A o len r s u
/-- len > 0, no char of the range above 255: a Latin-1 String of their low bytes -/
theorem law (l : Launch) (a : Addr) (D : Cell) (fV fC : Field) (b : Addr) (A : Cell) (z : Int32) (o len : Nat) : Law l yN 5 4 2 35 yB 6 none site (P a D fV fC b A z o len) (E a D fV fC A o len) [⟨a, fC.slot⟩, ⟨a, fV.slot⟩] 1 len := by
  refine Law.of_walk (plainFor_of_name (by decide +kernel)) (by decide +kernel) (by decide +kernel) (by decide) (fun _ _ h => by rw [h.1]; rfl) (fun _ U U' hal hh h => ⟨h.1, h.2.1.mv hal hh, h.2.2.1.al hal, h.2.2.2.1.al hal, h.2.2.2.2.1.mv hal hh, h.2.2.2.2.2.1.there hal hh, h.2.2.2.2.2.2⟩) (fun r U U' V V' h1 hal h2 h => Got.mv r U U' V V' h1 hal h2 h) ?_
  intro p e s m args below meth c s₁ X0 hexec hbytes hml hret hlk hnm hown hh0 W hP
  obtain ⟨rfl, hB, f1, f2, hA, s1, hz, l0, l1, l2, hp⟩ := hP
  have a31 := hA.1.2.2.2
  have c1 : Steps p.tables e below (s₁.setTop (entryFrame m #[.ref a, .ref b, .int (Int32.ofNat o), .int (Int32.ofNat len), .null] 6)) (s₁.setTop (mkF m 0 #[.val (.ref a), .val (.ref b), .val (.int (Int32.ofNat o)), .val (.int (Int32.ofNat len)), .val .null, .unset] [])) := entry rfl
  have c2 : Steps p.tables e below (s₁.setTop (entryFrame m #[.ref a, .ref b, .int (Int32.ofNat o), .int (Int32.ofNat len), .null] 6)) (s₁.setTop (mkF m 1 #[.val (.ref a), .val (.ref b), .val (.int (Int32.ofNat o)), .val (.int (Int32.ofNat len)), .val .null, .unset] [.ref a])) := c1.trans (by
    refine XS.aloadN X0.here hexec rfl (hb hbytes d0) rfl rfl ?_
    exact Steps.refl _)
  obtain ⟨T3, X3, q3, st3⟩ := X0.oinit hexec hown (wks W (objW "java/lang/String" 1)) (g := (mkF m 1 #[.val (.ref a), .val (.ref b), .val (.int (Int32.ofNat o)), .val (.int (Int32.ofNat len)), .val .null, .unset] [.ref a])) rfl (by rw [hml]; rfl) (rest := []) rfl (hb hbytes d1) (W := 0) (by show 2 * 0 + 0 ≤ _; decide) (Nat.le_of_ble_eq_true rfl) (Nat.le_of_ble_eq_true rfl)
  have hh3 := q3.trans hh0
  have c4 : Steps p.tables e below (s₁.setTop (entryFrame m #[.ref a, .ref b, .int (Int32.ofNat o), .int (Int32.ofNat len), .null] 6)) (T3.setTop (mkF m 27 #[.val (.ref a), .val (.ref b), .val (.int (Int32.ofNat o)), .val (.int (Int32.ofNat len)), .val .null, .unset] [])) := (c2.trans (st3 _ (Steps.refl _))).trans (by
    refine XS.iloadN X3.here hexec rfl (hb hbytes d4) rfl ?_
    refine XS.ifYes X3.here hexec rfl (pc0 := 5) rfl (hb hbytes d5) rfl (i0_ne_t (nz32 (by omega) l0)) (by decide) rfl ?_
    exact Steps.refl _)
  obtain ⟨T5, X5, q5, st5⟩ := X3.sget hexec hown (wk W (.fieldLink "java/lang/String" 38 "java/lang/String" "COMPACT_STRINGS" "Z")) s1 (fun _ _ h => by rw [hh3]; exact h) (g := (mkF m 27 #[.val (.ref a), .val (.ref b), .val (.int (Int32.ofNat o)), .val (.int (Int32.ofNat len)), .val .null, .unset] [])) rfl (hb hbytes d27)
  have hh5 := q5.trans hh3
  have c6 : Steps p.tables e below (s₁.setTop (entryFrame m #[.ref a, .ref b, .int (Int32.ofNat o), .int (Int32.ofNat len), .null] 6)) (T5.setTop (mkF m 30 #[.val (.ref a), .val (.ref b), .val (.int (Int32.ofNat o)), .val (.int (Int32.ofNat len)), .val .null, .unset] [.int z])) := c4.trans (st5 _ (Steps.refl _))
  have c7 : Steps p.tables e below (s₁.setTop (entryFrame m #[.ref a, .ref b, .int (Int32.ofNat o), .int (Int32.ofNat len), .null] 6)) (T5.setTop (mkF m 36 #[.val (.ref a), .val (.ref b), .val (.int (Int32.ofNat o)), .val (.int (Int32.ofNat len)), .val .null, .unset] [.int (Int32.ofNat len), .int (Int32.ofNat o), .ref b])) := c6.trans (by
    refine XS.ifNo X5.here hexec rfl (hb hbytes d30) rfl (i0_eq_f hz) ?_
    refine XS.aloadN X5.here hexec rfl (hb hbytes d33) rfl rfl ?_
    refine XS.iloadN X5.here hexec rfl (hb hbytes d34) rfl ?_
    refine XS.iloadN X5.here hexec rfl (hb hbytes d35) rfl ?_
    exact Steps.refl _)
  obtain ⟨v8, T8, X8, E8, g8⟩ := X5.callS hexec (Cmp3.law l b A o len) hown (wks W (staticW "java/lang/String" 177 Cmp3.yN)) (wk W Cmp3.tab) (W := 0) (Nat.le_of_ble_eq_true rfl) (Nat.le_of_ble_eq_true rfl) (Nat.le_refl _) (by show 0 + len ≤ len; omega) (g := (mkF m 36 #[.val (.ref a), .val (.ref b), .val (.int (Int32.ofNat o)), .val (.int (Int32.ofNat len)), .val .null, .unset] [.int (Int32.ofNat len), .int (Int32.ofNat o), .ref b])) rfl (by rw [hml]; rfl) c7 (argsL := [.ref b, .int (Int32.ofNat o), .int (Int32.ofNat len)]) (rest := []) rfl rfl (by show 2 * 0 + 0 ≤ _; decide) (hb hbytes d36) (⟨rfl, hA.mv X5.warmed.alike hh5, l1, l2, hp⟩)
  obtain ⟨e8, z8⟩ := E8
  obtain ⟨rfl, N, n1, n2, n3, n4, n5, n6⟩ := NewArr.mv _ T5 s _ _ hh5.symm (Vm.Alike.refl _) rfl e8
  rw [hh5] at z8
  have hB1 := hB.keep X8.warmed.alike (n6 _ _ hB.1)
  have hne : s.heap.size ≠ a := (Nat.ne_of_lt (Array.getElem?_eq_some_iff.mp hB.1).1).symm
  have c9 : Steps p.tables e below (s₁.setTop (entryFrame m #[.ref a, .ref b, .int (Int32.ofNat o), .int (Int32.ofNat len), .null] 6)) (T8.setTop (mkF m 39 #[.val (.ref a), .val (.ref b), .val (.int (Int32.ofNat o)), .val (.int (Int32.ofNat len)), .val .null, .unset] [.ref s.heap.size])) := g8
  have c10 : Steps p.tables e below (s₁.setTop (entryFrame m #[.ref a, .ref b, .int (Int32.ofNat o), .int (Int32.ofNat len), .null] 6)) (T8.setTop (mkF m 45 #[.val (.ref a), .val (.ref b), .val (.int (Int32.ofNat o)), .val (.int (Int32.ofNat len)), .val .null, .val (.ref s.heap.size)] [.int (Int32.ofNat N.slots.size), .ref s.heap.size, .ref a])) := by
    have hc : Steps p.tables e below (s₁.setTop (entryFrame m #[.ref a, .ref b, .int (Int32.ofNat o), .int (Int32.ofNat len), .null] 6)) (T8.setTop (mkF m 45 #[.val (.ref a), .val (.ref b), .val (.int (Int32.ofNat o)), .val (.int (Int32.ofNat len)), .val .null, .val (.ref s.heap.size)] [.int (Int32.ofNat len), .ref s.heap.size, .ref a])) := c9.trans (by
      refine XS.astore X8.here hexec rfl (hb hbytes d39) rfl rfl rfl ?_
      refine XS.aloadN X8.here hexec rfl (hb hbytes d41) rfl rfl ?_
      refine XS.aload X8.here hexec rfl (hb hbytes d42) rfl rfl ?_
      refine XS.iloadN X8.here hexec rfl (hb hbytes d44) rfl ?_
      exact Steps.refl _)
    rw [n4]; exact hc
  obtain ⟨v11, T11, X11, E11, g11⟩ := X8.callS hexec (CodL.law l s.heap.size N) hown (wks W (staticW "java/lang/String" 47 CodL.yN)) (wk W CodL.tab) (W := 1) (Nat.le_of_ble_eq_true rfl) (Nat.le_of_ble_eq_true rfl) (Nat.le_refl _) (by show 0 + len + 0 ≤ len; omega) (g := (mkF m 45 #[.val (.ref a), .val (.ref b), .val (.int (Int32.ofNat o)), .val (.int (Int32.ofNat len)), .val .null, .val (.ref s.heap.size)] [.int (Int32.ofNat N.slots.size), .ref s.heap.size, .ref a])) rfl (by rw [hml]; rfl) c10 (argsL := [.ref s.heap.size, .int (Int32.ofNat N.slots.size)]) (rest := [.ref a]) rfl rfl (by show 2 * 0 + (1 + 0) ≤ _; decide) (hb hbytes d45) (⟨rfl, n1⟩)
  obtain ⟨rfl, q11⟩ := E11
  have hB11 := hB1.mv (X8.warmed.alike.symm.trans X11.warmed.alike) q11
  have c12 : Steps p.tables e below (s₁.setTop (entryFrame m #[.ref a, .ref b, .int (Int32.ofNat o), .int (Int32.ofNat len), .null] 6)) (T11.setTop (mkF m 48 #[.val (.ref a), .val (.ref b), .val (.int (Int32.ofNat o)), .val (.int (Int32.ofNat len)), .val .null, .val (.ref s.heap.size)] [.int 0, .ref a])) := g11
  obtain ⟨T13, X13, p13, bl13, sl13, st13⟩ := X11.finit hexec hown (wk W (.fieldLink "java/lang/String" 15 "java/lang/String" "coder" "B")) (Or.inr ⟨_, (wk W (.laysFinal "java/lang/String" "java/lang/String" "coder" "B"))⟩) (Or.inl ⟨rfl, hnm⟩) f2 (Or.inl rfl) hB11 (t := .byte) (by decide +kernel) rfl (g := (mkF m 48 #[.val (.ref a), .val (.ref b), .val (.int (Int32.ofNat o)), .val (.int (Int32.ofNat len)), .val .null, .val (.ref s.heap.size)] [.int 0, .ref a])) rfl (rest := []) rfl (hb hbytes d48)
  have c14 : Steps p.tables e below (s₁.setTop (entryFrame m #[.ref a, .ref b, .int (Int32.ofNat o), .int (Int32.ofNat len), .null] 6)) (T13.setTop (mkF m 54 #[.val (.ref a), .val (.ref b), .val (.int (Int32.ofNat o)), .val (.int (Int32.ofNat len)), .val .null, .val (.ref s.heap.size)] [.ref s.heap.size, .ref a])) := (c12.trans (st13 _ (Steps.refl _))).trans (by
    refine XS.aloadN X13.here hexec rfl (hb hbytes d51) rfl rfl ?_
    refine XS.aload X13.here hexec rfl (hb hbytes d52) rfl rfl ?_
    exact Steps.refl _)
  obtain ⟨T15, X15, p15, bl15, sl15, st15⟩ := X13.finit hexec hown (wk W (.fieldLink "java/lang/String" 9 "java/lang/String" "value" "[B")) (Or.inr ⟨_, (wk W (.laysFinal "java/lang/String" "java/lang/String" "value" "[B"))⟩) (Or.inl ⟨rfl, hnm⟩) f1 (Or.inl rfl) bl13 (t := (.array .byte)) (by decide +kernel) rfl (g := (mkF m 54 #[.val (.ref a), .val (.ref b), .val (.int (Int32.ofNat o)), .val (.int (Int32.ofNat len)), .val .null, .val (.ref s.heap.size)] [.ref s.heap.size, .ref a])) rfl (rest := []) rfl (hb hbytes d54)
  have c16 : Steps p.tables e below (s₁.setTop (entryFrame m #[.ref a, .ref b, .int (Int32.ofNat o), .int (Int32.ofNat len), .null] 6)) (T15.setTop (mkF m 57 #[.val (.ref a), .val (.ref b), .val (.int (Int32.ofNat o)), .val (.int (Int32.ofNat len)), .val .null, .val (.ref s.heap.size)] [])) := c14.trans (st15 _ (Steps.refl _))
  have ap := apart (Or.inr ⟨_, (wk W (.laysFinal "java/lang/String" "java/lang/String" "value" "[B"))⟩) (Or.inr ⟨_, (wk W (.laysFinal "java/lang/String" "java/lang/String" "coder" "B"))⟩) f1 f2 (t₁ := .array .byte) (t₂ := .byte) (by decide +kernel) (by decide +kernel) (by decide)
  have al := X8.warmed.alike.symm.trans X15.warmed.alike
  have n7 : T11.heap[s.heap.size]? = some N := by rw [q11]; exact n1.1
  exact ⟨T15, none, _, _, _, X15, by simp, rfl, by omega, (fun _ => rfl), ⟨rfl, _, N, bl15, ((Same.refl D _).set _ (by simp)).set _ (by simp), sl15, (Cell.slots_setSlot_ne _ ap).trans sl13, n1.keep al (p15.other hne (p13.other hne n7)), n2, by rw [al.findClass]; exact n3, n4, n5, fun y c h1 h2 => p15.other h1 (p13.other h1 (by rw [q11]; exact n6 y c h2)), by rw [p15.2.2, p13.2.2, q11]; exact z8⟩, fun fs hl => c16.trans (X15.returnOut hexec hret (hb hbytes d57) hl)⟩
end New4
namespace New1
def yN : MethodName := ⟨"java/lang/String", "<init>", "([C)V"⟩
abbrev yB : ByteArray := jdk_42_method_3_code
theorem d0 : decode yB 0 = .ok (.aload_n 0, 1) := by decide +kernel
theorem d1 : decode yB 1 = .ok (.aload_n 1, 1) := by decide +kernel
theorem d2 : decode yB 2 = .ok (.iconst 0, 1) := by decide +kernel
theorem d3 : decode yB 3 = .ok (.aload_n 1, 1) := by decide +kernel
theorem d4 : decode yB 4 = .ok (.arraylength, 1) := by decide +kernel
theorem d5 : decode yB 5 = .ok (.aconst_null, 1) := by decide +kernel
theorem d6 : decode yB 6 = .ok (.invokespecial 27, 3) := by decide +kernel
theorem d9 : decode yB 9 = .ok (.return_, 1) := by decide +kernel
def site : List Cond := [New4.tab] ++ initW "java/lang/String" 27 New4.yN
def tab : Cond := tabOf yN yB 2 none site
def P (a : Addr) (D : Cell) (fV fC : Field) (b : Addr) (A : Cell) (z : Int32) (args : Array Value) (s : State) : Prop := args = #[.ref a, .ref b] ∧ Blank "java/lang/String" a D s ∧ Found "java/lang/String" "value" "[B" fV s ∧ Found "java/lang/String" "coder" "B" fC s ∧ Ch b A s ∧ StaticIs s "java/lang/String" "COMPACT_STRINGS" "Z" (.int z) ∧ ¬ z = 0 ∧ 0 < A.slots.size ∧ A.slots.size ≤ 536870912 ∧ ∀ i, i < A.slots.size → ¬ 255 < cv A i
def E (a : Addr) (D : Cell) (fV fC : Field) (A : Cell) (r : Option Value) (s u : State) : Prop := Got a D fV fC A 0 A.slots.size r s u
/-- new String(chars), not empty, no char above 255: a Latin-1 String of their low bytes -/
theorem law (l : Launch) (a : Addr) (D : Cell) (fV fC : Field) (b : Addr) (A : Cell) (z : Int32) : Law l yN 2 1 3 52 yB 2 none site (P a D fV fC b A z) (E a D fV fC A) [⟨a, fC.slot⟩, ⟨a, fV.slot⟩] 1 A.slots.size := by
  refine Law.of_walk (plainFor_of_name (by decide +kernel)) (by decide +kernel) (by decide +kernel) (by decide) (fun _ _ h => by rw [h.1]; rfl) (fun _ U U' hal hh h => ⟨h.1, h.2.1.mv hal hh, h.2.2.1.al hal, h.2.2.2.1.al hal, h.2.2.2.2.1.mv hal hh, h.2.2.2.2.2.1.there hal hh, h.2.2.2.2.2.2⟩) (fun r U U' V V' h1 hal h2 h => Got.mv r U U' V V' h1 hal h2 h) ?_
  intro p e s m args below meth c s₁ X0 hexec hbytes hml hret hlk hnm hown hh0 W hP
  obtain ⟨rfl, hB, f1, f2, hA, s1, hz, l0, l2, hp⟩ := hP
  have c1 : Steps p.tables e below (s₁.setTop (entryFrame m #[.ref a, .ref b] 2)) (s₁.setTop (mkF m 0 #[.val (.ref a), .val (.ref b)] [])) := entry rfl
  have c2 : Steps p.tables e below (s₁.setTop (entryFrame m #[.ref a, .ref b] 2)) (s₁.setTop (mkF m 6 #[.val (.ref a), .val (.ref b)] [.null, .int (Int32.ofNat A.slots.size), .int 0, .ref b, .ref a])) := c1.trans (by
    refine XS.aloadN X0.here hexec rfl (hb hbytes d0) rfl rfl ?_
    refine XS.aloadN X0.here hexec rfl (hb hbytes d1) rfl rfl ?_
    refine iconstV X0.here hexec rfl 0 (hb hbytes d2) (by decide) ?_
    refine XS.aloadN X0.here hexec rfl (hb hbytes d3) rfl rfl ?_
    refine X0.alen hexec (hA.1.mv X0.warmed.alike hh0) rfl rfl (hb hbytes d4) ?_
    refine XS.aconstNull X0.here hexec rfl (hb hbytes d5) ?_
    exact Steps.refl _)
  obtain ⟨v3, T3, X3, E3, g3⟩ := X0.callN hexec (New4.law l a D fV fC b A z 0 A.slots.size) rfl hown (wks W (initW "java/lang/String" 27 New4.yN)) (W New4.tab (by simp only [site, List.mem_cons, List.mem_append, true_or, or_true])) (W := 0) (Nat.le_of_ble_eq_true rfl) (Nat.le_of_ble_eq_true rfl) (Nat.le_refl _) (by show 0 + A.slots.size ≤ A.slots.size; omega) (g := (mkF m 6 #[.val (.ref a), .val (.ref b)] [.null, .int (Int32.ofNat A.slots.size), .int (Int32.ofNat 0), .ref b, .ref a])) rfl (by rw [hml]; rfl) c2 (argsL := [.ref b, .int (Int32.ofNat 0), .int (Int32.ofNat A.slots.size), .null]) (rest := []) rfl rfl (by show 2 * 0 + 0 ≤ _; decide) (hb hbytes d6) (⟨rfl, hB.mv X0.warmed.alike hh0, f1.al X0.warmed.alike, f2.al X0.warmed.alike, hA.mv X0.warmed.alike hh0, s1.there X0.warmed.alike hh0, hz, l0, by omega, l2, fun i hi => by rw [Nat.zero_add]; exact hp i hi⟩)
  have e0 := Got.mv _ s₁ s _ _ hh0.symm (Vm.Alike.refl _) rfl E3
  obtain rfl := e0.1
  have c4 : Steps p.tables e below (s₁.setTop (entryFrame m #[.ref a, .ref b] 2)) (T3.setTop (mkF m 9 #[.val (.ref a), .val (.ref b)] [])) := g3
  exact ⟨T3, none, _, _, _, X3, by simp, rfl, by omega, (fun _ => rfl), e0, fun fs hl => c4.trans (X3.returnOut hexec hret (hb hbytes d9) hl)⟩
theorem pays {l : Launch} {R : Room} {p : Program} {e : Env} {below : List Frame} {s : State} {sargs : Array Value} {len W : Nat} (a : Addr) (D : Cell) (fV fC : Field) (b : Addr) (A : Cell) (z : Int32) (htab : tab.before sargs s = true) (hfr : 4 ≤ R.frames) (hlo : W + 65 ≤ R.locals) :
    Back l R p e below s sargs yN len W (fun A₁ a₁ => A₁.cells + 1 ≤ R.cells ∧ A₁.slots + A.slots.size ≤ R.slots ∧ P a D fV fC b A z a₁ A₁.U) (fun A₁ _ v₁ B₁ => E a D fV fC A v₁ A₁.U B₁.U ∧ B₁.locs = A₁.locs ++ [⟨a, fC.slot⟩, ⟨a, fV.slot⟩] ∧ B₁.cells = A₁.cells + 1 ∧ B₁.slots = A₁.slots + A.slots.size) :=
  (law l a D fV fC b A z).pays htab hfr (by omega)
end New1
/-- the byte, read back as charAt reads it, is the char -/
theorem lo8_mask {x : Int32} (h0 : ¬ x < 0) (h1 : ¬ 255 < x) : lo8 x &&& 255 = x := by
  have t : ∀ k : Fin 256, lo8 (Int32.ofNat k.val) &&& 255 = Int32.ofNat k.val := by decide +kernel
  rw [Int32.lt_iff_toInt_lt] at h0 h1
  have e0 : (0 : Int32).toInt = 0 := rfl
  have e1 : (255 : Int32).toInt = 255 := rfl
  obtain ⟨k, hk⟩ : ∃ k : Nat, x.toInt = k := ⟨x.toInt.toNat, by omega⟩
  have hx : x = Int32.ofNat k := Int32.toInt_inj.mp (by rw [hk, Int32.toInt_ofNat_small (by omega)])
  rw [hx]
  exact t ⟨k, by omega⟩
end StrChars
namespace StrChars.Road
open Jvm Sem ClassFile Op Lib Jvm.Stand Jvm.Free Jvm.Free.XT
open Jvm.Lib.Cold (StaticIs)
abbrev ST : String := "java/lang/String"
/-- every table word that New1's law asks, flat -/
abbrev words : List Jvm.Cond := [.code New1.yN New1.yB 2 none, .initialized ST, .methodLink ST 27 New4.yN, .instanceMethod New4.yN,
  .code New4.yN New4.yB 6 none, .fieldLink ST 38 ST "COMPACT_STRINGS" "Z", .laysFinal ST ST "value" "[B", .fieldLink ST 9 ST "value" "[B", .laysFinal ST ST "coder" "B", .fieldLink ST 15 ST "coder" "B",
  .methodLink ST 1 Lib.objectInit, .instanceMethod Lib.objectInit, .code Lib.objectInit ⟨#[0xb1]⟩ 1 none, .methodLink ST 177 Cmp3.yN, .static Cmp3.yN, .methodLink ST 47 CodL.yN, .static CodL.yN,
  .code Cmp3.yN Cmp3.yB 6 (some (.array .byte)), .initialized U16, .arrayClass .byte, .methodLink U16 115 Cmp5.yN, .static Cmp5.yN, .code Cmp5.yN Cmp5.yB 7 (some .int), .code CodL.yN CodL.yB 2 (some .byte)]
theorem tab_of {a : Array Value} {s : State} (h : ∀ w ∈ words, w.before a s = true) : New1.tab.before a s = true := by
  have h5 : Cmp5.tab.before a s = true := unparts (wk h (.code Cmp5.yN Cmp5.yB 7 (some .int))) (wks h (.initialized Cmp5.yN.cls :: Cmp5.site))
  have hc : CodL.tab.before a s = true := unparts (wk h (.code CodL.yN CodL.yB 2 (some .byte))) (wks h (.initialized CodL.yN.cls :: CodL.site))
  have q5 : ∀ w ∈ Cmp5.tab :: words, w.before a s = true := fun w hw => (List.mem_cons.mp hw).elim (fun e => e ▸ h5) (h w)
  have h3 : Cmp3.tab.before a s = true := unparts (wk q5 (.code Cmp3.yN Cmp3.yB 6 (some (.array .byte)))) (wks q5 (.initialized Cmp3.yN.cls :: Cmp3.site))
  have q3 : ∀ w ∈ Cmp3.tab :: CodL.tab :: words, w.before a s = true := fun w hw => (List.mem_cons.mp hw).elim (fun e => e ▸ h3) fun hw => (List.mem_cons.mp hw).elim (fun e => e ▸ hc) (h w)
  have h4 : New4.tab.before a s = true := unparts (wk q3 (.code New4.yN New4.yB 6 none)) (wks q3 (.initialized New4.yN.cls :: New4.site))
  have q4 : ∀ w ∈ New4.tab :: words, w.before a s = true := fun w hw => (List.mem_cons.mp hw).elim (fun e => e ▸ h4) (h w)
  exact unparts (wk q4 (.code New1.yN New1.yB 2 none)) (wks q4 (.initialized New1.yN.cls :: New1.site))
/-- the words ride from the start Z to the walk's own state -/
theorem moved {Z s : State} {a0 args : Array Value} (hZ : Z.Warmed39 s.vm) (hw : ∀ d ∈ words, d.before a0 Z = true) : ∀ d ∈ words, d.before args s = true := fun d hd => by
  have q := hw d hd
  have t : ∀ d ∈ words, d = .arrayClass .byte ∨ (d.onTables && d.keepsFace) = true := by decide +kernel
  rcases t d hd with rfl | t
  · exact RoadKit.mvA hZ q
  · exact RoadKit.mv hZ q t
/-- WHAT COMES BACK, over the tables of the start Z: h the heap at the call, h' behind it -/
def Q (Z : State) (x : Addr) (A : Cell) (h : Heap) (v : Option Value) (h' : Heap) (L : List Loc) : Prop := v = none ∧ (∀ y ∈ L, y.base = x) ∧ RoadKit.Keep h h' [x] ∧ h'.size = h.size + 1 ∧ RoadKit.Exa Z h' x ST ∧ RoadKit.Fld Z h' x ST "value" "[B" (.ref h.size) ∧ RoadKit.Fld Z h' x ST "coder" "B" (.int 0) ∧
  (∃ V : Cell, RoadKit.Arr Z h' h.size V .byte ∧ V.vm = .none ∧ Z.vm.findClass "[B" = some V.cls ∧ V.slots.size = A.slots.size ∧ ∀ j, j < A.slots.size → V.slots[j]? = some (.int (lo8 (cv A j)))) ∧
  ∀ (O n d : String) (w : Value), RoadKit.Fld Z h x O n d w → RoadKit.slotOf Z O n d ≠ RoadKit.slotOf Z ST "value" "[B" → RoadKit.slotOf Z O n d ≠ RoadKit.slotOf Z ST "coder" "B" → RoadKit.Fld Z h' x O n d w
/-- **new String(chars) AT A CALL, IN THE ROAD'S FORM**: for specialBack behind newO: x the fresh String, b the char[] with the cell A -/
theorem back {p : Program} {l : Launch} {e : Env} {R : Room} {s : State} {args : Array Value} {below : List Frame} {len W : Nat} {Z : State} {a0 : Array Value} {h : Heap} (hZ : Z.Warmed39 s.vm) (hw : ∀ d ∈ words, d.before a0 Z = true) {kI : Nat} (wi : (Jvm.Cond.instantiable ST kI).before a0 Z = true)
    {x b : Addr} {A : Cell} {z : Int32} {v0 c0 : Value} (E : RoadKit.Exa Z h x ST) (V : RoadKit.Fld Z h x ST "value" "[B" v0) (C : RoadKit.Fld Z h x ST "coder" "B" c0) (K : RoadKit.Arr Z h b A .char) (hty : Typed .char A) (S : RoadKit.Sta Z h ST "COMPACT_STRINGS" "Z" (.int z)) (hz : ¬ z = 0)
    (l0 : 0 < A.slots.size) (l2 : A.slots.size ≤ 536870912) (hp : ∀ i, i < A.slots.size → ¬ 255 < cv A i) (hfr : 4 ≤ R.frames) (hlo : W + 65 ≤ R.locals) :
    Back l R p e below s args New1.yN len W (fun P a => a = #[.ref x, .ref b] ∧ P.U.heap = h ∧ P.cells + 1 ≤ R.cells ∧ P.slots + A.slots.size ≤ R.slots)
      (fun P _ v B => ∃ L, Q Z x A h v B.U.heap L ∧ B.locs = P.locs ++ L ∧ B.cells = P.cells + 1 ∧ B.slots = P.slots + A.slots.size) := by
  intro m meth c P g ig mk a X hg hsize hdg hW hn hp'
  obtain ⟨rfl, rfl, r1, r2⟩ := hp'
  have al : Z.vm.Alike P.U.vm := hZ.alike.trans X.warmed.alike
  obtain ⟨D, cfV, kV, iV, fV, hD, gV, stV, knV, obV, asV, slV⟩ := id V
  obtain ⟨D', cfC, kC, iC, fC, hD', gC, stC, -, -, asC, slC⟩ := id C
  cases hD.symm.trans hD'
  obtain ⟨D2, kD, e1, e2, e3, e4, e5⟩ := id E
  cases hD.symm.trans e1
  obtain ⟨c2, k2, i1, i2, i3, -⟩ := Cond.instantiable_spec wi
  cases e2.symm.trans i1
  cases e3.symm.trans i2
  obtain ⟨kU, u1, u2⟩ := al.2.2 _ _ e3
  have hB : Blank ST x D P.U := ⟨hD, ⟨knV, fun q hq => by rw [hq] at obV; cases obV⟩, by rw [al.findClass]; exact e2, kU, u1, by rw [u2]; exact i3, by rw [u2]; exact e5 i3⟩
  have F1 : Found ST "value" "[B" fV P.U := ⟨SBG.found_only al ⟨cfV, kV, iV, gV⟩, stV⟩
  have F2 : Found ST "coder" "B" fC P.U := ⟨SBG.found_only al ⟨cfC, kC, iC, gC⟩, stC⟩
  have hA : Ch b A P.U := ⟨⟨K.1, State.isArrayOf_alike al K.2.1, K.2.2, by omega⟩, hty⟩
  have hS : StaticIs P.U ST "COMPACT_STRINGS" "Z" (.int z) := by
    obtain ⟨cfS, iS, kS, fS, st, cS, t1, t2, t3, t4, t5, t6, t7⟩ := S
    exact StaticIs.there (s := { Z with heap := P.U.heap }) ⟨cfS, iS, kS, fS, st, cS, t1, t2, t3, t4, t5, (fun q => by rw [q] at t6; cases t6), t7⟩ al rfl
  obtain ⟨v, B, X', ⟨⟨hv, E', V', q1, q2, q3, q4, q5, q6, q7, q8, q9, q10, q11⟩, hl, hc, hs⟩, st⟩ := New1.pays x D fV fC b A z (tab_of (moved hZ hw)) hfr hlo m meth c P g ig mk _ X hg hsize hdg hW hn ⟨r1, r2, rfl, hB, F1, F2, hA, hS, hz, l0, l2, hp⟩
  have al' : Z.vm.Alike B.U.vm := hZ.alike.trans X'.warmed.alike
  have hsz : E'.slots.size = D.slots.size := by
    obtain ⟨-, -, -, kB, w1, w2, w3⟩ := q1
    obtain ⟨kB', y1, y2⟩ := al'.2.2 _ _ e3
    rw [q2.2.1] at w1
    cases w1.symm.trans y1
    rw [w3, e5 i3, y2]
  refine ⟨v, B, X', ⟨_, ⟨hv, ?_, ⟨by omega, fun y cy hy hn' => q10 y cy (by simpa using hn') hy, fun y cy hy => ?_⟩, q11, ⟨E', _, q1.1, by rw [q2.2.1]; exact e2, by rw [q2.2.1]; exact e3, by rw [q2.1]; exact obV, fun _ => by rw [hsz]; exact e5 i3⟩,
    ⟨E', cfV, kV, iV, fV, q1.1, gV, stV, by rw [q2.1]; exact knV, by rw [q2.1]; exact obV, by rw [q2.2.1]; exact asV, q3⟩, ⟨E', cfC, kC, iC, fC, q1.1, gC, stC, by rw [q2.1]; exact knV, by rw [q2.1]; exact obV, by rw [q2.2.1]; exact asC, q4⟩,
    ⟨V', ⟨q5.1, State.isArrayOf_alike al'.symm q5.2.1, q5.2.2.1⟩, q6, by rw [← al'.findClass]; exact q7, q8, fun j hj => by have := q9 j hj; rwa [Nat.zero_add] at this⟩, fun O n d w F n1 n2 => ?_⟩, hl, hc, hs⟩, st⟩
  · intro y hy
    simp only [List.mem_cons, List.not_mem_nil, or_false] at hy
    rcases hy with rfl | rfl <;> rfl
  · by_cases q : y = x
    · subst q
      cases hD.symm.trans hy
      exact ⟨E', q1.1, q2.2.1, q2.1, hsz⟩
    · exact ⟨cy, q10 y cy q hy, rfl, rfl, rfl⟩
  · obtain ⟨D3, cf, k, i, f, g1, g2, g3, g4, g5, g6, g7⟩ := F
    cases hD.symm.trans g1
    simp only [RoadKit.slotOf, g2, gV, gC, Option.map_some, Option.getD_some] at n1 n2
    exact ⟨E', cf, k, i, f, q1.1, g2, g3, by rw [q2.1]; exact g4, by rw [q2.1]; exact g5, by rw [q2.2.1]; exact g6, by rw [q2.2.2 f.slot (by simp [n1, n2])]; exact g7⟩
end StrChars.Road
namespace StrChars.Road
open Jvm Sem ClassFile Op Lib Jvm.Stand Jvm.Free Jvm.Free.XT
/-- WHAT COMES BACK, the byte[] as a list of values -/
def QA (Z : State) (x : Addr) (zn : Int32) (cs : List Int32) (h : Heap) (v : Option Value) (h' : Heap) (L : List Loc) : Prop := v = none ∧ (∀ y ∈ L, y.base = x) ∧ RoadKit.Keep h h' [x] ∧ h'.size = h.size + 1 ∧ RoadKit.Exa Z h' x ST ∧ RoadKit.Fld Z h' x ST "value" "[B" (.ref h.size) ∧ RoadKit.Fld Z h' x ST "coder" "B" (.int 0) ∧
  (∃ kb, Z.vm.findClass "[B" = some kb ∧ RoadKit.Arv Z h' h.size kb .byte zn (cs.map fun c => .int (lo8 c)) (.int 0)) ∧
  ∀ (O n d : String) (w : Value), RoadKit.Fld Z h x O n d w → RoadKit.slotOf Z O n d ≠ RoadKit.slotOf Z ST "value" "[B" → RoadKit.slotOf Z O n d ≠ RoadKit.slotOf Z ST "coder" "B" → RoadKit.Fld Z h' x O n d w
/-- **new String(chars) AT A CALL, THE ARRAYS AS LISTS**: the char[] at b holds cs, not empty, no char above 255 -/
theorem backArv {p : Program} {l : Launch} {e : Env} {R : Room} {s : State} {args : Array Value} {below : List Frame} {len W : Nat} {Z : State} {a0 : Array Value} {h : Heap} (hZ : Z.Warmed39 s.vm) (hw : ∀ d ∈ words, d.before a0 Z = true) {kI : Nat} (wi : (Jvm.Cond.instantiable ST kI).before a0 Z = true)
    {x b : Addr} {k : ClassId} {zn z : Int32} {cs : List Int32} {dv v0 c0 : Value} (E : RoadKit.Exa Z h x ST) (V : RoadKit.Fld Z h x ST "value" "[B" v0) (C : RoadKit.Fld Z h x ST "coder" "B" c0) (K : RoadKit.Arv Z h b k .char zn (cs.map Value.int) dv) (S : RoadKit.Sta Z h ST "COMPACT_STRINGS" "Z" (.int z)) (hz : ¬ z = 0)
    (hlen : zn.toNatClampNeg = cs.length) (h0 : 0 < cs.length) (hbig : cs.length ≤ 536870912) (hall : ∀ c ∈ cs, ¬ 255 < c) (hfr : 4 ≤ R.frames) (hlo : W + 65 ≤ R.locals) :
    Back l R p e below s args New1.yN len W (fun P a => a = #[.ref x, .ref b] ∧ P.U.heap = h ∧ P.cells + 1 ≤ R.cells ∧ P.slots + cs.length ≤ R.slots)
      (fun P _ v B => ∃ L, QA Z x zn cs h v B.U.heap L ∧ B.locs = P.locs ++ L ∧ B.cells = P.cells + 1 ∧ B.slots = P.slots + cs.length) := by
  obtain ⟨A, K1, K2, K3, K4, K5, K6⟩ := K
  have e : A.slots.size = cs.length := K3.trans hlen
  have hat : ∀ (i : Nat) (hi : i < cs.length), A.slots[i]? = some (.int cs[i]) := fun i hi => by rw [K5 i (by omega)]; simp [List.getD_eq_getElem?_getD, hi]
  have hcv : ∀ (i : Nat) (hi : i < cs.length), cv A i = cs[i] := fun i hi => by unfold cv; rw [hat i hi]
  have hty : Typed .char A := fun i v hv => by
    have hi : i < A.slots.size := (Array.getElem?_eq_some_iff.mp hv).1
    have q := K5 i hi
    rw [hv] at q
    rw [Option.some.inj q]
    exact K6 i hi
  refine Back.mono (back hZ hw wi E V C K1 hty S hz (by omega) (by omega) (fun i hi => by rw [hcv i (by omega)]; exact hall _ (List.getElem_mem _)) hfr hlo) (fun P a hp => ⟨hp.1, hp.2.1, hp.2.2.1, by rw [e]; exact hp.2.2.2⟩) (fun P a v B hp hq => ?_)
  obtain ⟨L, ⟨q1, q2, q3, q4, q5, q6, q7, ⟨V', v1, v2, v3, v4, v5⟩, q9⟩, hl, hc, hs⟩ := hq
  refine ⟨L, ⟨q1, q2, q3, q4, q5, q6, q7, ⟨V'.cls, v3, V', v1, rfl, by rw [v4, e, hlen], K4, fun i hi => ?_, fun i hi => ?_⟩, q9⟩, hl, hc, by rw [hs, e]⟩
  · have hi' : i < cs.length := by omega
    rw [v5 i (by omega), hcv i hi']; simp [List.getD_eq_getElem?_getD, hi']
  · have hi' : i < cs.length := by omega
    simp only [List.getD_eq_getElem?_getD, List.getElem?_map, List.getElem?_eq_getElem hi', Option.map_some, Option.getD_some]
    exact fits_lo8 _
end StrChars.Road
namespace StrChars.Road
open Jvm Sem ClassFile Op Lib Jvm.Stand Jvm.Free Jvm.Free.XT
/-- WHAT COMES BACK, in the writer's own shape -/
def QV (Z : State) (x : Addr) (N : Int32) (bs : List Int32) (h : Heap) (n0 : Nat) (v : Option Value) (h' : Heap) (L : List Loc) : Prop := v = none ∧ RoadKit.Fr n0 L ∧ RoadKit.Keep h h' [x] ∧ RoadKit.Exa Z h' x ST ∧ RoadKit.Fld Z h' x ST "coder" "B" (.int 0) ∧
  ∃ (t : Addr) (kb : ClassId), n0 ≤ t ∧ h.size ≤ t ∧ ¬ t = x ∧ RoadKit.Fld Z h' x ST "value" "[B" (.ref t) ∧ RoadKit.Arv Z h' t kb .byte N (bs.map Value.int) (.int 0)
/-- **new String(chars) AT A CALL, FOR THE WRITER**: a char[] of n known ints, each 0 to 255 -/
theorem backV {p : Program} {l : Launch} {e : Env} {R : Room} {s : State} {args : Array Value} {below : List Frame} {len W : Nat} {Z : State} {a0 : Array Value} {h : Heap} (hZ : Z.Warmed39 s.vm) (hw : ∀ d ∈ words, d.before a0 Z = true) {kI : Nat} (wi : (Jvm.Cond.instantiable ST kI).before a0 Z = true)
    {x b : Addr} {kC : ClassId} {cs bs : List Int32} {d v0 c0 : Value} {z N : Int32} {n n0 : Nat} (hx0 : n0 ≤ x) (hh0 : n0 ≤ h.size) (E : RoadKit.Exa Z h x ST) (V : RoadKit.Fld Z h x ST "value" "[B" v0) (C : RoadKit.Fld Z h x ST "coder" "B" c0) (K : RoadKit.Arv Z h b kC .char N (cs.map Value.int) d) (S : RoadKit.Sta Z h ST "COMPACT_STRINGS" "Z" (.int z)) (hz : ¬ z = 0)
    (hn : cs.length = n) (hN : N = Int32.ofNat n) (l0 : 0 < n) (l2 : n ≤ 4000) (hp : ∀ c ∈ cs, ¬ c < 0 ∧ ¬ (255 : Int32) < c) (hb : bs = cs.map (fun c => c.toInt8.toInt32)) (hfr : 4 ≤ R.frames) (hlo : W + 65 ≤ R.locals) :
    Back l R p e below s args (⟨"java/lang/String", "<init>", "([C)V"⟩ : MethodName) len W (fun P a => a = #[.ref x, .ref b] ∧ P.U.heap = h ∧ P.cells + 1 ≤ R.cells ∧ P.slots + n ≤ R.slots)
      (fun P _ v B => ∃ L, QV Z x N bs h n0 v B.U.heap L ∧ B.locs = P.locs ++ L ∧ B.cells = P.cells + 1 ∧ B.slots = P.slots + n) := by
  subst hn hN hb
  refine Back.mono (backArv hZ hw wi E V C K S hz (n32 (by omega)) l0 (by omega) (fun c hc => (hp c hc).2) hfr hlo) (fun P a hp => hp) (fun P a v B hp hq => ?_)
  obtain ⟨L, ⟨q1, q2, q3, q4, q5, q6, q7, ⟨kb, v1, v2⟩, q9⟩, hl, hc, hs⟩ := hq
  exact ⟨L, ⟨q1, fun y hy => by rw [q2 y hy]; exact hx0, q3, q5, q7, h.size, kb, hh0, Nat.le_refl _, Nat.ne_of_gt E.lt, q6, by rw [List.map_map]; exact v2⟩, hl, hc, hs⟩
end StrChars.Road
namespace StrChars
open Jvm Sem ClassFile Op Lib Jvm.Stand Jvm.Free.XT Jvm.Free.ALB Jvm.Free.JM Jvm.Free
open Jvm.Lib.Cold (StaticIs)
def hi8 (x : Int32) : Int32 := lo8 (x >>> ((8 : Int32) &&& 31))
/-- what StringUTF16.getChar makes of two bytes -/
def pairCh (u v : Int32) : Int32 := (((u &&& 255) <<< ((0 : Int32) &&& 31)) ||| ((v &&& 255) <<< ((8 : Int32) &&& 31))).toUInt32.toUInt16.toUInt32.toInt32
theorem shr0 (c : Int32) : c >>> ((0 : Int32) &&& 31) = c := by
  have e : ((0 : Int32) &&& 31) = 0 := by decide
  rw [e]
  apply Int32.toBitVec_inj.mp
  rw [Int32.toBitVec_shiftRight]
  have e1 : ((0 : Int32).toBitVec.smod 32) = 0#32 := by decide
  rw [e1, BitVec.sshiftRight_eq']
  exact BitVec.sshiftRight_zero
theorem lo8_and (x : Int32) : (lo8 x &&& 255).toBitVec.toNat = x.toBitVec.toNat % 256 := by
  have h : (lo8 x).toBitVec = (x.toBitVec.signExtend 8).signExtend 32 := by rw [lo8, Int8.toBitVec_toInt32, Int32.toBitVec_toInt8]
  rw [Int32.toBitVec_and, BitVec.toNat_and, h]
  have e : ((x.toBitVec.signExtend 8).signExtend 32).toNat % 256 = x.toBitVec.toNat % 256 := by
    rw [BitVec.toNat_signExtend]
    have hlt := x.toBitVec.isLt
    simp only [BitVec.toNat_setWidth, BitVec.toNat_signExtend]
    split <;> split <;> omega
  rw [← e]
  exact Nat.and_two_pow_sub_one_eq_mod _ 8
theorem pair_says {c : Int32} (h0 : ¬ c < 0) (h1 : ¬ 65535 < c) : pairCh (lo8 c) (hi8 c) = c := by
  rw [Int32.lt_iff_toInt_lt] at h0 h1
  have e0 : (0 : Int32).toInt = 0 := rfl
  have e1 : (65535 : Int32).toInt = 65535 := rfl
  have hc : c.toInt = c.toBitVec.toNat := by
    have := c.toBitVec.isLt
    have e : c.toInt = c.toBitVec.toInt := rfl
    rw [e] at h0 h1
    rw [e]
    rw [BitVec.toInt_eq_toNat_cond] at h0 h1 ⊢
    split at h0 <;> split <;> omega
  have hn : c.toBitVec.toNat < 65536 := by omega
  have a1 := lo8_and c
  have a2 : (hi8 c &&& 255).toBitVec.toNat = c.toBitVec.toNat / 256 := by
    rw [hi8, lo8_and]
    have e : ((8 : Int32) &&& 31) = 8 := by decide
    rw [e, Int32.toBitVec_shiftRight]
    have e2 : ((8 : Int32).toBitVec.smod 32) = 8#32 := by decide
    rw [e2, BitVec.sshiftRight_eq', BitVec.toNat_sshiftRight_of_msb_false (by rw [BitVec.msb_eq_false_iff_two_mul_lt]; omega)]
    show c.toBitVec.toNat >>> 8 % 256 = _
    rw [Nat.shiftRight_eq_div_pow]
    omega
  unfold pairCh
  apply Int32.toBitVec_inj.mp
  apply BitVec.eq_of_toNat_eq
  have f0 : ((0 : Int32) &&& 31) = 0 := by decide
  have f8 : ((8 : Int32) &&& 31) = 8 := by decide
  rw [f0, f8]
  have g : (((lo8 c &&& 255) <<< (0 : Int32)) ||| ((hi8 c &&& 255) <<< (8 : Int32))).toBitVec.toNat = c.toBitVec.toNat := by
    rw [Int32.toBitVec_or, Int32.toBitVec_shiftLeft, Int32.toBitVec_shiftLeft]
    have s0 : ((0 : Int32).toBitVec.smod 32) = 0#32 := by decide
    have s8 : ((8 : Int32).toBitVec.smod 32) = 8#32 := by decide
    rw [s0, s8, BitVec.toNat_or]
    simp only [BitVec.shiftLeft_eq', BitVec.toNat_shiftLeft, a1, a2]
    show (c.toBitVec.toNat % 256) <<< 0 % 2 ^ 32 ||| (c.toBitVec.toNat / 256) <<< 8 % 2 ^ 32 = _
    rw [Nat.shiftLeft_zero, Nat.mod_eq_of_lt (show c.toBitVec.toNat % 256 < 2 ^ 32 by omega), Nat.mod_eq_of_lt (show (c.toBitVec.toNat / 256) <<< 8 < 2 ^ 32 by rw [Nat.shiftLeft_eq]; omega), Nat.or_comm, ← Nat.shiftLeft_add_eq_or_of_lt (by omega), Nat.shiftLeft_eq]
    omega
  show BitVec.toNat (((((lo8 c &&& 255) <<< (0 : Int32)) ||| ((hi8 c &&& 255) <<< (8 : Int32))).toBitVec.setWidth 16).setWidth 32) = _
  rw [BitVec.toNat_setWidth, BitVec.toNat_setWidth, g]
  omega
end StrChars
namespace StrChars
open Jvm Sem ClassFile Op Lib Jvm.Stand Jvm.Free.XT Jvm.Free.ALB Jvm.Free.JM Jvm.Free
open Jvm.Lib.Cold (StaticIs)
theorem shr1 {n : Nat} (h : 2 * n < 2 ^ 31) : Int32.ofNat (2 * n) >>> ((1 : Int32) &&& 31) = Int32.ofNat n := by
  have e : ((1 : Int32) &&& 31) = 1 := by decide
  rw [e]
  apply Int32.toBitVec_inj.mp
  rw [Int32.toBitVec_shiftRight]
  have e1 : ((1 : Int32).toBitVec.smod 32) = 1#32 := by decide
  have hm : (BitVec.ofNat 32 (2 * n)).toNat = 2 * n := by rw [BitVec.toNat_ofNat, Nat.mod_eq_of_lt (by omega)]
  rw [e1, BitVec.sshiftRight_eq']
  apply BitVec.eq_of_toNat_eq
  show ((BitVec.ofNat 32 (2 * n)).sshiftRight 1).toNat = (BitVec.ofNat 32 n).toNat
  rw [BitVec.toNat_sshiftRight_of_msb_false (by rw [BitVec.msb_eq_false_iff_two_mul_lt, hm]; omega), hm, BitVec.toNat_ofNat, Nat.shiftRight_eq_div_pow]
  omega
/-- charAt's cast of a byte read back -/
def chr8 (u : Int32) : Int32 := (u &&& 255).toUInt32.toUInt16.toUInt32.toInt32
theorem chr8_lo8 {c : Int32} (h0 : ¬ c < 0) (h1 : ¬ 255 < c) : chr8 (lo8 c) = c := by
  have t : ∀ k : Fin 256, (Int32.ofNat k.val).toUInt32.toUInt16.toUInt32.toInt32 = Int32.ofNat k.val := by decide +kernel
  unfold chr8
  rw [lo8_mask h0 h1]
  rw [Int32.lt_iff_toInt_lt] at h0 h1
  have e0 : (0 : Int32).toInt = 0 := rfl
  have e1 : (255 : Int32).toInt = 255 := rfl
  obtain ⟨k, hk⟩ : ∃ k : Nat, c.toInt = k := ⟨c.toInt.toNat, by omega⟩
  have hx : c = Int32.ofNat k := Int32.toInt_inj.mp (by rw [hk, Int32.toInt_ofNat_small (by omega)])
  rw [hx]
  exact t ⟨k, by omega⟩
theorem narrow_ch {c : Int32} (h0 : ¬ c < 0) (h1 : ¬ 65535 < c) : narrow .char (.int c) = .int c := by
  have q : narrow .char (.int (pairCh (lo8 c) (hi8 c))) = .int (pairCh (lo8 c) (hi8 c)) := narrow_c _
  rwa [pair_says h0 h1] at q
/-- the array's cell V codes the n chars f 0 .. f (n - 1) by the coder cd, as the JDK does: coder 1 just where some char is above 255 -/
def Cod (cd : Int32) (n : Nat) (f : Nat → Int32) (V : Cell) : Prop := (cd = 0 ∧ V.slots.size = n ∧ ∀ j, j < n → V.slots[j]? = some (.int (lo8 (f j))) ∧ ¬ 255 < f j) ∨ (cd = 1 ∧ V.slots.size = 2 * n ∧ (∀ j, j < n → V.slots[2 * j]? = some (.int (lo8 (f j))) ∧ V.slots[2 * j + 1]? = some (.int (hi8 (f j)))) ∧ ∃ j, j < n ∧ 255 < f j)
theorem Cod.cd {cd : Int32} {n : Nat} {f : Nat → Int32} {V : Cell} (h : Cod cd n f V) : cd = 0 ∨ cd = 1 := h.imp (fun q => q.1) fun q => q.1
theorem Cod.len {cd : Int32} {n : Nat} {f : Nat → Int32} {V : Cell} (h : Cod cd n f V) (hs : V.slots.size < 2 ^ 31) : Int32.ofNat V.slots.size >>> (cd &&& 31) = Int32.ofNat n := by
  rcases h with ⟨rfl, h, -⟩ | ⟨rfl, h, -⟩
  · rw [shr0, h]
  · rw [h, shr1 (by omega)]
/-- **x is a String of the n chars f 0 .. f (n - 1)**, Latin-1 or UTF-16; its array at t has the cell V -/
def Txt (x t : Addr) (V : Cell) (cd : Int32) (n : Nat) (f : Nat → Int32) (U : State) : Prop := Exact "java/lang/String" x U ∧ Has x "java/lang/String" "value" "[B" (.ref t) U ∧ Has x "java/lang/String" "coder" "B" (.int cd) U ∧ XT.Arr .byte t V U ∧ Cod cd n f V ∧ ∀ j, j < n → ¬ f j < 0 ∧ ¬ 65535 < f j
theorem Txt.mv {x t : Addr} {V : Cell} {cd : Int32} {n : Nat} {f : Nat → Int32} {U U' : State} (h : Txt x t V cd n f U) (hal : U.vm.Alike U'.vm) (hh : U'.heap = U.heap) : Txt x t V cd n f U' := ⟨h.1.mv hal hh, h.2.1.mv hal hh, h.2.2.1.mv hal hh, h.2.2.2.1.mv hal hh, h.2.2.2.2⟩
namespace Cdr
def yN : MethodName := ⟨"java/lang/String", "coder", "()B"⟩
abbrev yB : ByteArray := jdk_42_method_152_code
theorem d0 : decode yB 0 = .ok (.getstatic 38, 3) := by decide +kernel
theorem d3 : decode yB 3 = .ok (.ifCond (.eq) 10, 3) := by decide +kernel
theorem d6 : decode yB 6 = .ok (.aload_n 0, 1) := by decide +kernel
theorem d7 : decode yB 7 = .ok (.getfield 15, 3) := by decide +kernel
theorem d10 : decode yB 10 = .ok (.goto 4, 3) := by decide +kernel
theorem d14 : decode yB 14 = .ok (.ireturn, 1) := by decide +kernel
def site : List Cond := [.fieldLink "java/lang/String" 38 "java/lang/String" "COMPACT_STRINGS" "Z", .fieldLink "java/lang/String" 15 "java/lang/String" "coder" "B"]
def tab : Cond := tabOf yN yB 1 (some .byte) site
def P (x : Addr) (cd z : Int32) (args : Array Value) (s : State) : Prop := args = #[.ref x] ∧ Has x "java/lang/String" "coder" "B" (.int cd) s ∧ (cd = 0 ∨ cd = 1) ∧ StaticIs s "java/lang/String" "COMPACT_STRINGS" "Z" (.int z) ∧ ¬ z = 0
def E (cd : Int32) (r : Option Value) (s u : State) : Prop := XT.PureE (some (.int cd)) r s u
theorem law (l : Launch) (x : Addr) (cd z : Int32) : Law l yN 1 0 0 0 yB 1 (some .byte) site (P x cd z) (E cd) [] 0 0 := by
  refine Law.of_walk (plainFor_of_name (by decide +kernel)) (by decide +kernel) (by decide +kernel) (by decide) (fun _ _ h => by rw [h.1]; rfl) (fun _ U U' hal hh h => ⟨h.1, h.2.1.mv hal hh, h.2.2.1, h.2.2.2.1.there hal hh, h.2.2.2.2⟩) (fun r U U' V V' h1 hal h2 h => XT.PureE.mv r U U' V V' h1 hal h2 h) ?_
  intro p e s m args below meth c s₁ X0 hexec hbytes hml hret hlk hnm hown hh0 W hP
  obtain ⟨rfl, hx, hc, s1, hz⟩ := hP
  have c1 : Steps p.tables e below (s₁.setTop (entryFrame m #[.ref x] 1)) (s₁.setTop (mkF m 0 #[.val (.ref x)] [])) := entry rfl
  obtain ⟨T2, X2, q2, st2⟩ := X0.sget hexec hown (wk W (.fieldLink "java/lang/String" 38 "java/lang/String" "COMPACT_STRINGS" "Z")) s1 (fun _ _ h => by rw [hh0]; exact h) (g := (mkF m 0 #[.val (.ref x)] [])) rfl (hb hbytes d0)
  have hh2 := q2.trans hh0
  have c3 : Steps p.tables e below (s₁.setTop (entryFrame m #[.ref x] 1)) (T2.setTop (mkF m 7 #[.val (.ref x)] [.ref x])) := (c1.trans (st2 _ (Steps.refl _))).trans (by
    refine XS.ifNo X2.here hexec rfl (hb hbytes d3) rfl (i0_eq_f hz) ?_
    refine XS.aloadN X2.here hexec rfl (hb hbytes d6) rfl rfl ?_
    exact Steps.refl _)
  obtain ⟨T4, X4, q4, st4⟩ := X2.hget hexec hown (wk W (.fieldLink "java/lang/String" 15 "java/lang/String" "coder" "B")) (hx.mv X2.warmed.alike hh2) (g := (mkF m 7 #[.val (.ref x)] [.ref x])) rfl (rest := []) rfl (hb hbytes d7)
  have c5 : Steps p.tables e below (s₁.setTop (entryFrame m #[.ref x] 1)) (T4.setTop (mkF m 14 #[.val (.ref x)] [.int cd])) := (c3.trans (st4 _ (Steps.refl _))).trans (by
    refine XS.goto X4.here hexec rfl (pc0 := 10) rfl (hb hbytes d10) (by decide) rfl ?_
    exact Steps.refl _)
  exact ⟨T4, some (.int cd), _, _, _, X4, rfl, rfl, rfl, (fun h => by cases h), ⟨rfl, q4.trans hh2⟩, fun fs hl => c5.trans (X4.ireturnOut hexec hret (by rcases hc with rfl | rfl <;> rfl) (Or.inr (Or.inr (Or.inl rfl))) (hb hbytes d14) hl)⟩
end Cdr
namespace Len
def yN : MethodName := ⟨"java/lang/String", "length", "()I"⟩
abbrev yB : ByteArray := jdk_42_method_54_code
theorem d0 : decode yB 0 = .ok (.aload_n 0, 1) := by decide +kernel
theorem d1 : decode yB 1 = .ok (.getfield 9, 3) := by decide +kernel
theorem d4 : decode yB 4 = .ok (.arraylength, 1) := by decide +kernel
theorem d5 : decode yB 5 = .ok (.aload_n 0, 1) := by decide +kernel
theorem d6 : decode yB 6 = .ok (.invokevirtual 335, 3) := by decide +kernel
theorem d9 : decode yB 9 = .ok (.ishr, 1) := by decide +kernel
theorem d10 : decode yB 10 = .ok (.ireturn, 1) := by decide +kernel
def site : List Cond := [.fieldLink "java/lang/String" 9 "java/lang/String" "value" "[B", Cdr.tab] ++ virtW "java/lang/String" 335 "java/lang/String" Cdr.yN Cdr.yN
def tab : Cond := tabOf yN yB 1 (some .int) site
def P (x t : Addr) (V : Cell) (cd : Int32) (n : Nat) (f : Nat → Int32) (z : Int32) (args : Array Value) (s : State) : Prop := args = #[.ref x] ∧ Txt x t V cd n f s ∧ StaticIs s "java/lang/String" "COMPACT_STRINGS" "Z" (.int z) ∧ ¬ z = 0
def E (n : Nat) (r : Option Value) (s u : State) : Prop := XT.PureE (some (.int (Int32.ofNat n))) r s u
/-- length() of a String of n chars, in either coding -/
theorem law (l : Launch) (x t : Addr) (V : Cell) (cd : Int32) (n : Nat) (f : Nat → Int32) (z : Int32) : Law l yN 1 0 1 13 yB 1 (some .int) site (P x t V cd n f z) (E n) [] 0 0 := by
  refine Law.of_walk (plainFor_of_name (by decide +kernel)) (by decide +kernel) (by decide +kernel) (by decide) (fun _ _ h => by rw [h.1]; rfl) (fun _ U U' hal hh h => ⟨h.1, h.2.1.mv hal hh, h.2.2.1.there hal hh, h.2.2.2⟩) (fun r U U' V V' h1 hal h2 h => XT.PureE.mv r U U' V V' h1 hal h2 h) ?_
  intro p e s m args below meth c s₁ X0 hexec hbytes hml hret hlk hnm hown hh0 W hP
  obtain ⟨rfl, hx, s1, hz⟩ := hP
  have v31 := hx.2.2.2.1.2.2.2
  have c1 : Steps p.tables e below (s₁.setTop (entryFrame m #[.ref x] 1)) (s₁.setTop (mkF m 1 #[.val (.ref x)] [.ref x])) := Steps.trans (entry rfl) (by
    show Steps p.tables e below (s₁.setTop (mkF m 0 #[.val (.ref x)] [])) _
    refine XS.aloadN X0.here hexec rfl (hb hbytes d0) rfl rfl ?_
    exact Steps.refl _)
  obtain ⟨T2, X2, q2, st2⟩ := X0.hget hexec hown (wk W (.fieldLink "java/lang/String" 9 "java/lang/String" "value" "[B")) (hx.mv X0.warmed.alike hh0).2.1 (g := (mkF m 1 #[.val (.ref x)] [.ref x])) rfl (rest := []) rfl (hb hbytes d1)
  have hh2 := q2.trans hh0
  have hx2 := hx.mv X2.warmed.alike hh2
  have c3 : Steps p.tables e below (s₁.setTop (entryFrame m #[.ref x] 1)) (T2.setTop (mkF m 6 #[.val (.ref x)] [.ref x, .int (Int32.ofNat V.slots.size)])) := (c1.trans (st2 _ (Steps.refl _))).trans (by
    refine X2.alen hexec hx2.2.2.2.1 rfl rfl (hb hbytes d4) ?_
    refine XS.aloadN X2.here hexec rfl (hb hbytes d5) rfl rfl ?_
    exact Steps.refl _)
  obtain ⟨v4, T4, X4, E4, g4⟩ := X2.callV hexec (Cdr.law l x cd z) hown (wks W (virtW "java/lang/String" 335 "java/lang/String" Cdr.yN Cdr.yN)) rfl (by decide) (wk W Cdr.tab) (W := 1) (Nat.le_of_ble_eq_true rfl) (Nat.le_of_ble_eq_true rfl) (Nat.le_refl _) (Nat.le_refl _) (hx2.1.fc X2.warmed.alike) hx2.1.is (g := (mkF m 6 #[.val (.ref x)] [.ref x, .int (Int32.ofNat V.slots.size)])) rfl (by rw [hml]; rfl) c3 (argsL := []) (rest := [.int (Int32.ofNat V.slots.size)]) rfl rfl (by show 2 * 0 + (1 + 0) ≤ _; decide) (hb hbytes d6) (⟨rfl, hx2.2.2.1, hx.2.2.2.2.1.cd, s1.there X2.warmed.alike hh2, hz⟩)
  obtain ⟨rfl, q4⟩ := E4
  have c5 : Steps p.tables e below (s₁.setTop (entryFrame m #[.ref x] 1)) (T4.setTop (mkF m 10 #[.val (.ref x)] [.int (Int32.ofNat V.slots.size >>> (cd &&& 31))])) := Steps.trans g4 (by
    refine ishr X4.here hexec rfl (hb hbytes d9) rfl ?_
    exact Steps.refl _)
  rw [hx.2.2.2.2.1.len v31] at c5
  exact ⟨T4, some (.int (Int32.ofNat n)), _, _, _, X4, rfl, rfl, rfl, (fun h => by cases h), ⟨rfl, q4.trans hh2⟩, fun fs hl => c5.trans (X4.ireturnOut hexec hret rfl (Or.inl rfl) (hb hbytes d10) hl)⟩
theorem pays {l : Launch} {R : Room} {p : Program} {e : Env} {below : List Frame} {s : State} {sargs : Array Value} {len W : Nat} (x t : Addr) (V : Cell) (cd : Int32) (n : Nat) (f : Nat → Int32) (z : Int32) (htab : tab.before sargs s = true) (hfr : 2 ≤ R.frames) (hlo : W + 25 ≤ R.locals) :
    Back l R p e below s sargs yN len W (fun A₁ a₁ => A₁.cells + 0 ≤ R.cells ∧ A₁.slots + 0 ≤ R.slots ∧ P x t V cd n f z a₁ A₁.U) (fun A₁ _ v₁ B₁ => E n v₁ A₁.U B₁.U ∧ B₁.locs = A₁.locs ++ [] ∧ B₁.cells = A₁.cells + 0 ∧ B₁.slots = A₁.slots + 0) :=
  (law l x t V cd n f z).pays htab hfr (by omega)
end Len
namespace IsL
def yN : MethodName := ⟨"java/lang/String", "isLatin1", "()Z"⟩
abbrev yB : ByteArray := jdk_42_method_154_code
theorem d0 : decode yB 0 = .ok (.getstatic 38, 3) := by decide +kernel
theorem d3 : decode yB 3 = .ok (.ifCond (.eq) 14, 3) := by decide +kernel
theorem d6 : decode yB 6 = .ok (.aload_n 0, 1) := by decide +kernel
theorem d7 : decode yB 7 = .ok (.getfield 15, 3) := by decide +kernel
theorem d10 : decode yB 10 = .ok (.ifCond (.ne) 7, 3) := by decide +kernel
theorem d13 : decode yB 13 = .ok (.iconst 1, 1) := by decide +kernel
theorem d14 : decode yB 14 = .ok (.goto 4, 3) := by decide +kernel
theorem d17 : decode yB 17 = .ok (.iconst 0, 1) := by decide +kernel
theorem d18 : decode yB 18 = .ok (.ireturn, 1) := by decide +kernel
def site : List Cond := [.fieldLink "java/lang/String" 38 "java/lang/String" "COMPACT_STRINGS" "Z", .fieldLink "java/lang/String" 15 "java/lang/String" "coder" "B"]
def tab : Cond := tabOf yN yB 1 (some .boolean) site
def P (x : Addr) (cd z : Int32) (args : Array Value) (s : State) : Prop := args = #[.ref x] ∧ Has x "java/lang/String" "coder" "B" (.int cd) s ∧ (cd = 0 ∨ cd = 1) ∧ StaticIs s "java/lang/String" "COMPACT_STRINGS" "Z" (.int z) ∧ ¬ z = 0
def E (cd : Int32) (r : Option Value) (s u : State) : Prop := XT.PureE (some (.int (1 - cd))) r s u
theorem law (l : Launch) (x : Addr) (cd z : Int32) : Law l yN 1 0 0 0 yB 1 (some .boolean) site (P x cd z) (E cd) [] 0 0 := by
  refine Law.of_walk (plainFor_of_name (by decide +kernel)) (by decide +kernel) (by decide +kernel) (by decide) (fun _ _ h => by rw [h.1]; rfl) (fun _ U U' hal hh h => ⟨h.1, h.2.1.mv hal hh, h.2.2.1, h.2.2.2.1.there hal hh, h.2.2.2.2⟩) (fun r U U' V V' h1 hal h2 h => XT.PureE.mv r U U' V V' h1 hal h2 h) ?_
  intro p e s m args below meth c s₁ X0 hexec hbytes hml hret hlk hnm hown hh0 W hP
  obtain ⟨rfl, hx, hc, s1, hz⟩ := hP
  have c1 : Steps p.tables e below (s₁.setTop (entryFrame m #[.ref x] 1)) (s₁.setTop (mkF m 0 #[.val (.ref x)] [])) := entry rfl
  obtain ⟨T2, X2, q2, st2⟩ := X0.sget hexec hown (wk W (.fieldLink "java/lang/String" 38 "java/lang/String" "COMPACT_STRINGS" "Z")) s1 (fun _ _ h => by rw [hh0]; exact h) (g := (mkF m 0 #[.val (.ref x)] [])) rfl (hb hbytes d0)
  have hh2 := q2.trans hh0
  have c3 : Steps p.tables e below (s₁.setTop (entryFrame m #[.ref x] 1)) (T2.setTop (mkF m 7 #[.val (.ref x)] [.ref x])) := (c1.trans (st2 _ (Steps.refl _))).trans (by
    refine XS.ifNo X2.here hexec rfl (hb hbytes d3) rfl (i0_eq_f hz) ?_
    refine XS.aloadN X2.here hexec rfl (hb hbytes d6) rfl rfl ?_
    exact Steps.refl _)
  obtain ⟨T4, X4, q4, st4⟩ := X2.hget hexec hown (wk W (.fieldLink "java/lang/String" 15 "java/lang/String" "coder" "B")) (hx.mv X2.warmed.alike hh2) (g := (mkF m 7 #[.val (.ref x)] [.ref x])) rfl (rest := []) rfl (hb hbytes d7)
  have c5 : Steps p.tables e below (s₁.setTop (entryFrame m #[.ref x] 1)) (T4.setTop (mkF m 10 #[.val (.ref x)] [.int cd])) := c3.trans (st4 _ (Steps.refl _))
  have c6 : Steps p.tables e below (s₁.setTop (entryFrame m #[.ref x] 1)) (T4.setTop (mkF m 18 #[.val (.ref x)] [.int (1 - cd)])) := by
    rcases hc with rfl | rfl
    · exact c5.trans (by
        refine XS.ifNo X4.here hexec rfl (hb hbytes d10) rfl (i0_ne_f rfl) ?_
        refine iconstV X4.here hexec rfl 1 (hb hbytes d13) (by decide) ?_
        refine XS.goto X4.here hexec rfl (pc0 := 14) rfl (hb hbytes d14) (by decide) rfl ?_
        exact Steps.refl _)
    · exact c5.trans (by
        refine XS.ifYes X4.here hexec rfl (pc0 := 10) rfl (hb hbytes d10) rfl (i0_ne_t (by decide)) (by decide) rfl ?_
        refine iconstV X4.here hexec rfl 0 (hb hbytes d17) (by decide) ?_
        exact Steps.refl _)
  exact ⟨T4, some (.int (1 - cd)), _, _, _, X4, rfl, rfl, rfl, (fun h => by cases h), ⟨rfl, q4.trans hh2⟩, fun fs hl => c6.trans (X4.ireturnOut hexec hret (by rcases hc with rfl | rfl <;> rfl) (Or.inr (Or.inl rfl)) (hb hbytes d18) hl)⟩
end IsL
namespace LChA
def yN : MethodName := ⟨"java/lang/StringLatin1", "charAt", "([BI)C"⟩
abbrev yB : ByteArray := jdk_43_method_2_code
theorem d0 : decode yB 0 = .ok (.iload_n 1, 1) := by decide +kernel
theorem d1 : decode yB 1 = .ok (.aload_n 0, 1) := by decide +kernel
theorem d2 : decode yB 2 = .ok (.arraylength, 1) := by decide +kernel
theorem d3 : decode yB 3 = .ok (.invokestatic 9, 3) := by decide +kernel
theorem d6 : decode yB 6 = .ok (.aload_n 0, 1) := by decide +kernel
theorem d7 : decode yB 7 = .ok (.iload_n 1, 1) := by decide +kernel
theorem d8 : decode yB 8 = .ok (.baload, 1) := by decide +kernel
theorem d9 : decode yB 9 = .ok (.sipush 255, 3) := by decide +kernel
theorem d12 : decode yB 12 = .ok (.iand, 1) := by decide +kernel
theorem d13 : decode yB 13 = .ok (.i2c, 1) := by decide +kernel
theorem d14 : decode yB 14 = .ok (.ireturn, 1) := by decide +kernel
def site : List Cond := [JO.Str_checkIndex.tab] ++ staticW "java/lang/StringLatin1" 9 JO.Str_checkIndex.yN
def tab : Cond := tabOf yN yB 2 (some .char) site
def P (t : Addr) (V : Cell) (i : Nat) (u : Int32) (fm : Value) (args : Array Value) (s : State) : Prop := args = #[.ref t, .int (Int32.ofNat i)] ∧ XT.Arr .byte t V s ∧ V.slots[i]? = some (.int u) ∧ (StaticIs s "jdk/internal/util/Preconditions" "SIOOBE_FORMATTER" "Ljava/util/function/BiFunction;" fm ∧ fm.isRef = true)
def E (u : Int32) (r : Option Value) (s w : State) : Prop := XT.PureE (some (.int (chr8 u))) r s w
theorem law (l : Launch) (t : Addr) (V : Cell) (i : Nat) (u : Int32) (fm : Value) : Law l yN 2 2 2 27 yB 2 (some .char) site (P t V i u fm) (E u) [] 0 0 := by
  refine Law.of_walk (plainFor_of_name (by decide +kernel)) (by decide +kernel) (by decide +kernel) (by decide) (fun _ _ h => by rw [h.1]; rfl) (fun _ U U' hal hh h => ⟨h.1, h.2.1.mv hal hh, h.2.2.1, h.2.2.2.1.there hal hh, h.2.2.2.2⟩) (fun r U U' V V' h1 hal h2 h => XT.PureE.mv r U U' V V' h1 hal h2 h) ?_
  intro p e s m args below meth c s₁ X0 hexec hbytes hml hret hlk hnm hown hh0 W hP
  obtain ⟨rfl, hV, hu, s1, rf⟩ := hP
  have v31 := hV.2.2.2
  have hi : i < V.slots.size := (Array.getElem?_eq_some_iff.mp hu).1
  have c1 : Steps p.tables e below (s₁.setTop (entryFrame m #[.ref t, .int (Int32.ofNat i)] 2)) (s₁.setTop (mkF m 0 #[.val (.ref t), .val (.int (Int32.ofNat i))] [])) := entry rfl
  have c2 : Steps p.tables e below (s₁.setTop (entryFrame m #[.ref t, .int (Int32.ofNat i)] 2)) (s₁.setTop (mkF m 3 #[.val (.ref t), .val (.int (Int32.ofNat i))] [.int (Int32.ofNat V.slots.size), .int (Int32.ofNat i)])) := c1.trans (by
    refine XS.iloadN X0.here hexec rfl (hb hbytes d0) rfl ?_
    refine XS.aloadN X0.here hexec rfl (hb hbytes d1) rfl rfl ?_
    refine X0.alen hexec (hV.mv X0.warmed.alike hh0) rfl rfl (hb hbytes d2) ?_
    exact Steps.refl _)
  obtain ⟨v3, T3, X3, E3, g3⟩ := X0.callS hexec (JO.Str_checkIndex.law l (Int32.ofNat i) (Int32.ofNat V.slots.size) fm) hown (wks W (staticW "java/lang/StringLatin1" 9 JO.Str_checkIndex.yN)) (wk W JO.Str_checkIndex.tab) (W := 0) (Nat.le_of_ble_eq_true rfl) (Nat.le_of_ble_eq_true rfl) (Nat.le_refl _) (Nat.le_refl _) (g := (mkF m 3 #[.val (.ref t), .val (.int (Int32.ofNat i))] [.int (Int32.ofNat V.slots.size), .int (Int32.ofNat i)])) rfl (by rw [hml]; rfl) c2 (argsL := [.int (Int32.ofNat i), .int (Int32.ofNat V.slots.size)]) (rest := []) rfl rfl (by show 2 * 0 + 0 ≤ _; decide) (hb hbytes d3) (⟨rfl, rf, s1.there X0.warmed.alike hh0, Int32.ofNat_not_neg (by omega), lt32 v31 hi⟩)
  obtain ⟨rfl, q3⟩ := E3
  have hh3 := q3.trans hh0
  have c4 : Steps p.tables e below (s₁.setTop (entryFrame m #[.ref t, .int (Int32.ofNat i)] 2)) (T3.setTop (mkF m 14 #[.val (.ref t), .val (.int (Int32.ofNat i))] [.int (chr8 u)])) := Steps.trans g3 (by
    refine XS.aloadN X3.here hexec rfl (hb hbytes d6) rfl rfl ?_
    refine XS.iloadN X3.here hexec rfl (hb hbytes d7) rfl ?_
    refine X3.aget hexec (hV.mv X3.warmed.alike hh3) rfl hu rfl rfl (hb hbytes d8) ?_
    refine sipushV X3.here hexec rfl 255 (hb hbytes d9) (by decide) ?_
    refine XS.iand X3.here hexec rfl (hb hbytes d12) rfl ?_
    refine i2c X3.here hexec rfl (hb hbytes d13) rfl ?_
    exact Steps.refl _)
  exact ⟨T3, some (.int (chr8 u)), _, _, _, X3, rfl, rfl, rfl, (fun h => by cases h), ⟨rfl, hh3⟩, fun fs hl => c4.trans (X3.ireturnOut hexec hret (narrow_c _) (Or.inr (Or.inr (Or.inr (Or.inl rfl)))) (hb hbytes d14) hl)⟩
end LChA
end StrChars
namespace StrChars.Road
open Jvm Sem ClassFile Op Lib Jvm.Stand Jvm.Free Jvm.Free.XT
open Jvm.Lib.Cold (StaticIs)
theorem consq {a : Array Value} {s : State} {c : Jvm.Cond} {L : List Jvm.Cond} (h0 : c.before a s = true) (h : ∀ w ∈ L, w.before a s = true) : ∀ w ∈ c :: L, w.before a s = true := fun w hw => (List.mem_cons.mp hw).elim (fun e => e ▸ h0) (h w)
/-- the words of String.length(), either coding -/
abbrev wordsLen : List Jvm.Cond := [.code Len.yN Len.yB 1 (some .int), .initialized ST, .fieldLink ST 9 ST "value" "[B", .fieldLink ST 38 ST "COMPACT_STRINGS" "Z", .fieldLink ST 15 ST "coder" "B", .code Cdr.yN Cdr.yB 1 (some .byte), .methodLink ST 335 Cdr.yN, .declares Cdr.yN, .selects ST Cdr.yN Cdr.yN, .instanceMethod Cdr.yN]
theorem tabLen_of {a : Array Value} {s : State} (h : ∀ w ∈ wordsLen, w.before a s = true) : Len.tab.before a s = true := by
  have hc : Cdr.tab.before a s = true := unparts (wk h (.code Cdr.yN Cdr.yB 1 (some .byte))) (wks h (.initialized Cdr.yN.cls :: Cdr.site))
  have q := consq hc h
  exact unparts (wk q (.code Len.yN Len.yB 1 (some .int))) (wks q (.initialized Len.yN.cls :: Len.site))
theorem movedLen {Z s : State} {a0 args : Array Value} (hZ : Z.Warmed39 s.vm) (hw : ∀ d ∈ wordsLen, d.before a0 Z = true) : ∀ d ∈ wordsLen, d.before args s = true := fun d hd => by
  have q := hw d hd
  have t : ∀ d ∈ wordsLen, d = .arrayClass .byte ∨ (d.onTables && d.keepsFace) = true := by decide +kernel
  rcases t d hd with rfl | t
  · exact RoadKit.mvA hZ q
  · exact RoadKit.mv hZ q t
/-- the bytes of the chars cs, low before high -/
def wideBytes : List Int32 → List Value
  | [] => []
  | c :: cs => .int (lo8 c) :: .int (hi8 c) :: wideBytes cs
theorem wide_lo (d : Value) : ∀ (cs : List Int32) (j : Nat), j < cs.length → (wideBytes cs).getD (2 * j) d = .int (lo8 (cs.getD j 0))
  | [], j, h => absurd h (Nat.not_lt_zero j)
  | c :: cs, 0, _ => rfl
  | c :: cs, j + 1, h => by
    have q := wide_lo d cs j (by simpa using h)
    rw [show 2 * (j + 1) = 2 * j + 1 + 1 from by omega]
    simpa [wideBytes] using q
theorem wide_hi (d : Value) : ∀ (cs : List Int32) (j : Nat), j < cs.length → (wideBytes cs).getD (2 * j + 1) d = .int (hi8 (cs.getD j 0))
  | [], j, h => absurd h (Nat.not_lt_zero j)
  | c :: cs, 0, _ => rfl
  | c :: cs, j + 1, h => by
    have q := wide_hi d cs j (by simpa using h)
    rw [show 2 * (j + 1) + 1 = 2 * j + 1 + 1 + 1 from by omega]
    simpa [wideBytes] using q
theorem low_at (d : Value) (cs : List Int32) (j : Nat) (h : j < cs.length) : (cs.map fun c => Value.int (lo8 c)).getD j d = .int (lo8 (cs.getD j 0)) := by
  simp [List.getD_eq_getElem?_getD, h]
/-- an array of N2 bytes vs codes the chars cs by the coder cd -/
def CodA (cs : List Int32) (cd N2 : Int32) (vs : List Value) : Prop := (cd = 0 ∧ N2 = Int32.ofNat cs.length ∧ vs = (cs.map fun c => Value.int (lo8 c)) ∧ ∀ c ∈ cs, ¬ 255 < c) ∨ (cd = 1 ∧ N2 = Int32.ofNat (2 * cs.length) ∧ vs = wideBytes cs ∧ ∃ c ∈ cs, 255 < c)
theorem CodA.cod {cs : List Int32} {cd N2 : Int32} {vs : List Value} {V : Cell} (h : CodA cs cd N2 vs) (hn : 2 * cs.length < 2 ^ 31) (hs : V.slots.size = N2.toNatClampNeg) (hv : RoadKit.Has V vs (.int 0)) : Cod cd cs.length (fun j => cs.getD j 0) V := by
  rcases h with ⟨rfl, rfl, rfl, h⟩ | ⟨rfl, rfl, rfl, c, hc, hw⟩
  · rw [n32 (by omega)] at hs
    exact Or.inl ⟨rfl, hs, fun j hj => ⟨by rw [hv j (by omega), low_at _ _ _ hj], by
      have e : cs.getD j 0 = cs[j] := by simp [List.getD_eq_getElem?_getD, hj]
      show ¬ 255 < cs.getD j 0
      rw [e]; exact h _ (List.getElem_mem _)⟩⟩
  · rw [n32 (by omega)] at hs
    obtain ⟨j, hj, rfl⟩ := List.getElem_of_mem hc
    exact Or.inr ⟨rfl, hs, fun j hj => ⟨by rw [hv _ (by omega), wide_lo _ _ _ hj], by rw [hv _ (by omega), wide_hi _ _ _ hj]⟩, j, hj, by
      have e : cs.getD j 0 = cs[j] := by simp [List.getD_eq_getElem?_getD, hj]
      show 255 < cs.getD j 0
      rw [e]; exact hw⟩
/-- an object of exactly java/lang/String, its two fields found: as the laws ask it -/
theorem strObj {Z U : State} {a0 : Array Value} {kI : Nat} (wi : (Jvm.Cond.instantiable ST kI).before a0 Z = true) (al : Z.vm.Alike U.vm) {x : Addr} {v0 c0 : Value} (E : RoadKit.Exa Z U.heap x ST) (V : RoadKit.Fld Z U.heap x ST "value" "[B" v0) (C : RoadKit.Fld Z U.heap x ST "coder" "B" c0) :
    ∃ (D : Cell) (fV fC : Field), Blank ST x D U ∧ Found ST "value" "[B" fV U ∧ Found ST "coder" "B" fC U ∧ D.slots[fV.slot]? = some v0 ∧ D.slots[fC.slot]? = some c0 ∧ RoadKit.slotOf Z ST "value" "[B" = fV.slot ∧ RoadKit.slotOf Z ST "coder" "B" = fC.slot := by
  obtain ⟨D, cfV, kV, iV, fV, hD, gV, stV, knV, obV, asV, slV⟩ := V
  obtain ⟨D', cfC, kC, iC, fC, hD', gC, stC, -, -, asC, slC⟩ := C
  cases hD.symm.trans hD'
  obtain ⟨D2, kD, e1, e2, e3, e4, e5⟩ := E
  cases hD.symm.trans e1
  obtain ⟨c2, k2, i1, i2, i3, -⟩ := Cond.instantiable_spec wi
  cases e2.symm.trans i1
  cases e3.symm.trans i2
  obtain ⟨kU, u1, u2⟩ := al.2.2 _ _ e3
  exact ⟨D, fV, fC, ⟨hD, ⟨knV, fun q hq => by rw [hq] at obV; cases obV⟩, by rw [al.findClass]; exact e2, kU, u1, by rw [u2]; exact i3, by rw [u2]; exact e5 i3⟩, ⟨SBG.found_only al ⟨cfV, kV, iV, gV⟩, stV⟩, ⟨SBG.found_only al ⟨cfC, kC, iC, gC⟩, stC⟩, slV, slC, by simp [RoadKit.slotOf, gV], by simp [RoadKit.slotOf, gC]⟩
theorem sta_is {Z U : State} (al : Z.vm.Alike U.vm) {C n d : String} {v : Value} (S : RoadKit.Sta Z U.heap C n d v) : StaticIs U C n d v := by
  obtain ⟨cfS, iS, kS, fS, st, cS, t1, t2, t3, t4, t5, t6, t7⟩ := S
  exact StaticIs.there (s := { Z with heap := U.heap }) ⟨cfS, iS, kS, fS, st, cS, t1, t2, t3, t4, t5, (fun q => by rw [q] at t6; cases t6), t7⟩ al rfl
/-- **length() OF SUCH A STRING** -/
theorem lenW {p : Program} {l : Launch} {e : Env} {R : Room} {s : State} {args : Array Value} {below : List Frame} {len W : Nat} {Z : State} {a0 : Array Value} {h : Heap} (hZ : Z.Warmed39 s.vm) (hw : ∀ d ∈ wordsLen, d.before a0 Z = true) {kI : Nat} (wi : (Jvm.Cond.instantiable ST kI).before a0 Z = true)
    {x t : Addr} {kb : ClassId} {cs : List Int32} {cd N2 z : Int32} {vs : List Value} (E : RoadKit.Exa Z h x ST) (V : RoadKit.Fld Z h x ST "value" "[B" (.ref t)) (C : RoadKit.Fld Z h x ST "coder" "B" (.int cd)) (K : RoadKit.Arv Z h t kb .byte N2 vs (.int 0)) (hc : CodA cs cd N2 vs) (hb : ∀ c ∈ cs, ¬ c < 0 ∧ ¬ (65535 : Int32) < c)
    (S : RoadKit.Sta Z h ST "COMPACT_STRINGS" "Z" (.int z)) (hz : ¬ z = 0) (l2 : cs.length ≤ 4000) (hfr : 2 ≤ R.frames) (hlo : W + 25 ≤ R.locals) :
    Back l R p e below s args (⟨"java/lang/String", "length", "()I"⟩ : MethodName) len W (fun P a => a = #[.ref x] ∧ P.U.heap = h ∧ P.cells + 0 ≤ R.cells ∧ P.slots + 0 ≤ R.slots)
      (fun P _ v B => ∃ L, (v = some (.int (Int32.ofNat cs.length)) ∧ L = [] ∧ B.U.heap = h) ∧ B.locs = P.locs ++ L ∧ B.cells = P.cells + 0 ∧ B.slots = P.slots + 0) := by
  obtain ⟨A, K1, K2, K3, K4, K5, K6⟩ := K
  have hcod := hc.cod (by omega) K3 K5
  intro m meth c P g ig mk a X hg hsize hdg hW hn hp'
  obtain ⟨rfl, rfl, r1, r2⟩ := hp'
  have al : Z.vm.Alike P.U.vm := hZ.alike.trans X.warmed.alike
  obtain ⟨D, fV, fC, hB, F1, F2, g1, g2, -, -⟩ := strObj wi al E V C
  have hx : Txt x t A cd cs.length (fun j => cs.getD j 0) P.U := ⟨⟨_, hB.2.2.1, D, hB.1, rfl, by cases q : D.vm <;> first | rfl | exact absurd q (hB.2.1.2 _)⟩, Has.of hB F1 g1, Has.of hB F2 g2, ⟨K1.1, State.isArrayOf_alike al K1.2.1, K1.2.2, by rcases hcod with ⟨-, q, -⟩ | ⟨-, q, -⟩ <;> omega⟩, hcod, fun j hj => by
    have e : cs.getD j 0 = cs[j] := by simp [List.getD_eq_getElem?_getD, hj]
    show ¬ cs.getD j 0 < 0 ∧ ¬ 65535 < cs.getD j 0
    rw [e]; exact hb _ (List.getElem_mem _)⟩
  obtain ⟨v, B, X', ⟨⟨hv, hh⟩, hl, hk, hs⟩, st⟩ := Len.pays x t A cd cs.length (fun j => cs.getD j 0) z (tabLen_of (movedLen hZ hw)) hfr hlo m meth c P g ig mk _ X hg hsize hdg hW hn ⟨r1, r2, rfl, hx, sta_is al S, hz⟩
  exact ⟨v, B, X', ⟨[], ⟨hv, rfl, hh⟩, hl, hk, hs⟩, st⟩
end StrChars.Road
namespace StrChars.Road
open Jvm Sem ClassFile Op Lib Jvm.Stand Jvm.Free Jvm.Free.XT
open Jvm.Lib.Cold (StaticIs)
/-- the road's facts of a String, as the laws ask it -/
theorem txt_of {Z U : State} {a0 : Array Value} {kI : Nat} (wi : (Jvm.Cond.instantiable ST kI).before a0 Z = true) (al : Z.vm.Alike U.vm) {x t : Addr} {kb : ClassId} {cs : List Int32} {cd N2 : Int32} {vs : List Value} (E : RoadKit.Exa Z U.heap x ST) (V : RoadKit.Fld Z U.heap x ST "value" "[B" (.ref t)) (C : RoadKit.Fld Z U.heap x ST "coder" "B" (.int cd)) (K : RoadKit.Arv Z U.heap t kb .byte N2 vs (.int 0)) (hc : CodA cs cd N2 vs) (hb : ∀ c ∈ cs, ¬ c < 0 ∧ ¬ (65535 : Int32) < c) (l2 : cs.length ≤ 4000) :
    ∃ A, Txt x t A cd cs.length (fun j => cs.getD j 0) U := by
  obtain ⟨A, K1, K2, K3, K4, K5, K6⟩ := K
  have hcod := hc.cod (by omega) K3 K5
  obtain ⟨D, fV, fC, hB, F1, F2, g1, g2, -, -⟩ := strObj wi al E V C
  exact ⟨A, ⟨_, hB.2.2.1, D, hB.1, rfl, by cases q : D.vm <;> first | rfl | exact absurd q (hB.2.1.2 _)⟩, Has.of hB F1 g1, Has.of hB F2 g2, ⟨K1.1, State.isArrayOf_alike al K1.2.1, K1.2.2, by rcases hcod with ⟨-, q, -⟩ | ⟨-, q, -⟩ <;> omega⟩, hcod, fun j hj => by
    have e : cs.getD j 0 = cs[j] := by simp [List.getD_eq_getElem?_getD, hj]
    show ¬ cs.getD j 0 < 0 ∧ ¬ 65535 < cs.getD j 0
    rw [e]; exact hb _ (List.getElem_mem _)⟩
end StrChars.Road
namespace StrChars
open Jvm Sem ClassFile Op Lib Jvm.Stand Jvm.Free.XT Jvm.Free.ALB Jvm.Free.JM Jvm.Free
open Jvm.Lib.Cold (StaticIs)
namespace ChN
def yN : MethodName := ⟨"java/lang/String", "charAt", "(I)C"⟩
abbrev yB : ByteArray := jdk_42_method_56_code
theorem d0 : decode yB 0 = .ok (.aload_n 0, 1) := by decide +kernel
theorem d1 : decode yB 1 = .ok (.invokevirtual 492, 3) := by decide +kernel
theorem d4 : decode yB 4 = .ok (.ifCond (.eq) 12, 3) := by decide +kernel
theorem d7 : decode yB 7 = .ok (.aload_n 0, 1) := by decide +kernel
theorem d8 : decode yB 8 = .ok (.getfield 9, 3) := by decide +kernel
theorem d11 : decode yB 11 = .ok (.iload_n 1, 1) := by decide +kernel
theorem d12 : decode yB 12 = .ok (.invokestatic 495, 3) := by decide +kernel
theorem d15 : decode yB 15 = .ok (.ireturn, 1) := by decide +kernel
def site : List Cond := [.fieldLink "java/lang/String" 9 "java/lang/String" "value" "[B", IsL.tab, LChA.tab] ++ virtW "java/lang/String" 492 "java/lang/String" IsL.yN IsL.yN ++ staticW "java/lang/String" 495 LChA.yN
def tab : Cond := tabOf yN yB 2 (some .char) site
def P (x t : Addr) (V : Cell) (n : Nat) (f : Nat → Int32) (z : Int32) (fm : Value) (i : Nat) (args : Array Value) (s : State) : Prop := args = #[.ref x, .int (Int32.ofNat i)] ∧ Txt x t V 0 n f s ∧ i < n ∧ StaticIs s "java/lang/String" "COMPACT_STRINGS" "Z" (.int z) ∧ ¬ z = 0 ∧ StaticIs s "jdk/internal/util/Preconditions" "SIOOBE_FORMATTER" "Ljava/util/function/BiFunction;" fm ∧ fm.isRef = true
def E (f : Nat → Int32) (i : Nat) (r : Option Value) (s u : State) : Prop := XT.PureE (some (.int (f i))) r s u
/-- charAt(i) of a Latin-1 String of n chars, i < n: f i -/
theorem law (l : Launch) (x t : Addr) (V : Cell) (n : Nat) (f : Nat → Int32) (z : Int32) (fm : Value) (i : Nat) : Law l yN 2 1 3 40 yB 2 (some .char) site (P x t V n f z fm i) (E f i) [] 0 0 := by
  refine Law.of_walk (plainFor_of_name (by decide +kernel)) (by decide +kernel) (by decide +kernel) (by decide) (fun _ _ h => by rw [h.1]; rfl) (fun _ U U' hal hh h => ⟨h.1, h.2.1.mv hal hh, h.2.2.1, h.2.2.2.1.there hal hh, h.2.2.2.2.1, h.2.2.2.2.2.1.there hal hh, h.2.2.2.2.2.2⟩) (fun r U U' V V' h1 hal h2 h => XT.PureE.mv r U U' V V' h1 hal h2 h) ?_
  intro p e s m args below meth c s₁ X0 hexec hbytes hml hret hlk hnm hown hh0 W hP
  obtain ⟨rfl, hx, hi, s1, hz, s3, rf⟩ := hP
  have v31 := hx.2.2.2.1.2.2.2
  have hr := hx.2.2.2.2.2 i hi
  have hx0 := hx.mv X0.warmed.alike hh0
  have c1 : Steps p.tables e below (s₁.setTop (entryFrame m #[.ref x, .int (Int32.ofNat i)] 2)) (s₁.setTop (mkF m 1 #[.val (.ref x), .val (.int (Int32.ofNat i))] [.ref x])) := Steps.trans (entry rfl) (by
    show Steps p.tables e below (s₁.setTop (mkF m 0 #[.val (.ref x), .val (.int (Int32.ofNat i))] [])) _
    refine XS.aloadN X0.here hexec rfl (hb hbytes d0) rfl rfl ?_
    exact Steps.refl _)
  obtain ⟨v2, T2, X2, E2, g2⟩ := X0.callV hexec (IsL.law l x 0 z) hown (wks W (virtW "java/lang/String" 492 "java/lang/String" IsL.yN IsL.yN)) rfl (by decide) (wk W IsL.tab) (W := 0) (Nat.le_of_ble_eq_true rfl) (Nat.le_of_ble_eq_true rfl) (Nat.le_refl _) (Nat.le_refl _) (hx0.1.fc X0.warmed.alike) hx0.1.is (g := (mkF m 1 #[.val (.ref x), .val (.int (Int32.ofNat i))] [.ref x])) rfl (by rw [hml]; rfl) c1 (argsL := []) (rest := []) rfl rfl (by show 2 * 0 + 0 ≤ _; decide) (hb hbytes d1) (⟨rfl, hx0.2.2.1, hx.2.2.2.2.1.cd, s1.there X0.warmed.alike hh0, hz⟩)
  obtain ⟨rfl, q2⟩ := E2
  have hh2 := q2.trans hh0
  have hx2 := hx.mv X2.warmed.alike hh2
  obtain ⟨-, k1, k2⟩ | ⟨k0, -⟩ := hx.2.2.2.2.1
  · have c3 : Steps p.tables e below (s₁.setTop (entryFrame m #[.ref x, .int (Int32.ofNat i)] 2)) (T2.setTop (mkF m 8 #[.val (.ref x), .val (.int (Int32.ofNat i))] [.ref x])) := Steps.trans g2 (by
      refine XS.ifNo X2.here hexec rfl (hb hbytes d4) rfl (i0_eq_f (by decide)) ?_
      refine XS.aloadN X2.here hexec rfl (hb hbytes d7) rfl rfl ?_
      exact Steps.refl _)
    obtain ⟨T4, X4, q4, st4⟩ := X2.hget hexec hown (wk W (.fieldLink "java/lang/String" 9 "java/lang/String" "value" "[B")) hx2.2.1 (g := (mkF m 8 #[.val (.ref x), .val (.int (Int32.ofNat i))] [.ref x])) rfl (rest := []) rfl (hb hbytes d8)
    have hh4 := q4.trans hh2
    have c5 : Steps p.tables e below (s₁.setTop (entryFrame m #[.ref x, .int (Int32.ofNat i)] 2)) (T4.setTop (mkF m 12 #[.val (.ref x), .val (.int (Int32.ofNat i))] [.int (Int32.ofNat i), .ref t])) := (c3.trans (st4 _ (Steps.refl _))).trans (by
      refine XS.iloadN X4.here hexec rfl (hb hbytes d11) rfl ?_
      exact Steps.refl _)
    obtain ⟨v6, T6, X6, E6, g6⟩ := X4.callS hexec (LChA.law l t V i (lo8 (f i)) fm) hown (wks W (staticW "java/lang/String" 495 LChA.yN)) (wk W LChA.tab) (W := 0) (Nat.le_of_ble_eq_true rfl) (Nat.le_of_ble_eq_true rfl) (Nat.le_refl _) (Nat.le_refl _) (g := (mkF m 12 #[.val (.ref x), .val (.int (Int32.ofNat i))] [.int (Int32.ofNat i), .ref t])) rfl (by rw [hml]; rfl) c5 (argsL := [.ref t, .int (Int32.ofNat i)]) (rest := []) rfl rfl (by show 2 * 0 + 0 ≤ _; decide) (hb hbytes d12) (⟨rfl, hx.2.2.2.1.mv X4.warmed.alike hh4, (k2 i hi).1, s3.there X4.warmed.alike hh4, rf⟩)
    obtain ⟨rfl, q6⟩ := E6
    rw [chr8_lo8 hr.1 (k2 i hi).2] at g6
    exact ⟨T6, some (.int (f i)), _, _, _, X6, rfl, rfl, rfl, (fun h => by cases h), ⟨rfl, q6.trans hh4⟩, fun fs hl => Steps.trans g6 (X6.ireturnOut hexec hret (narrow_ch hr.1 hr.2) (Or.inr (Or.inr (Or.inr (Or.inl rfl)))) (hb hbytes d15) hl)⟩
  · exact absurd k0 (by decide)
theorem pays {l : Launch} {R : Room} {p : Program} {e : Env} {below : List Frame} {s : State} {sargs : Array Value} {len W : Nat} (x t : Addr) (V : Cell) (n : Nat) (f : Nat → Int32) (z : Int32) (fm : Value) (i : Nat) (htab : tab.before sargs s = true) (hfr : 4 ≤ R.frames) (hlo : W + 53 ≤ R.locals) :
    Back l R p e below s sargs yN len W (fun A₁ a₁ => A₁.cells + 0 ≤ R.cells ∧ A₁.slots + 0 ≤ R.slots ∧ P x t V n f z fm i a₁ A₁.U) (fun A₁ _ v₁ B₁ => E f i v₁ A₁.U B₁.U ∧ B₁.locs = A₁.locs ++ [] ∧ B₁.cells = A₁.cells + 0 ∧ B₁.slots = A₁.slots + 0) :=
  (law l x t V n f z fm i).pays htab hfr (by omega)
end ChN
end StrChars
namespace StrChars.Road
open Jvm Sem ClassFile Op Lib Jvm.Stand Jvm.Free Jvm.Free.XT
open Jvm.Lib.Cold (StaticIs)
/-- the words of String.charAt(int), the Latin-1 road alone -/
abbrev wordsChN : List Jvm.Cond := [.code ChN.yN ChN.yB 2 (some .char), .initialized ST, .fieldLink ST 9 ST "value" "[B", .fieldLink ST 38 ST "COMPACT_STRINGS" "Z", .fieldLink ST 15 ST "coder" "B", .code IsL.yN IsL.yB 1 (some .boolean), .methodLink ST 492 IsL.yN, .declares IsL.yN, .selects ST IsL.yN IsL.yN, .instanceMethod IsL.yN,
  .methodLink ST 495 LChA.yN, .static LChA.yN, .code LChA.yN LChA.yB 2 (some .char), .initialized "java/lang/StringLatin1", .methodLink "java/lang/StringLatin1" 9 JO.Str_checkIndex.yN, .static JO.Str_checkIndex.yN, .code JO.Str_checkIndex.yN JO.Str_checkIndex.yB 2 none,
  .fieldLink ST 1053 "jdk/internal/util/Preconditions" "SIOOBE_FORMATTER" "Ljava/util/function/BiFunction;", .methodLink ST 1059 JC.PreCheck.yN, .static JC.PreCheck.yN, .code JC.PreCheck.yN JC.PreCheck.yB 3 (some .int), .initialized "jdk/internal/util/Preconditions"]
theorem tabChN_of {a : Array Value} {s : State} (h : ∀ w ∈ wordsChN, w.before a s = true) : ChN.tab.before a s = true := by
  have hp : JC.PreCheck.tab.before a s = true := unparts (wk h (.code JC.PreCheck.yN JC.PreCheck.yB 3 (some .int))) (wks h (.initialized JC.PreCheck.yN.cls :: JC.PreCheck.site))
  have qk := consq hp h
  have hk : JO.Str_checkIndex.tab.before a s = true := unparts (wk qk (.code JO.Str_checkIndex.yN JO.Str_checkIndex.yB 2 none)) (wks qk (.initialized JO.Str_checkIndex.yN.cls :: JO.Str_checkIndex.site))
  have ql := consq hk h
  have hl : LChA.tab.before a s = true := unparts (wk ql (.code LChA.yN LChA.yB 2 (some .char))) (wks ql (.initialized LChA.yN.cls :: LChA.site))
  have hi : IsL.tab.before a s = true := unparts (wk h (.code IsL.yN IsL.yB 1 (some .boolean))) (wks h (.initialized IsL.yN.cls :: IsL.site))
  have q := consq hi (consq hl h)
  exact unparts (wk q (.code ChN.yN ChN.yB 2 (some .char))) (wks q (.initialized ChN.yN.cls :: ChN.site))
theorem movedChN {Z s : State} {a0 args : Array Value} (hZ : Z.Warmed39 s.vm) (hw : ∀ d ∈ wordsChN, d.before a0 Z = true) : ∀ d ∈ wordsChN, d.before args s = true := fun d hd => by
  have t : ∀ d ∈ wordsChN, (d.onTables && d.keepsFace) = true := by decide +kernel
  exact RoadKit.mv hZ (hw d hd) (t d hd)
/-- **charAt(i) OF A LATIN-1 STRING**, i < n: the char -/
theorem chN {p : Program} {l : Launch} {e : Env} {R : Room} {s : State} {args : Array Value} {below : List Frame} {len W : Nat} {Z : State} {a0 : Array Value} {h : Heap} (hZ : Z.Warmed39 s.vm) (hw : ∀ d ∈ wordsChN, d.before a0 Z = true) {kI : Nat} (wi : (Jvm.Cond.instantiable ST kI).before a0 Z = true)
    {x t : Addr} {kb : ClassId} {cs : List Int32} {N2 z : Int32} {vs : List Value} {fm : Value} {i : Nat} {j : Int32} (E : RoadKit.Exa Z h x ST) (V : RoadKit.Fld Z h x ST "value" "[B" (.ref t)) (C : RoadKit.Fld Z h x ST "coder" "B" (.int 0)) (K : RoadKit.Arv Z h t kb .byte N2 vs (.int 0)) (hc : CodA cs 0 N2 vs) (hb : ∀ c ∈ cs, ¬ c < 0 ∧ ¬ (65535 : Int32) < c)
    (S : RoadKit.Sta Z h ST "COMPACT_STRINGS" "Z" (.int z)) (hz : ¬ z = 0) (F : RoadKit.Sta Z h "jdk/internal/util/Preconditions" "SIOOBE_FORMATTER" "Ljava/util/function/BiFunction;" fm) (rf : fm.isRef = true) (l2 : cs.length ≤ 4000) (hi : i < cs.length) (hj : j = Int32.ofNat i) (hfr : 4 ≤ R.frames) (hlo : W + 53 ≤ R.locals) :
    Back l R p e below s args (⟨"java/lang/String", "charAt", "(I)C"⟩ : MethodName) len W (fun P a => a = #[.ref x, .int j] ∧ P.U.heap = h ∧ P.cells + 0 ≤ R.cells ∧ P.slots + 0 ≤ R.slots)
      (fun P _ v B => ∃ L, (v = some (.int (cs.getD i 0)) ∧ L = [] ∧ B.U.heap = h) ∧ B.locs = P.locs ++ L ∧ B.cells = P.cells + 0 ∧ B.slots = P.slots + 0) := by
  subst hj
  intro m meth c P g ig mk a X hg hsize hdg hW hn hp'
  obtain ⟨rfl, rfl, r1, r2⟩ := hp'
  have al : Z.vm.Alike P.U.vm := hZ.alike.trans X.warmed.alike
  obtain ⟨A, hx⟩ := txt_of wi al E V C K hc hb l2
  obtain ⟨v, B, X', ⟨⟨hv, hh⟩, hl, hk, hs⟩, st⟩ := ChN.pays x t A cs.length (fun j => cs.getD j 0) z fm i (tabChN_of (movedChN hZ hw)) hfr hlo m meth c P g ig mk _ X hg hsize hdg hW hn ⟨r1, r2, rfl, hx, hi, sta_is al S, hz, sta_is al F, rf⟩
  exact ⟨v, B, X', ⟨[], ⟨hv, rfl, hh⟩, hl, hk, hs⟩, st⟩
/-- what backV says of its String, as the contracts of this text ask it: cs's low bytes, coder 0 -/
theorem codOf {cs : List Int32} {n : Nat} (hn : cs.length = n) (hb : ∀ c ∈ cs, ¬ 255 < c) : CodA cs 0 (Int32.ofNat n) ((cs.map lo8).map Value.int) := Or.inl ⟨rfl, by rw [hn], by simp [List.map_map, Function.comp_def], hb⟩
end StrChars.Road
end Jvm.Pilot.@@N@@
namespace Jvm.Pilot.@@N@@
open Jvm Jvm.ClassFile Sem Op Lib Jvm.Free Jvm.Stand Jvm.LawKit Jvm.RoadKit Jvm.OwnKit Bundle Jvm.Pilot.@@N@@.Jvm.D
theorem wd0 {Z : State} {a0 : Array Value} (hw : ∀ d ∈ tables_1, d.before a0 Z = true) : (Jvm.Cond.constant "com/example/shomer/shomer/engine/NamesLocalNamePinLaw" (7 : Nat) (2147483647 : Int32)).before a0 Z = true := hw _ (List.mem_of_getElem? (i := 0) rfl)
theorem wd1 {Z : State} {a0 : Array Value} (hw : ∀ d ∈ tables_1, d.before a0 Z = true) : (Jvm.Cond.methodLink "com/example/shomer/shomer/engine/NamesLocalNamePinLaw" (8 : Nat) ({ cls := "com/example/shomer/shomer/engine/NamesLocalNamePinLaw", name := "draw", desc := "(I)C" } : Jvm.MethodName)).before a0 Z = true := hw _ (List.mem_of_getElem? (i := 1) rfl)
theorem wd2 {Z : State} {a0 : Array Value} (hw : ∀ d ∈ tables_1, d.before a0 Z = true) : (Jvm.Cond.static ({ cls := "com/example/shomer/shomer/engine/NamesLocalNamePinLaw", name := "draw", desc := "(I)C" } : Jvm.MethodName)).before a0 Z = true := hw _ (List.mem_of_getElem? (i := 2) rfl)
theorem wd3 {Z : State} {a0 : Array Value} (hw : ∀ d ∈ tables_1, d.before a0 Z = true) : (Jvm.Cond.initialized "com/example/shomer/shomer/engine/NamesLocalNamePinLaw").before a0 Z = true := hw _ (List.mem_of_getElem? (i := 3) rfl)
theorem wd4 {Z : State} {a0 : Array Value} (hw : ∀ d ∈ tables_1, d.before a0 Z = true) : (Jvm.Cond.code ({ cls := "com/example/shomer/shomer/engine/NamesLocalNamePinLaw", name := "draw", desc := "(I)C" } : Jvm.MethodName) method_2_code (2 : Nat) (Option.some Jvm.ClassFile.FieldType.char)).before a0 Z = true := hw _ (List.mem_of_getElem? (i := 4) rfl)
theorem wd5 {Z : State} {a0 : Array Value} (hw : ∀ d ∈ tables_1, d.before a0 Z = true) : (Jvm.Cond.arrayClass Jvm.ClassFile.FieldType.char).before a0 Z = true := hw _ (List.mem_of_getElem? (i := 5) rfl)
theorem wd6 {Z : State} {a0 : Array Value} (hw : ∀ d ∈ tables_1, d.before a0 Z = true) : (Jvm.Cond.classLink "com/example/shomer/shomer/engine/NamesLocalNamePinLaw" (14 : Nat) "java/lang/String").before a0 Z = true := hw _ (List.mem_of_getElem? (i := 6) rfl)
theorem wd7 {Z : State} {a0 : Array Value} (hw : ∀ d ∈ tables_1, d.before a0 Z = true) : (Jvm.Cond.instantiable "java/lang/String" (4 : Nat)).before a0 Z = true := hw _ (List.mem_of_getElem? (i := 7) rfl)
theorem wd8 {Z : State} {a0 : Array Value} (hw : ∀ d ∈ tables_1, d.before a0 Z = true) : (Jvm.Cond.initialized "java/lang/String").before a0 Z = true := hw _ (List.mem_of_getElem? (i := 8) rfl)
theorem wd9 {Z : State} {a0 : Array Value} (hw : ∀ d ∈ tables_1, d.before a0 Z = true) : (Jvm.Cond.methodLink "com/example/shomer/shomer/engine/NamesLocalNamePinLaw" (16 : Nat) ({ cls := "java/lang/String", name := "<init>", desc := "([C)V" } : Jvm.MethodName)).before a0 Z = true := hw _ (List.mem_of_getElem? (i := 9) rfl)
theorem wd10 {Z : State} {a0 : Array Value} (hw : ∀ d ∈ tables_1, d.before a0 Z = true) : (Jvm.Cond.instanceMethod ({ cls := "java/lang/String", name := "<init>", desc := "([C)V" } : Jvm.MethodName)).before a0 Z = true := hw _ (List.mem_of_getElem? (i := 10) rfl)
theorem wd11 {Z : State} {a0 : Array Value} (hw : ∀ d ∈ tables_1, d.before a0 Z = true) : (Jvm.Cond.code ({ cls := "java/lang/String", name := "<init>", desc := "([C)V" } : Jvm.MethodName) jdk_42_method_3_code (2 : Nat) (Option.none : Option Jvm.ClassFile.FieldType)).before a0 Z = true := hw _ (List.mem_of_getElem? (i := 11) rfl)
theorem wd12 {Z : State} {a0 : Array Value} (hw : ∀ d ∈ tables_1, d.before a0 Z = true) : (Jvm.Cond.methodLink "java/lang/String" (27 : Nat) ({ cls := "java/lang/String", name := "<init>", desc := "([CIILjava/lang/Void;)V" } : Jvm.MethodName)).before a0 Z = true := hw _ (List.mem_of_getElem? (i := 12) rfl)
theorem wd13 {Z : State} {a0 : Array Value} (hw : ∀ d ∈ tables_1, d.before a0 Z = true) : (Jvm.Cond.instanceMethod ({ cls := "java/lang/String", name := "<init>", desc := "([CIILjava/lang/Void;)V" } : Jvm.MethodName)).before a0 Z = true := hw _ (List.mem_of_getElem? (i := 13) rfl)
theorem wd15 {Z : State} {a0 : Array Value} (hw : ∀ d ∈ tables_1, d.before a0 Z = true) : (Jvm.Cond.code ({ cls := "java/lang/String", name := "<init>", desc := "([CIILjava/lang/Void;)V" } : Jvm.MethodName) jdk_42_method_149_code (6 : Nat) (Option.none : Option Jvm.ClassFile.FieldType)).before a0 Z = true := hw _ (List.mem_of_getElem? (i := 15) rfl)
theorem wd16 {Z : State} {a0 : Array Value} (hw : ∀ d ∈ tables_1, d.before a0 Z = true) : (Jvm.Cond.methodLink "java/lang/String" (1 : Nat) ({ cls := "java/lang/Object", name := "<init>", desc := "()V" } : Jvm.MethodName)).before a0 Z = true := hw _ (List.mem_of_getElem? (i := 16) rfl)
theorem wd17 {Z : State} {a0 : Array Value} (hw : ∀ d ∈ tables_1, d.before a0 Z = true) : (Jvm.Cond.instanceMethod ({ cls := "java/lang/Object", name := "<init>", desc := "()V" } : Jvm.MethodName)).before a0 Z = true := hw _ (List.mem_of_getElem? (i := 17) rfl)
theorem wd18 {Z : State} {a0 : Array Value} (hw : ∀ d ∈ tables_1, d.before a0 Z = true) : (Jvm.Cond.code ({ cls := "java/lang/Object", name := "<init>", desc := "()V" } : Jvm.MethodName) object_method_1_code (1 : Nat) (Option.none : Option Jvm.ClassFile.FieldType)).before a0 Z = true := hw _ (List.mem_of_getElem? (i := 18) rfl)
theorem wd19 {Z : State} {a0 : Array Value} (hw : ∀ d ∈ tables_1, d.before a0 Z = true) : (Jvm.Cond.stringLink "java/lang/String" (7 : Nat) "").before a0 Z = true := hw _ (List.mem_of_getElem? (i := 19) rfl)
theorem wd20 {Z : State} {a0 : Array Value} (hw : ∀ d ∈ tables_1, d.before a0 Z = true) : (Jvm.Cond.arrayClass Jvm.ClassFile.FieldType.byte).before a0 Z = true := hw _ (List.mem_of_getElem? (i := 20) rfl)
theorem wd21 {Z : State} {a0 : Array Value} (hw : ∀ d ∈ tables_1, d.before a0 Z = true) : (Jvm.Cond.laysFinal "java/lang/String" "java/lang/String" "value" "[B").before a0 Z = true := hw _ (List.mem_of_getElem? (i := 21) rfl)
theorem wd22 {Z : State} {a0 : Array Value} (hw : ∀ d ∈ tables_1, d.before a0 Z = true) : (Jvm.Cond.laysFinal "java/lang/String" "java/lang/String" "coder" "B").before a0 Z = true := hw _ (List.mem_of_getElem? (i := 22) rfl)
theorem wd25 {Z : State} {a0 : Array Value} (hw : ∀ d ∈ tables_1, d.before a0 Z = true) : (Jvm.Cond.fieldLink "java/lang/String" (9 : Nat) "java/lang/String" "value" "[B").before a0 Z = true := hw _ (List.mem_of_getElem? (i := 25) rfl)
theorem wd26 {Z : State} {a0 : Array Value} (hw : ∀ d ∈ tables_1, d.before a0 Z = true) : (Jvm.Cond.fieldLink "java/lang/String" (15 : Nat) "java/lang/String" "coder" "B").before a0 Z = true := hw _ (List.mem_of_getElem? (i := 26) rfl)
theorem wd27 {Z : State} {a0 : Array Value} (hw : ∀ d ∈ tables_1, d.before a0 Z = true) : (Jvm.Cond.methodLink "com/example/shomer/shomer/engine/NamesLocalNamePinLaw" (23 : Nat) ({ cls := "com/example/shomer/shomer/engine/Names", name := "localName", desc := "(Ljava/lang/String;)Ljava/lang/String;" } : Jvm.MethodName)).before a0 Z = true := hw _ (List.mem_of_getElem? (i := 27) rfl)
theorem wd28 {Z : State} {a0 : Array Value} (hw : ∀ d ∈ tables_1, d.before a0 Z = true) : (Jvm.Cond.static ({ cls := "com/example/shomer/shomer/engine/Names", name := "localName", desc := "(Ljava/lang/String;)Ljava/lang/String;" } : Jvm.MethodName)).before a0 Z = true := hw _ (List.mem_of_getElem? (i := 28) rfl)
theorem wd29 {Z : State} {a0 : Array Value} (hw : ∀ d ∈ tables_1, d.before a0 Z = true) : (Jvm.Cond.initialized "com/example/shomer/shomer/engine/Names").before a0 Z = true := hw _ (List.mem_of_getElem? (i := 29) rfl)
theorem wd30 {Z : State} {a0 : Array Value} (hw : ∀ d ∈ tables_1, d.before a0 Z = true) : (Jvm.Cond.code ({ cls := "com/example/shomer/shomer/engine/Names", name := "localName", desc := "(Ljava/lang/String;)Ljava/lang/String;" } : Jvm.MethodName) prog_7_method_2_code (2 : Nat) (Option.some (Jvm.ClassFile.FieldType.object "java/lang/String"))).before a0 Z = true := hw _ (List.mem_of_getElem? (i := 30) rfl)
theorem wd31 {Z : State} {a0 : Array Value} (hw : ∀ d ∈ tables_1, d.before a0 Z = true) : (Jvm.Cond.methodLink "com/example/shomer/shomer/engine/Names" (7 : Nat) ({ cls := "java/lang/String", name := "lastIndexOf", desc := "(I)I" } : Jvm.MethodName)).before a0 Z = true := hw _ (List.mem_of_getElem? (i := 31) rfl)
theorem wd32 {Z : State} {a0 : Array Value} (hw : ∀ d ∈ tables_1, d.before a0 Z = true) : (Jvm.Cond.declares ({ cls := "java/lang/String", name := "lastIndexOf", desc := "(I)I" } : Jvm.MethodName)).before a0 Z = true := hw _ (List.mem_of_getElem? (i := 32) rfl)
theorem wd33 {Z : State} {a0 : Array Value} (hw : ∀ d ∈ tables_1, d.before a0 Z = true) : (Jvm.Cond.instanceMethod ({ cls := "java/lang/String", name := "lastIndexOf", desc := "(I)I" } : Jvm.MethodName)).before a0 Z = true := hw _ (List.mem_of_getElem? (i := 33) rfl)
theorem wd34 {Z : State} {a0 : Array Value} (hw : ∀ d ∈ tables_1, d.before a0 Z = true) : (Jvm.Cond.selects "java/lang/String" ({ cls := "java/lang/String", name := "lastIndexOf", desc := "(I)I" } : Jvm.MethodName) ({ cls := "java/lang/String", name := "lastIndexOf", desc := "(I)I" } : Jvm.MethodName)).before a0 Z = true := hw _ (List.mem_of_getElem? (i := 34) rfl)
theorem wd35 {Z : State} {a0 : Array Value} (hw : ∀ d ∈ tables_1, d.before a0 Z = true) : (Jvm.Cond.code ({ cls := "java/lang/String", name := "lastIndexOf", desc := "(I)I" } : Jvm.MethodName) jdk_42_method_82_code (2 : Nat) (Option.some Jvm.ClassFile.FieldType.int)).before a0 Z = true := hw _ (List.mem_of_getElem? (i := 35) rfl)
theorem wd36 {Z : State} {a0 : Array Value} (hw : ∀ d ∈ tables_1, d.before a0 Z = true) : (Jvm.Cond.methodLink "java/lang/String" (505 : Nat) ({ cls := "java/lang/String", name := "length", desc := "()I" } : Jvm.MethodName)).before a0 Z = true := hw _ (List.mem_of_getElem? (i := 36) rfl)
theorem wd37 {Z : State} {a0 : Array Value} (hw : ∀ d ∈ tables_1, d.before a0 Z = true) : (Jvm.Cond.declares ({ cls := "java/lang/String", name := "length", desc := "()I" } : Jvm.MethodName)).before a0 Z = true := hw _ (List.mem_of_getElem? (i := 37) rfl)
theorem wd38 {Z : State} {a0 : Array Value} (hw : ∀ d ∈ tables_1, d.before a0 Z = true) : (Jvm.Cond.instanceMethod ({ cls := "java/lang/String", name := "length", desc := "()I" } : Jvm.MethodName)).before a0 Z = true := hw _ (List.mem_of_getElem? (i := 38) rfl)
theorem wd39 {Z : State} {a0 : Array Value} (hw : ∀ d ∈ tables_1, d.before a0 Z = true) : (Jvm.Cond.selects "java/lang/String" ({ cls := "java/lang/String", name := "length", desc := "()I" } : Jvm.MethodName) ({ cls := "java/lang/String", name := "length", desc := "()I" } : Jvm.MethodName)).before a0 Z = true := hw _ (List.mem_of_getElem? (i := 39) rfl)
theorem wd46 {Z : State} {a0 : Array Value} (hw : ∀ d ∈ tables_1, d.before a0 Z = true) : (Jvm.Cond.fieldLink "java/lang/String" (38 : Nat) "java/lang/String" "COMPACT_STRINGS" "Z").before a0 Z = true := hw _ (List.mem_of_getElem? (i := 46) rfl)
theorem wd47 {Z : State} {a0 : Array Value} (hw : ∀ d ∈ tables_1, d.before a0 Z = true) : (Jvm.Cond.methodLink "java/lang/String" (641 : Nat) ({ cls := "java/lang/String", name := "lastIndexOf", desc := "(II)I" } : Jvm.MethodName)).before a0 Z = true := hw _ (List.mem_of_getElem? (i := 47) rfl)
theorem wd48 {Z : State} {a0 : Array Value} (hw : ∀ d ∈ tables_1, d.before a0 Z = true) : (Jvm.Cond.declares ({ cls := "java/lang/String", name := "lastIndexOf", desc := "(II)I" } : Jvm.MethodName)).before a0 Z = true := hw _ (List.mem_of_getElem? (i := 48) rfl)
theorem wd49 {Z : State} {a0 : Array Value} (hw : ∀ d ∈ tables_1, d.before a0 Z = true) : (Jvm.Cond.instanceMethod ({ cls := "java/lang/String", name := "lastIndexOf", desc := "(II)I" } : Jvm.MethodName)).before a0 Z = true := hw _ (List.mem_of_getElem? (i := 49) rfl)
theorem wd50 {Z : State} {a0 : Array Value} (hw : ∀ d ∈ tables_1, d.before a0 Z = true) : (Jvm.Cond.selects "java/lang/String" ({ cls := "java/lang/String", name := "lastIndexOf", desc := "(II)I" } : Jvm.MethodName) ({ cls := "java/lang/String", name := "lastIndexOf", desc := "(II)I" } : Jvm.MethodName)).before a0 Z = true := hw _ (List.mem_of_getElem? (i := 50) rfl)
theorem wd51 {Z : State} {a0 : Array Value} (hw : ∀ d ∈ tables_1, d.before a0 Z = true) : (Jvm.Cond.code ({ cls := "java/lang/String", name := "lastIndexOf", desc := "(II)I" } : Jvm.MethodName) jdk_42_method_83_code (3 : Nat) (Option.some Jvm.ClassFile.FieldType.int)).before a0 Z = true := hw _ (List.mem_of_getElem? (i := 51) rfl)
theorem wd52 {Z : State} {a0 : Array Value} (hw : ∀ d ∈ tables_1, d.before a0 Z = true) : (Jvm.Cond.methodLink "java/lang/String" (492 : Nat) ({ cls := "java/lang/String", name := "isLatin1", desc := "()Z" } : Jvm.MethodName)).before a0 Z = true := hw _ (List.mem_of_getElem? (i := 52) rfl)
theorem wd53 {Z : State} {a0 : Array Value} (hw : ∀ d ∈ tables_1, d.before a0 Z = true) : (Jvm.Cond.declares ({ cls := "java/lang/String", name := "isLatin1", desc := "()Z" } : Jvm.MethodName)).before a0 Z = true := hw _ (List.mem_of_getElem? (i := 53) rfl)
theorem wd54 {Z : State} {a0 : Array Value} (hw : ∀ d ∈ tables_1, d.before a0 Z = true) : (Jvm.Cond.instanceMethod ({ cls := "java/lang/String", name := "isLatin1", desc := "()Z" } : Jvm.MethodName)).before a0 Z = true := hw _ (List.mem_of_getElem? (i := 54) rfl)
theorem wd55 {Z : State} {a0 : Array Value} (hw : ∀ d ∈ tables_1, d.before a0 Z = true) : (Jvm.Cond.selects "java/lang/String" ({ cls := "java/lang/String", name := "isLatin1", desc := "()Z" } : Jvm.MethodName) ({ cls := "java/lang/String", name := "isLatin1", desc := "()Z" } : Jvm.MethodName)).before a0 Z = true := hw _ (List.mem_of_getElem? (i := 55) rfl)
theorem wd56 {Z : State} {a0 : Array Value} (hw : ∀ d ∈ tables_1, d.before a0 Z = true) : (Jvm.Cond.code ({ cls := "java/lang/String", name := "isLatin1", desc := "()Z" } : Jvm.MethodName) jdk_42_method_154_code (1 : Nat) (Option.some Jvm.ClassFile.FieldType.boolean)).before a0 Z = true := hw _ (List.mem_of_getElem? (i := 56) rfl)
theorem wd57 {Z : State} {a0 : Array Value} (hw : ∀ d ∈ tables_1, d.before a0 Z = true) : (Jvm.Cond.methodLink "java/lang/String" (644 : Nat) ({ cls := "java/lang/StringLatin1", name := "lastIndexOf", desc := "([BII)I" } : Jvm.MethodName)).before a0 Z = true := hw _ (List.mem_of_getElem? (i := 57) rfl)
theorem wd58 {Z : State} {a0 : Array Value} (hw : ∀ d ∈ tables_1, d.before a0 Z = true) : (Jvm.Cond.static ({ cls := "java/lang/StringLatin1", name := "lastIndexOf", desc := "([BII)I" } : Jvm.MethodName)).before a0 Z = true := hw _ (List.mem_of_getElem? (i := 58) rfl)
theorem wd59 {Z : State} {a0 : Array Value} (hw : ∀ d ∈ tables_1, d.before a0 Z = true) : (Jvm.Cond.initialized "java/lang/StringLatin1").before a0 Z = true := hw _ (List.mem_of_getElem? (i := 59) rfl)
theorem wd60 {Z : State} {a0 : Array Value} (hw : ∀ d ∈ tables_1, d.before a0 Z = true) : (Jvm.Cond.code ({ cls := "java/lang/StringLatin1", name := "lastIndexOf", desc := "([BII)I" } : Jvm.MethodName) jdk_43_method_27_code (4 : Nat) (Option.some Jvm.ClassFile.FieldType.int)).before a0 Z = true := hw _ (List.mem_of_getElem? (i := 60) rfl)
theorem wd61 {Z : State} {a0 : Array Value} (hw : ∀ d ∈ tables_1, d.before a0 Z = true) : (Jvm.Cond.methodLink "java/lang/StringLatin1" (88 : Nat) ({ cls := "java/lang/StringLatin1", name := "canEncode", desc := "(I)Z" } : Jvm.MethodName)).before a0 Z = true := hw _ (List.mem_of_getElem? (i := 61) rfl)
theorem wd62 {Z : State} {a0 : Array Value} (hw : ∀ d ∈ tables_1, d.before a0 Z = true) : (Jvm.Cond.static ({ cls := "java/lang/StringLatin1", name := "canEncode", desc := "(I)Z" } : Jvm.MethodName)).before a0 Z = true := hw _ (List.mem_of_getElem? (i := 62) rfl)
theorem wd63 {Z : State} {a0 : Array Value} (hw : ∀ d ∈ tables_1, d.before a0 Z = true) : (Jvm.Cond.code ({ cls := "java/lang/StringLatin1", name := "canEncode", desc := "(I)Z" } : Jvm.MethodName) jdk_43_method_4_code (1 : Nat) (Option.some Jvm.ClassFile.FieldType.boolean)).before a0 Z = true := hw _ (List.mem_of_getElem? (i := 63) rfl)
theorem wd64 {Z : State} {a0 : Array Value} (hw : ∀ d ∈ tables_1, d.before a0 Z = true) : (Jvm.Cond.methodLink "java/lang/StringLatin1" (38 : Nat) ({ cls := "java/lang/Math", name := "min", desc := "(II)I" } : Jvm.MethodName)).before a0 Z = true := hw _ (List.mem_of_getElem? (i := 64) rfl)
theorem wd65 {Z : State} {a0 : Array Value} (hw : ∀ d ∈ tables_1, d.before a0 Z = true) : (Jvm.Cond.static ({ cls := "java/lang/Math", name := "min", desc := "(II)I" } : Jvm.MethodName)).before a0 Z = true := hw _ (List.mem_of_getElem? (i := 65) rfl)
theorem wd66 {Z : State} {a0 : Array Value} (hw : ∀ d ∈ tables_1, d.before a0 Z = true) : (Jvm.Cond.initialized "java/lang/Math").before a0 Z = true := hw _ (List.mem_of_getElem? (i := 66) rfl)
theorem wd67 {Z : State} {a0 : Array Value} (hw : ∀ d ∈ tables_1, d.before a0 Z = true) : (Jvm.Cond.code ({ cls := "java/lang/Math", name := "min", desc := "(II)I" } : Jvm.MethodName) jdk_29_method_69_code (2 : Nat) (Option.some Jvm.ClassFile.FieldType.int)).before a0 Z = true := hw _ (List.mem_of_getElem? (i := 67) rfl)
theorem wd68 {Z : State} {a0 : Array Value} (hw : ∀ d ∈ tables_1, d.before a0 Z = true) : (Jvm.Cond.methodLink "com/example/shomer/shomer/engine/Names" (13 : Nat) ({ cls := "java/lang/Math", name := "max", desc := "(II)I" } : Jvm.MethodName)).before a0 Z = true := hw _ (List.mem_of_getElem? (i := 68) rfl)
theorem wd69 {Z : State} {a0 : Array Value} (hw : ∀ d ∈ tables_1, d.before a0 Z = true) : (Jvm.Cond.static ({ cls := "java/lang/Math", name := "max", desc := "(II)I" } : Jvm.MethodName)).before a0 Z = true := hw _ (List.mem_of_getElem? (i := 69) rfl)
theorem wd70 {Z : State} {a0 : Array Value} (hw : ∀ d ∈ tables_1, d.before a0 Z = true) : (Jvm.Cond.code ({ cls := "java/lang/Math", name := "max", desc := "(II)I" } : Jvm.MethodName) jdk_29_method_65_code (2 : Nat) (Option.some Jvm.ClassFile.FieldType.int)).before a0 Z = true := hw _ (List.mem_of_getElem? (i := 70) rfl)
theorem wd71 {Z : State} {a0 : Array Value} (hw : ∀ d ∈ tables_1, d.before a0 Z = true) : (Jvm.Cond.methodLink "com/example/shomer/shomer/engine/Names" (19 : Nat) ({ cls := "java/lang/String", name := "substring", desc := "(I)Ljava/lang/String;" } : Jvm.MethodName)).before a0 Z = true := hw _ (List.mem_of_getElem? (i := 71) rfl)
theorem wd72 {Z : State} {a0 : Array Value} (hw : ∀ d ∈ tables_1, d.before a0 Z = true) : (Jvm.Cond.declares ({ cls := "java/lang/String", name := "substring", desc := "(I)Ljava/lang/String;" } : Jvm.MethodName)).before a0 Z = true := hw _ (List.mem_of_getElem? (i := 72) rfl)
theorem wd73 {Z : State} {a0 : Array Value} (hw : ∀ d ∈ tables_1, d.before a0 Z = true) : (Jvm.Cond.instanceMethod ({ cls := "java/lang/String", name := "substring", desc := "(I)Ljava/lang/String;" } : Jvm.MethodName)).before a0 Z = true := hw _ (List.mem_of_getElem? (i := 73) rfl)
theorem wd74 {Z : State} {a0 : Array Value} (hw : ∀ d ∈ tables_1, d.before a0 Z = true) : (Jvm.Cond.selects "java/lang/String" ({ cls := "java/lang/String", name := "substring", desc := "(I)Ljava/lang/String;" } : Jvm.MethodName) ({ cls := "java/lang/String", name := "substring", desc := "(I)Ljava/lang/String;" } : Jvm.MethodName)).before a0 Z = true := hw _ (List.mem_of_getElem? (i := 74) rfl)
theorem wd75 {Z : State} {a0 : Array Value} (hw : ∀ d ∈ tables_1, d.before a0 Z = true) : (Jvm.Cond.code ({ cls := "java/lang/String", name := "substring", desc := "(I)Ljava/lang/String;" } : Jvm.MethodName) jdk_42_method_91_code (2 : Nat) (Option.some (Jvm.ClassFile.FieldType.object "java/lang/String"))).before a0 Z = true := hw _ (List.mem_of_getElem? (i := 75) rfl)
theorem wd76 {Z : State} {a0 : Array Value} (hw : ∀ d ∈ tables_1, d.before a0 Z = true) : (Jvm.Cond.methodLink "java/lang/String" (681 : Nat) ({ cls := "java/lang/String", name := "substring", desc := "(II)Ljava/lang/String;" } : Jvm.MethodName)).before a0 Z = true := hw _ (List.mem_of_getElem? (i := 76) rfl)
theorem wd77 {Z : State} {a0 : Array Value} (hw : ∀ d ∈ tables_1, d.before a0 Z = true) : (Jvm.Cond.declares ({ cls := "java/lang/String", name := "substring", desc := "(II)Ljava/lang/String;" } : Jvm.MethodName)).before a0 Z = true := hw _ (List.mem_of_getElem? (i := 77) rfl)
theorem wd78 {Z : State} {a0 : Array Value} (hw : ∀ d ∈ tables_1, d.before a0 Z = true) : (Jvm.Cond.instanceMethod ({ cls := "java/lang/String", name := "substring", desc := "(II)Ljava/lang/String;" } : Jvm.MethodName)).before a0 Z = true := hw _ (List.mem_of_getElem? (i := 78) rfl)
theorem wd79 {Z : State} {a0 : Array Value} (hw : ∀ d ∈ tables_1, d.before a0 Z = true) : (Jvm.Cond.selects "java/lang/String" ({ cls := "java/lang/String", name := "substring", desc := "(II)Ljava/lang/String;" } : Jvm.MethodName) ({ cls := "java/lang/String", name := "substring", desc := "(II)Ljava/lang/String;" } : Jvm.MethodName)).before a0 Z = true := hw _ (List.mem_of_getElem? (i := 79) rfl)
theorem wd80 {Z : State} {a0 : Array Value} (hw : ∀ d ∈ tables_1, d.before a0 Z = true) : (Jvm.Cond.code ({ cls := "java/lang/String", name := "substring", desc := "(II)Ljava/lang/String;" } : Jvm.MethodName) jdk_42_method_92_code (5 : Nat) (Option.some (Jvm.ClassFile.FieldType.object "java/lang/String"))).before a0 Z = true := hw _ (List.mem_of_getElem? (i := 80) rfl)
theorem wd81 {Z : State} {a0 : Array Value} (hw : ∀ d ∈ tables_1, d.before a0 Z = true) : (Jvm.Cond.methodLink "java/lang/String" (521 : Nat) ({ cls := "java/lang/String", name := "checkBoundsBeginEnd", desc := "(III)V" } : Jvm.MethodName)).before a0 Z = true := hw _ (List.mem_of_getElem? (i := 81) rfl)
theorem wd82 {Z : State} {a0 : Array Value} (hw : ∀ d ∈ tables_1, d.before a0 Z = true) : (Jvm.Cond.static ({ cls := "java/lang/String", name := "checkBoundsBeginEnd", desc := "(III)V" } : Jvm.MethodName)).before a0 Z = true := hw _ (List.mem_of_getElem? (i := 82) rfl)
theorem wd83 {Z : State} {a0 : Array Value} (hw : ∀ d ∈ tables_1, d.before a0 Z = true) : (Jvm.Cond.code ({ cls := "java/lang/String", name := "checkBoundsBeginEnd", desc := "(III)V" } : Jvm.MethodName) jdk_42_method_158_code (3 : Nat) (Option.none : Option Jvm.ClassFile.FieldType)).before a0 Z = true := hw _ (List.mem_of_getElem? (i := 83) rfl)
theorem wd84 {Z : State} {a0 : Array Value} (hw : ∀ d ∈ tables_1, d.before a0 Z = true) : (Jvm.Cond.fieldLink "java/lang/String" (1053 : Nat) "jdk/internal/util/Preconditions" "SIOOBE_FORMATTER" "Ljava/util/function/BiFunction;").before a0 Z = true := hw _ (List.mem_of_getElem? (i := 84) rfl)
theorem wd85 {Z : State} {a0 : Array Value} (hw : ∀ d ∈ tables_1, d.before a0 Z = true) : (Jvm.Cond.initialized "jdk/internal/util/Preconditions").before a0 Z = true := hw _ (List.mem_of_getElem? (i := 85) rfl)
theorem wd86 {Z : State} {a0 : Array Value} (hw : ∀ d ∈ tables_1, d.before a0 Z = true) : (Jvm.Cond.methodLink "java/lang/String" (1062 : Nat) ({ cls := "jdk/internal/util/Preconditions", name := "checkFromToIndex", desc := "(IIILjava/util/function/BiFunction;)I" } : Jvm.MethodName)).before a0 Z = true := hw _ (List.mem_of_getElem? (i := 86) rfl)
theorem wd87 {Z : State} {a0 : Array Value} (hw : ∀ d ∈ tables_1, d.before a0 Z = true) : (Jvm.Cond.static ({ cls := "jdk/internal/util/Preconditions", name := "checkFromToIndex", desc := "(IIILjava/util/function/BiFunction;)I" } : Jvm.MethodName)).before a0 Z = true := hw _ (List.mem_of_getElem? (i := 87) rfl)
theorem wd88 {Z : State} {a0 : Array Value} (hw : ∀ d ∈ tables_1, d.before a0 Z = true) : (Jvm.Cond.code ({ cls := "jdk/internal/util/Preconditions", name := "checkFromToIndex", desc := "(IIILjava/util/function/BiFunction;)I" } : Jvm.MethodName) jdk_41_method_12_code (4 : Nat) (Option.some Jvm.ClassFile.FieldType.int)).before a0 Z = true := hw _ (List.mem_of_getElem? (i := 88) rfl)
theorem wd89 {Z : State} {a0 : Array Value} (hw : ∀ d ∈ tables_1, d.before a0 Z = true) : (Jvm.Cond.methodLink "com/example/shomer/shomer/engine/NamesLocalNamePinLaw" (29 : Nat) ({ cls := "java/lang/String", name := "length", desc := "()I" } : Jvm.MethodName)).before a0 Z = true := hw _ (List.mem_of_getElem? (i := 89) rfl)
theorem wd100 {Z : State} {a0 : Array Value} (hw : ∀ d ∈ tables_1, d.before a0 Z = true) : (Jvm.Cond.methodLink "com/example/shomer/shomer/engine/NamesLocalNamePinLaw" (19 : Nat) ({ cls := "com/example/shomer/shomer/engine/NamesLocalNamePinLaw", name := "isSep", desc := "(C)Z" } : Jvm.MethodName)).before a0 Z = true := hw _ (List.mem_of_getElem? (i := 100) rfl)
theorem wd101 {Z : State} {a0 : Array Value} (hw : ∀ d ∈ tables_1, d.before a0 Z = true) : (Jvm.Cond.static ({ cls := "com/example/shomer/shomer/engine/NamesLocalNamePinLaw", name := "isSep", desc := "(C)Z" } : Jvm.MethodName)).before a0 Z = true := hw _ (List.mem_of_getElem? (i := 101) rfl)
theorem wd102 {Z : State} {a0 : Array Value} (hw : ∀ d ∈ tables_1, d.before a0 Z = true) : (Jvm.Cond.code ({ cls := "com/example/shomer/shomer/engine/NamesLocalNamePinLaw", name := "isSep", desc := "(C)Z" } : Jvm.MethodName) method_3_code (1 : Nat) (Option.some Jvm.ClassFile.FieldType.boolean)).before a0 Z = true := hw _ (List.mem_of_getElem? (i := 102) rfl)
theorem wd103 {Z : State} {a0 : Array Value} (hw : ∀ d ∈ tables_1, d.before a0 Z = true) : (Jvm.Cond.methodLink "java/lang/String" (685 : Nat) ({ cls := "java/lang/StringLatin1", name := "newString", desc := "([BII)Ljava/lang/String;" } : Jvm.MethodName)).before a0 Z = true := hw _ (List.mem_of_getElem? (i := 103) rfl)
theorem wd104 {Z : State} {a0 : Array Value} (hw : ∀ d ∈ tables_1, d.before a0 Z = true) : (Jvm.Cond.static ({ cls := "java/lang/StringLatin1", name := "newString", desc := "([BII)Ljava/lang/String;" } : Jvm.MethodName)).before a0 Z = true := hw _ (List.mem_of_getElem? (i := 104) rfl)
theorem wd105 {Z : State} {a0 : Array Value} (hw : ∀ d ∈ tables_1, d.before a0 Z = true) : (Jvm.Cond.code ({ cls := "java/lang/StringLatin1", name := "newString", desc := "([BII)Ljava/lang/String;" } : Jvm.MethodName) jdk_43_method_47_code (3 : Nat) (Option.some (Jvm.ClassFile.FieldType.object "java/lang/String"))).before a0 Z = true := hw _ (List.mem_of_getElem? (i := 105) rfl)
theorem wd106 {Z : State} {a0 : Array Value} (hw : ∀ d ∈ tables_1, d.before a0 Z = true) : (Jvm.Cond.stringLink "java/lang/StringLatin1" (151 : Nat) "").before a0 Z = true := hw _ (List.mem_of_getElem? (i := 106) rfl)
theorem wd107 {Z : State} {a0 : Array Value} (hw : ∀ d ∈ tables_1, d.before a0 Z = true) : (Jvm.Cond.methodLink "com/example/shomer/shomer/engine/NamesLocalNamePinLaw" (33 : Nat) ({ cls := "java/lang/String", name := "charAt", desc := "(I)C" } : Jvm.MethodName)).before a0 Z = true := hw _ (List.mem_of_getElem? (i := 107) rfl)
theorem wd108 {Z : State} {a0 : Array Value} (hw : ∀ d ∈ tables_1, d.before a0 Z = true) : (Jvm.Cond.declares ({ cls := "java/lang/String", name := "charAt", desc := "(I)C" } : Jvm.MethodName)).before a0 Z = true := hw _ (List.mem_of_getElem? (i := 108) rfl)
theorem wd109 {Z : State} {a0 : Array Value} (hw : ∀ d ∈ tables_1, d.before a0 Z = true) : (Jvm.Cond.instanceMethod ({ cls := "java/lang/String", name := "charAt", desc := "(I)C" } : Jvm.MethodName)).before a0 Z = true := hw _ (List.mem_of_getElem? (i := 109) rfl)
theorem wd110 {Z : State} {a0 : Array Value} (hw : ∀ d ∈ tables_1, d.before a0 Z = true) : (Jvm.Cond.selects "java/lang/String" ({ cls := "java/lang/String", name := "charAt", desc := "(I)C" } : Jvm.MethodName) ({ cls := "java/lang/String", name := "charAt", desc := "(I)C" } : Jvm.MethodName)).before a0 Z = true := hw _ (List.mem_of_getElem? (i := 110) rfl)
theorem wd121 {Z : State} {a0 : Array Value} (hw : ∀ d ∈ tables_1, d.before a0 Z = true) : (Jvm.Cond.classLink "java/lang/StringLatin1" (1 : Nat) "java/lang/String").before a0 Z = true := hw _ (List.mem_of_getElem? (i := 121) rfl)
theorem wd122 {Z : State} {a0 : Array Value} (hw : ∀ d ∈ tables_1, d.before a0 Z = true) : (Jvm.Cond.methodLink "java/lang/StringLatin1" (232 : Nat) ({ cls := "java/util/Arrays", name := "copyOfRange", desc := "([BII)[B" } : Jvm.MethodName)).before a0 Z = true := hw _ (List.mem_of_getElem? (i := 122) rfl)
theorem wd123 {Z : State} {a0 : Array Value} (hw : ∀ d ∈ tables_1, d.before a0 Z = true) : (Jvm.Cond.static ({ cls := "java/util/Arrays", name := "copyOfRange", desc := "([BII)[B" } : Jvm.MethodName)).before a0 Z = true := hw _ (List.mem_of_getElem? (i := 123) rfl)
theorem wd124 {Z : State} {a0 : Array Value} (hw : ∀ d ∈ tables_1, d.before a0 Z = true) : (Jvm.Cond.initialized "java/util/Arrays").before a0 Z = true := hw _ (List.mem_of_getElem? (i := 124) rfl)
theorem wd125 {Z : State} {a0 : Array Value} (hw : ∀ d ∈ tables_1, d.before a0 Z = true) : (Jvm.Cond.code ({ cls := "java/util/Arrays", name := "copyOfRange", desc := "([BII)[B" } : Jvm.MethodName) jdk_65_method_132_code (3 : Nat) (Option.some (Jvm.ClassFile.FieldType.array Jvm.ClassFile.FieldType.byte))).before a0 Z = true := hw _ (List.mem_of_getElem? (i := 125) rfl)
theorem wd126 {Z : State} {a0 : Array Value} (hw : ∀ d ∈ tables_1, d.before a0 Z = true) : (Jvm.Cond.methodLink "java/util/Arrays" (339 : Nat) ({ cls := "java/util/Arrays", name := "copyOfRangeByte", desc := "([BII)[B" } : Jvm.MethodName)).before a0 Z = true := hw _ (List.mem_of_getElem? (i := 126) rfl)
theorem wd127 {Z : State} {a0 : Array Value} (hw : ∀ d ∈ tables_1, d.before a0 Z = true) : (Jvm.Cond.static ({ cls := "java/util/Arrays", name := "copyOfRangeByte", desc := "([BII)[B" } : Jvm.MethodName)).before a0 Z = true := hw _ (List.mem_of_getElem? (i := 127) rfl)
theorem wd128 {Z : State} {a0 : Array Value} (hw : ∀ d ∈ tables_1, d.before a0 Z = true) : (Jvm.Cond.code ({ cls := "java/util/Arrays", name := "copyOfRangeByte", desc := "([BII)[B" } : Jvm.MethodName) jdk_65_method_133_code (5 : Nat) (Option.some (Jvm.ClassFile.FieldType.array Jvm.ClassFile.FieldType.byte))).before a0 Z = true := hw _ (List.mem_of_getElem? (i := 128) rfl)
theorem wd129 {Z : State} {a0 : Array Value} (hw : ∀ d ∈ tables_1, d.before a0 Z = true) : (Jvm.Cond.methodLink "java/util/Arrays" (343 : Nat) ({ cls := "java/util/Arrays", name := "checkLength", desc := "(II)V" } : Jvm.MethodName)).before a0 Z = true := hw _ (List.mem_of_getElem? (i := 129) rfl)
theorem wd130 {Z : State} {a0 : Array Value} (hw : ∀ d ∈ tables_1, d.before a0 Z = true) : (Jvm.Cond.static ({ cls := "java/util/Arrays", name := "checkLength", desc := "(II)V" } : Jvm.MethodName)).before a0 Z = true := hw _ (List.mem_of_getElem? (i := 130) rfl)
theorem wd131 {Z : State} {a0 : Array Value} (hw : ∀ d ∈ tables_1, d.before a0 Z = true) : (Jvm.Cond.code ({ cls := "java/util/Arrays", name := "checkLength", desc := "(II)V" } : Jvm.MethodName) jdk_65_method_131_code (2 : Nat) (Option.none : Option Jvm.ClassFile.FieldType)).before a0 Z = true := hw _ (List.mem_of_getElem? (i := 131) rfl)
theorem wd132 {Z : State} {a0 : Array Value} (hw : ∀ d ∈ tables_1, d.before a0 Z = true) : (Jvm.Cond.methodLink "java/util/Arrays" (304 : Nat) ({ cls := "java/lang/Math", name := "min", desc := "(II)I" } : Jvm.MethodName)).before a0 Z = true := hw _ (List.mem_of_getElem? (i := 132) rfl)
theorem wd133 {Z : State} {a0 : Array Value} (hw : ∀ d ∈ tables_1, d.before a0 Z = true) : (Jvm.Cond.methodLink "java/util/Arrays" (150 : Nat) ({ cls := "java/lang/System", name := "arraycopy", desc := "(Ljava/lang/Object;ILjava/lang/Object;II)V" } : Jvm.MethodName)).before a0 Z = true := hw _ (List.mem_of_getElem? (i := 133) rfl)
theorem wd134 {Z : State} {a0 : Array Value} (hw : ∀ d ∈ tables_1, d.before a0 Z = true) : (Jvm.Cond.static ({ cls := "java/lang/System", name := "arraycopy", desc := "(Ljava/lang/Object;ILjava/lang/Object;II)V" } : Jvm.MethodName)).before a0 Z = true := hw _ (List.mem_of_getElem? (i := 134) rfl)
theorem wd135 {Z : State} {a0 : Array Value} (hw : ∀ d ∈ tables_1, d.before a0 Z = true) : (Jvm.Cond.initialized "java/lang/System").before a0 Z = true := hw _ (List.mem_of_getElem? (i := 135) rfl)
theorem wd136 {Z : State} {a0 : Array Value} (hw : ∀ d ∈ tables_1, d.before a0 Z = true) : (Jvm.Cond.native ({ cls := "java/lang/System", name := "arraycopy", desc := "(Ljava/lang/Object;ILjava/lang/Object;II)V" } : Jvm.MethodName)).before a0 Z = true := hw _ (List.mem_of_getElem? (i := 136) rfl)
theorem wd137 {Z : State} {a0 : Array Value} (hw : ∀ d ∈ tables_1, d.before a0 Z = true) : (Jvm.Cond.methodLink "java/lang/StringLatin1" (112 : Nat) ({ cls := "java/lang/String", name := "<init>", desc := "([BB)V" } : Jvm.MethodName)).before a0 Z = true := hw _ (List.mem_of_getElem? (i := 137) rfl)
theorem wd138 {Z : State} {a0 : Array Value} (hw : ∀ d ∈ tables_1, d.before a0 Z = true) : (Jvm.Cond.instanceMethod ({ cls := "java/lang/String", name := "<init>", desc := "([BB)V" } : Jvm.MethodName)).before a0 Z = true := hw _ (List.mem_of_getElem? (i := 138) rfl)
theorem wd139 {Z : State} {a0 : Array Value} (hw : ∀ d ∈ tables_1, d.before a0 Z = true) : (Jvm.Cond.code ({ cls := "java/lang/String", name := "<init>", desc := "([BB)V" } : Jvm.MethodName) jdk_42_method_151_code (3 : Nat) (Option.none : Option Jvm.ClassFile.FieldType)).before a0 Z = true := hw _ (List.mem_of_getElem? (i := 139) rfl)
theorem pd_0 : parseMethodDescriptor "([CIILjava/lang/Void;)V" = some ⟨[(.array .char), .int, .int, (.object "java/lang/Void")], none⟩ := by decide +kernel
theorem pd_1 : parseMethodDescriptor "(I)Z" = some ⟨[.int], some .boolean⟩ := by decide +kernel
theorem pd_2 : parseMethodDescriptor "(II)I" = some ⟨[.int, .int], some .int⟩ := by decide +kernel
theorem pd_3 : parseMethodDescriptor "()Z" = some ⟨[], some .boolean⟩ := by decide +kernel
theorem pd_4 : parseMethodDescriptor "([BII)I" = some ⟨[(.array .byte), .int, .int], some .int⟩ := by decide +kernel
theorem pd_5 : parseMethodDescriptor "()I" = some ⟨[], some .int⟩ := by decide +kernel
theorem pd_6 : parseMethodDescriptor "(II)V" = some ⟨[.int, .int], none⟩ := by decide +kernel
theorem pd_7 : parseMethodDescriptor "([BII)[B" = some ⟨[(.array .byte), .int, .int], some (.array .byte)⟩ := by decide +kernel
theorem pd_8 : parseMethodDescriptor "(IIILjava/util/function/BiFunction;)I" = some ⟨[.int, .int, .int, (.object "java/util/function/BiFunction")], some .int⟩ := by decide +kernel
theorem pd_9 : parseMethodDescriptor "([BB)V" = some ⟨[(.array .byte), .byte], none⟩ := by decide +kernel
theorem pd_10 : parseMethodDescriptor "(III)V" = some ⟨[.int, .int, .int], none⟩ := by decide +kernel
theorem pd_11 : parseMethodDescriptor "([BII)Ljava/lang/String;" = some ⟨[(.array .byte), .int, .int], some (.object "java/lang/String")⟩ := by decide +kernel
theorem pd_12 : parseMethodDescriptor "(II)Ljava/lang/String;" = some ⟨[.int, .int], some (.object "java/lang/String")⟩ := by decide +kernel
theorem pd_13 : parseMethodDescriptor "(I)I" = some ⟨[.int], some .int⟩ := by decide +kernel
theorem pd_14 : parseMethodDescriptor "(I)Ljava/lang/String;" = some ⟨[.int], some (.object "java/lang/String")⟩ := by decide +kernel
theorem pd_15 : parseMethodDescriptor "(I)C" = some ⟨[.int], some .char⟩ := by decide +kernel
theorem pd_16 : parseMethodDescriptor "(Ljava/lang/String;)Ljava/lang/String;" = some ⟨[(.object "java/lang/String")], some (.object "java/lang/String")⟩ := by decide +kernel
theorem pd_17 : parseMethodDescriptor "(C)Z" = some ⟨[.char], some .boolean⟩ := by decide +kernel
theorem pd_18 : parseMethodDescriptor "([C)V" = some ⟨[(.array .char)], none⟩ := by decide +kernel
theorem d10_0 : decode jdk_42_method_154_code 0 = .ok (.getstatic 38, 3) := by decide +kernel
theorem d10_3 : decode jdk_42_method_154_code 3 = .ok (.ifCond .eq 14, 3) := by decide +kernel
theorem d10_6 : decode jdk_42_method_154_code 6 = .ok (.aload_n 0, 1) := by decide +kernel
theorem d10_7 : decode jdk_42_method_154_code 7 = .ok (.getfield 15, 3) := by decide +kernel
theorem d10_10 : decode jdk_42_method_154_code 10 = .ok (.ifCond .ne 7, 3) := by decide +kernel
theorem d10_13 : decode jdk_42_method_154_code 13 = .ok (.iconst 1, 1) := by decide +kernel
theorem d10_14 : decode jdk_42_method_154_code 14 = .ok (.goto 4, 3) := by decide +kernel
theorem d10_18 : decode jdk_42_method_154_code 18 = .ok (.ireturn, 1) := by decide +kernel
theorem d3_0 : decode jdk_42_method_149_code 0 = .ok (.aload_n 0, 1) := by decide +kernel
theorem d3_1 : decode jdk_42_method_149_code 1 = .ok (.invokespecial 1, 3) := by decide +kernel
theorem d3_4 : decode jdk_42_method_149_code 4 = .ok (.iload_n 3, 1) := by decide +kernel
theorem d3_5 : decode jdk_42_method_149_code 5 = .ok (.ifCond .ne 22, 3) := by decide +kernel
theorem d3_8 : decode jdk_42_method_149_code 8 = .ok (.aload_n 0, 1) := by decide +kernel
theorem d3_9 : decode jdk_42_method_149_code 9 = .ok (.ldc 7, 2) := by decide +kernel
theorem d3_11 : decode jdk_42_method_149_code 11 = .ok (.getfield 9, 3) := by decide +kernel
theorem d3_14 : decode jdk_42_method_149_code 14 = .ok (.putfield 9, 3) := by decide +kernel
theorem d3_17 : decode jdk_42_method_149_code 17 = .ok (.aload_n 0, 1) := by decide +kernel
theorem d3_18 : decode jdk_42_method_149_code 18 = .ok (.ldc 7, 2) := by decide +kernel
theorem d3_20 : decode jdk_42_method_149_code 20 = .ok (.getfield 15, 3) := by decide +kernel
theorem d3_23 : decode jdk_42_method_149_code 23 = .ok (.putfield 15, 3) := by decide +kernel
theorem d3_26 : decode jdk_42_method_149_code 26 = .ok (.return_, 1) := by decide +kernel
theorem d2_0 : decode jdk_42_method_3_code 0 = .ok (.aload_n 0, 1) := by decide +kernel
theorem d2_1 : decode jdk_42_method_3_code 1 = .ok (.aload_n 1, 1) := by decide +kernel
theorem d2_2 : decode jdk_42_method_3_code 2 = .ok (.iconst 0, 1) := by decide +kernel
theorem d2_3 : decode jdk_42_method_3_code 3 = .ok (.aload_n 1, 1) := by decide +kernel
theorem d2_4 : decode jdk_42_method_3_code 4 = .ok (.arraylength, 1) := by decide +kernel
theorem d2_5 : decode jdk_42_method_3_code 5 = .ok (.aconst_null, 1) := by decide +kernel
theorem d2_6 : decode jdk_42_method_3_code 6 = .ok (.invokespecial 27, 3) := by decide +kernel
theorem d2_9 : decode jdk_42_method_3_code 9 = .ok (.return_, 1) := by decide +kernel
theorem d13_0 : decode jdk_29_method_69_code 0 = .ok (.iload_n 0, 1) := by decide +kernel
theorem d13_1 : decode jdk_29_method_69_code 1 = .ok (.iload_n 1, 1) := by decide +kernel
theorem d13_2 : decode jdk_29_method_69_code 2 = .ok (.if_icmp .gt 7, 3) := by decide +kernel
theorem d13_9 : decode jdk_29_method_69_code 9 = .ok (.iload_n 1, 1) := by decide +kernel
theorem d13_10 : decode jdk_29_method_69_code 10 = .ok (.ireturn, 1) := by decide +kernel
theorem d13_5 : decode jdk_29_method_69_code 5 = .ok (.iload_n 0, 1) := by decide +kernel
theorem d13_6 : decode jdk_29_method_69_code 6 = .ok (.goto 4, 3) := by decide +kernel
theorem d14_0 : decode jdk_29_method_65_code 0 = .ok (.iload_n 0, 1) := by decide +kernel
theorem d14_1 : decode jdk_29_method_65_code 1 = .ok (.iload_n 1, 1) := by decide +kernel
theorem d14_2 : decode jdk_29_method_65_code 2 = .ok (.if_icmp .lt 7, 3) := by decide +kernel
theorem d14_9 : decode jdk_29_method_65_code 9 = .ok (.iload_n 1, 1) := by decide +kernel
theorem d14_10 : decode jdk_29_method_65_code 10 = .ok (.ireturn, 1) := by decide +kernel
theorem d14_5 : decode jdk_29_method_65_code 5 = .ok (.iload_n 0, 1) := by decide +kernel
theorem d14_6 : decode jdk_29_method_65_code 6 = .ok (.goto 4, 3) := by decide +kernel
theorem d12_0 : decode jdk_43_method_4_code 0 = .ok (.iload_n 0, 1) := by decide +kernel
theorem d12_1 : decode jdk_43_method_4_code 1 = .ok (.ifCond .lt 14, 3) := by decide +kernel
theorem d12_4 : decode jdk_43_method_4_code 4 = .ok (.iload_n 0, 1) := by decide +kernel
theorem d12_5 : decode jdk_43_method_4_code 5 = .ok (.sipush 255, 3) := by decide +kernel
theorem d12_8 : decode jdk_43_method_4_code 8 = .ok (.if_icmp .gt 7, 3) := by decide +kernel
theorem d12_11 : decode jdk_43_method_4_code 11 = .ok (.iconst 1, 1) := by decide +kernel
theorem d12_12 : decode jdk_43_method_4_code 12 = .ok (.goto 4, 3) := by decide +kernel
theorem d12_16 : decode jdk_43_method_4_code 16 = .ok (.ireturn, 1) := by decide +kernel
theorem d11_18 : decode jdk_43_method_27_code 18 = .ok (.iload_n 3, 1) := by decide +kernel
theorem d11_19 : decode jdk_43_method_27_code 19 = .ok (.ifCond .lt 19, 3) := by decide +kernel
theorem d11_38 : decode jdk_43_method_27_code 38 = .ok (.iconst (-1), 1) := by decide +kernel
theorem d11_39 : decode jdk_43_method_27_code 39 = .ok (.ireturn, 1) := by decide +kernel
theorem d11_22 : decode jdk_43_method_27_code 22 = .ok (.aload_n 0, 1) := by decide +kernel
theorem d11_23 : decode jdk_43_method_27_code 23 = .ok (.iload_n 3, 1) := by decide +kernel
theorem d11_24 : decode jdk_43_method_27_code 24 = .ok (.baload, 1) := by decide +kernel
theorem d11_25 : decode jdk_43_method_27_code 25 = .ok (.iload_n 1, 1) := by decide +kernel
theorem d11_26 : decode jdk_43_method_27_code 26 = .ok (.i2b, 1) := by decide +kernel
theorem d11_27 : decode jdk_43_method_27_code 27 = .ok (.if_icmp .ne 5, 3) := by decide +kernel
theorem d11_32 : decode jdk_43_method_27_code 32 = .ok (.iinc 3 (-1), 3) := by decide +kernel
theorem d11_35 : decode jdk_43_method_27_code 35 = .ok (.goto (-17), 3) := by decide +kernel
theorem d11_30 : decode jdk_43_method_27_code 30 = .ok (.iload_n 3, 1) := by decide +kernel
theorem d11_31 : decode jdk_43_method_27_code 31 = .ok (.ireturn, 1) := by decide +kernel
theorem d11_0 : decode jdk_43_method_27_code 0 = .ok (.iload_n 1, 1) := by decide +kernel
theorem d11_1 : decode jdk_43_method_27_code 1 = .ok (.invokestatic 88, 3) := by decide +kernel
theorem d11_4 : decode jdk_43_method_27_code 4 = .ok (.ifCond .ne 5, 3) := by decide +kernel
theorem d11_9 : decode jdk_43_method_27_code 9 = .ok (.iload_n 2, 1) := by decide +kernel
theorem d11_10 : decode jdk_43_method_27_code 10 = .ok (.aload_n 0, 1) := by decide +kernel
theorem d11_11 : decode jdk_43_method_27_code 11 = .ok (.arraylength, 1) := by decide +kernel
theorem d11_12 : decode jdk_43_method_27_code 12 = .ok (.iconst 1, 1) := by decide +kernel
theorem d11_13 : decode jdk_43_method_27_code 13 = .ok (.isub, 1) := by decide +kernel
theorem d11_14 : decode jdk_43_method_27_code 14 = .ok (.invokestatic 38, 3) := by decide +kernel
theorem d11_17 : decode jdk_43_method_27_code 17 = .ok (.istore_n 3, 1) := by decide +kernel
theorem d9_0 : decode jdk_42_method_83_code 0 = .ok (.aload_n 0, 1) := by decide +kernel
theorem d9_1 : decode jdk_42_method_83_code 1 = .ok (.invokevirtual 492, 3) := by decide +kernel
theorem d9_4 : decode jdk_42_method_83_code 4 = .ok (.ifCond .eq 15, 3) := by decide +kernel
theorem d9_7 : decode jdk_42_method_83_code 7 = .ok (.aload_n 0, 1) := by decide +kernel
theorem d9_8 : decode jdk_42_method_83_code 8 = .ok (.getfield 9, 3) := by decide +kernel
theorem d9_11 : decode jdk_42_method_83_code 11 = .ok (.iload_n 1, 1) := by decide +kernel
theorem d9_12 : decode jdk_42_method_83_code 12 = .ok (.iload_n 2, 1) := by decide +kernel
theorem d9_13 : decode jdk_42_method_83_code 13 = .ok (.invokestatic 644, 3) := by decide +kernel
theorem d9_16 : decode jdk_42_method_83_code 16 = .ok (.goto 12, 3) := by decide +kernel
theorem d9_28 : decode jdk_42_method_83_code 28 = .ok (.ireturn, 1) := by decide +kernel
theorem d6_0 : decode jdk_42_method_82_code 0 = .ok (.aload_n 0, 1) := by decide +kernel
theorem d6_1 : decode jdk_42_method_82_code 1 = .ok (.iload_n 1, 1) := by decide +kernel
theorem d6_2 : decode jdk_42_method_82_code 2 = .ok (.aload_n 0, 1) := by decide +kernel
theorem d6_3 : decode jdk_42_method_82_code 3 = .ok (.invokevirtual 505, 3) := by decide +kernel
theorem d6_6 : decode jdk_42_method_82_code 6 = .ok (.iconst 1, 1) := by decide +kernel
theorem d6_7 : decode jdk_42_method_82_code 7 = .ok (.isub, 1) := by decide +kernel
theorem d6_8 : decode jdk_42_method_82_code 8 = .ok (.invokevirtual 641, 3) := by decide +kernel
theorem d6_11 : decode jdk_42_method_82_code 11 = .ok (.ireturn, 1) := by decide +kernel
theorem d30_0 : decode jdk_65_method_131_code 0 = .ok (.iload_n 1, 1) := by decide +kernel
theorem d30_1 : decode jdk_65_method_131_code 1 = .ok (.iload_n 0, 1) := by decide +kernel
theorem d30_2 : decode jdk_65_method_131_code 2 = .ok (.if_icmp .ge 35, 3) := by decide +kernel
theorem d30_37 : decode jdk_65_method_131_code 37 = .ok (.return_, 1) := by decide +kernel
theorem d29_0 : decode jdk_65_method_133_code 0 = .ok (.iload_n 1, 1) := by decide +kernel
theorem d29_1 : decode jdk_65_method_133_code 1 = .ok (.iload_n 2, 1) := by decide +kernel
theorem d29_2 : decode jdk_65_method_133_code 2 = .ok (.invokestatic 343, 3) := by decide +kernel
theorem d29_5 : decode jdk_65_method_133_code 5 = .ok (.iload_n 2, 1) := by decide +kernel
theorem d29_6 : decode jdk_65_method_133_code 6 = .ok (.iload_n 1, 1) := by decide +kernel
theorem d29_7 : decode jdk_65_method_133_code 7 = .ok (.isub, 1) := by decide +kernel
theorem d29_8 : decode jdk_65_method_133_code 8 = .ok (.istore_n 3, 1) := by decide +kernel
theorem d29_9 : decode jdk_65_method_133_code 9 = .ok (.iload_n 3, 1) := by decide +kernel
theorem d29_10 : decode jdk_65_method_133_code 10 = .ok (.newarray .byte, 2) := by decide +kernel
theorem d29_12 : decode jdk_65_method_133_code 12 = .ok (.astore 4, 2) := by decide +kernel
theorem d29_14 : decode jdk_65_method_133_code 14 = .ok (.aload_n 0, 1) := by decide +kernel
theorem d29_15 : decode jdk_65_method_133_code 15 = .ok (.iload_n 1, 1) := by decide +kernel
theorem d29_16 : decode jdk_65_method_133_code 16 = .ok (.aload 4, 2) := by decide +kernel
theorem d29_18 : decode jdk_65_method_133_code 18 = .ok (.iconst 0, 1) := by decide +kernel
theorem d29_19 : decode jdk_65_method_133_code 19 = .ok (.aload_n 0, 1) := by decide +kernel
theorem d29_20 : decode jdk_65_method_133_code 20 = .ok (.arraylength, 1) := by decide +kernel
theorem d29_21 : decode jdk_65_method_133_code 21 = .ok (.iload_n 1, 1) := by decide +kernel
theorem d29_22 : decode jdk_65_method_133_code 22 = .ok (.isub, 1) := by decide +kernel
theorem d29_23 : decode jdk_65_method_133_code 23 = .ok (.iload_n 3, 1) := by decide +kernel
theorem d29_24 : decode jdk_65_method_133_code 24 = .ok (.invokestatic 304, 3) := by decide +kernel
theorem d29_27 : decode jdk_65_method_133_code 27 = .ok (.invokestatic 150, 3) := by decide +kernel
theorem d29_30 : decode jdk_65_method_133_code 30 = .ok (.aload 4, 2) := by decide +kernel
theorem d29_32 : decode jdk_65_method_133_code 32 = .ok (.areturn, 1) := by decide +kernel
theorem d28_0 : decode jdk_65_method_132_code 0 = .ok (.iload_n 1, 1) := by decide +kernel
theorem d28_1 : decode jdk_65_method_132_code 1 = .ok (.ifCond .ne 9, 3) := by decide +kernel
theorem d28_10 : decode jdk_65_method_132_code 10 = .ok (.aload_n 0, 1) := by decide +kernel
theorem d28_11 : decode jdk_65_method_132_code 11 = .ok (.iload_n 1, 1) := by decide +kernel
theorem d28_12 : decode jdk_65_method_132_code 12 = .ok (.iload_n 2, 1) := by decide +kernel
theorem d28_13 : decode jdk_65_method_132_code 13 = .ok (.invokestatic 339, 3) := by decide +kernel
theorem d28_16 : decode jdk_65_method_132_code 16 = .ok (.areturn, 1) := by decide +kernel
theorem d28_4 : decode jdk_65_method_132_code 4 = .ok (.iload_n 2, 1) := by decide +kernel
theorem d28_5 : decode jdk_65_method_132_code 5 = .ok (.aload_n 0, 1) := by decide +kernel
theorem d28_6 : decode jdk_65_method_132_code 6 = .ok (.arraylength, 1) := by decide +kernel
theorem d28_7 : decode jdk_65_method_132_code 7 = .ok (.if_icmp .eq 10, 3) := by decide +kernel
theorem d31_0 : decode jdk_42_method_151_code 0 = .ok (.aload_n 0, 1) := by decide +kernel
theorem d31_1 : decode jdk_42_method_151_code 1 = .ok (.invokespecial 1, 3) := by decide +kernel
theorem d31_4 : decode jdk_42_method_151_code 4 = .ok (.aload_n 0, 1) := by decide +kernel
theorem d31_5 : decode jdk_42_method_151_code 5 = .ok (.aload_n 1, 1) := by decide +kernel
theorem d31_6 : decode jdk_42_method_151_code 6 = .ok (.putfield 9, 3) := by decide +kernel
theorem d31_9 : decode jdk_42_method_151_code 9 = .ok (.aload_n 0, 1) := by decide +kernel
theorem d31_10 : decode jdk_42_method_151_code 10 = .ok (.iload_n 2, 1) := by decide +kernel
theorem d31_11 : decode jdk_42_method_151_code 11 = .ok (.putfield 15, 3) := by decide +kernel
theorem d31_14 : decode jdk_42_method_151_code 14 = .ok (.return_, 1) := by decide +kernel
theorem d18_0 : decode jdk_41_method_12_code 0 = .ok (.iload_n 0, 1) := by decide +kernel
theorem d18_1 : decode jdk_41_method_12_code 1 = .ok (.ifCond .lt 13, 3) := by decide +kernel
theorem d18_4 : decode jdk_41_method_12_code 4 = .ok (.iload_n 0, 1) := by decide +kernel
theorem d18_5 : decode jdk_41_method_12_code 5 = .ok (.iload_n 1, 1) := by decide +kernel
theorem d18_6 : decode jdk_41_method_12_code 6 = .ok (.if_icmp .gt 8, 3) := by decide +kernel
theorem d18_9 : decode jdk_41_method_12_code 9 = .ok (.iload_n 1, 1) := by decide +kernel
theorem d18_10 : decode jdk_41_method_12_code 10 = .ok (.iload_n 2, 1) := by decide +kernel
theorem d18_11 : decode jdk_41_method_12_code 11 = .ok (.if_icmp .le 11, 3) := by decide +kernel
theorem d18_22 : decode jdk_41_method_12_code 22 = .ok (.iload_n 0, 1) := by decide +kernel
theorem d18_23 : decode jdk_41_method_12_code 23 = .ok (.ireturn, 1) := by decide +kernel
theorem d17_0 : decode jdk_42_method_158_code 0 = .ok (.iload_n 0, 1) := by decide +kernel
theorem d17_1 : decode jdk_42_method_158_code 1 = .ok (.iload_n 1, 1) := by decide +kernel
theorem d17_2 : decode jdk_42_method_158_code 2 = .ok (.iload_n 2, 1) := by decide +kernel
theorem d17_3 : decode jdk_42_method_158_code 3 = .ok (.getstatic 1053, 3) := by decide +kernel
theorem d17_6 : decode jdk_42_method_158_code 6 = .ok (.invokestatic 1062, 3) := by decide +kernel
theorem d17_9 : decode jdk_42_method_158_code 9 = .ok (.pop, 1) := by decide +kernel
theorem d17_10 : decode jdk_42_method_158_code 10 = .ok (.return_, 1) := by decide +kernel
theorem d23_0 : decode jdk_43_method_47_code 0 = .ok (.iload_n 2, 1) := by decide +kernel
theorem d23_1 : decode jdk_43_method_47_code 1 = .ok (.ifCond .ne 6, 3) := by decide +kernel
theorem d23_7 : decode jdk_43_method_47_code 7 = .ok (.new 1, 3) := by decide +kernel
theorem d23_10 : decode jdk_43_method_47_code 10 = .ok (.dup, 1) := by decide +kernel
theorem d23_11 : decode jdk_43_method_47_code 11 = .ok (.aload_n 0, 1) := by decide +kernel
theorem d23_12 : decode jdk_43_method_47_code 12 = .ok (.iload_n 1, 1) := by decide +kernel
theorem d23_13 : decode jdk_43_method_47_code 13 = .ok (.iload_n 1, 1) := by decide +kernel
theorem d23_14 : decode jdk_43_method_47_code 14 = .ok (.iload_n 2, 1) := by decide +kernel
theorem d23_15 : decode jdk_43_method_47_code 15 = .ok (.iadd, 1) := by decide +kernel
theorem d23_16 : decode jdk_43_method_47_code 16 = .ok (.invokestatic 232, 3) := by decide +kernel
theorem d23_19 : decode jdk_43_method_47_code 19 = .ok (.iconst 0, 1) := by decide +kernel
theorem d23_20 : decode jdk_43_method_47_code 20 = .ok (.invokespecial 112, 3) := by decide +kernel
theorem d23_23 : decode jdk_43_method_47_code 23 = .ok (.areturn, 1) := by decide +kernel
theorem d23_4 : decode jdk_43_method_47_code 4 = .ok (.ldc 151, 2) := by decide +kernel
theorem d23_6 : decode jdk_43_method_47_code 6 = .ok (.areturn, 1) := by decide +kernel
theorem d16_0 : decode jdk_42_method_92_code 0 = .ok (.aload_n 0, 1) := by decide +kernel
theorem d16_1 : decode jdk_42_method_92_code 1 = .ok (.invokevirtual 505, 3) := by decide +kernel
theorem d16_4 : decode jdk_42_method_92_code 4 = .ok (.istore_n 3, 1) := by decide +kernel
theorem d16_5 : decode jdk_42_method_92_code 5 = .ok (.iload_n 1, 1) := by decide +kernel
theorem d16_6 : decode jdk_42_method_92_code 6 = .ok (.iload_n 2, 1) := by decide +kernel
theorem d16_7 : decode jdk_42_method_92_code 7 = .ok (.iload_n 3, 1) := by decide +kernel
theorem d16_8 : decode jdk_42_method_92_code 8 = .ok (.invokestatic 521, 3) := by decide +kernel
theorem d16_11 : decode jdk_42_method_92_code 11 = .ok (.iload_n 1, 1) := by decide +kernel
theorem d16_12 : decode jdk_42_method_92_code 12 = .ok (.ifCond .ne 10, 3) := by decide +kernel
theorem d16_22 : decode jdk_42_method_92_code 22 = .ok (.iload_n 2, 1) := by decide +kernel
theorem d16_23 : decode jdk_42_method_92_code 23 = .ok (.iload_n 1, 1) := by decide +kernel
theorem d16_24 : decode jdk_42_method_92_code 24 = .ok (.isub, 1) := by decide +kernel
theorem d16_25 : decode jdk_42_method_92_code 25 = .ok (.istore 4, 2) := by decide +kernel
theorem d16_27 : decode jdk_42_method_92_code 27 = .ok (.aload_n 0, 1) := by decide +kernel
theorem d16_28 : decode jdk_42_method_92_code 28 = .ok (.invokevirtual 492, 3) := by decide +kernel
theorem d16_31 : decode jdk_42_method_92_code 31 = .ok (.ifCond .eq 16, 3) := by decide +kernel
theorem d16_34 : decode jdk_42_method_92_code 34 = .ok (.aload_n 0, 1) := by decide +kernel
theorem d16_35 : decode jdk_42_method_92_code 35 = .ok (.getfield 9, 3) := by decide +kernel
theorem d16_38 : decode jdk_42_method_92_code 38 = .ok (.iload_n 1, 1) := by decide +kernel
theorem d16_39 : decode jdk_42_method_92_code 39 = .ok (.iload 4, 2) := by decide +kernel
theorem d16_41 : decode jdk_42_method_92_code 41 = .ok (.invokestatic 685, 3) := by decide +kernel
theorem d16_44 : decode jdk_42_method_92_code 44 = .ok (.goto 13, 3) := by decide +kernel
theorem d16_57 : decode jdk_42_method_92_code 57 = .ok (.areturn, 1) := by decide +kernel
theorem d16_15 : decode jdk_42_method_92_code 15 = .ok (.iload_n 2, 1) := by decide +kernel
theorem d16_16 : decode jdk_42_method_92_code 16 = .ok (.iload_n 3, 1) := by decide +kernel
theorem d16_17 : decode jdk_42_method_92_code 17 = .ok (.if_icmp .ne 5, 3) := by decide +kernel
theorem d16_20 : decode jdk_42_method_92_code 20 = .ok (.aload_n 0, 1) := by decide +kernel
theorem d16_21 : decode jdk_42_method_92_code 21 = .ok (.areturn, 1) := by decide +kernel
theorem d15_0 : decode jdk_42_method_91_code 0 = .ok (.aload_n 0, 1) := by decide +kernel
theorem d15_1 : decode jdk_42_method_91_code 1 = .ok (.iload_n 1, 1) := by decide +kernel
theorem d15_2 : decode jdk_42_method_91_code 2 = .ok (.aload_n 0, 1) := by decide +kernel
theorem d15_3 : decode jdk_42_method_91_code 3 = .ok (.invokevirtual 505, 3) := by decide +kernel
theorem d15_6 : decode jdk_42_method_91_code 6 = .ok (.invokevirtual 681, 3) := by decide +kernel
theorem d15_9 : decode jdk_42_method_91_code 9 = .ok (.areturn, 1) := by decide +kernel
theorem d1_0 : decode method_2_code 0 = .ok (.iload_n 0, 1) := by decide +kernel
theorem d1_1 : decode method_2_code 1 = .ok (.iconst 3, 1) := by decide +kernel
theorem d1_2 : decode method_2_code 2 = .ok (.iand, 1) := by decide +kernel
theorem d1_3 : decode method_2_code 3 = .ok (.istore_n 1, 1) := by decide +kernel
theorem d1_4 : decode method_2_code 4 = .ok (.iload_n 1, 1) := by decide +kernel
theorem d1_5 : decode method_2_code 5 = .ok (.ifCond .ne 6, 3) := by decide +kernel
theorem d1_11 : decode method_2_code 11 = .ok (.iload_n 1, 1) := by decide +kernel
theorem d1_12 : decode method_2_code 12 = .ok (.iconst 1, 1) := by decide +kernel
theorem d1_13 : decode method_2_code 13 = .ok (.if_icmp .ne 6, 3) := by decide +kernel
theorem d1_19 : decode method_2_code 19 = .ok (.iload_n 0, 1) := by decide +kernel
theorem d1_20 : decode method_2_code 20 = .ok (.iconst 2, 1) := by decide +kernel
theorem d1_21 : decode method_2_code 21 = .ok (.iushr, 1) := by decide +kernel
theorem d1_22 : decode method_2_code 22 = .ok (.sipush 255, 3) := by decide +kernel
theorem d1_25 : decode method_2_code 25 = .ok (.iand, 1) := by decide +kernel
theorem d1_26 : decode method_2_code 26 = .ok (.i2c, 1) := by decide +kernel
theorem d1_27 : decode method_2_code 27 = .ok (.ireturn, 1) := by decide +kernel
theorem d1_16 : decode method_2_code 16 = .ok (.bipush 47, 2) := by decide +kernel
theorem d1_18 : decode method_2_code 18 = .ok (.ireturn, 1) := by decide +kernel
theorem d1_8 : decode method_2_code 8 = .ok (.bipush 35, 2) := by decide +kernel
theorem d1_10 : decode method_2_code 10 = .ok (.ireturn, 1) := by decide +kernel
theorem d22_0 : decode method_3_code 0 = .ok (.iload_n 0, 1) := by decide +kernel
theorem d22_1 : decode method_3_code 1 = .ok (.bipush 35, 2) := by decide +kernel
theorem d22_3 : decode method_3_code 3 = .ok (.if_icmp .eq 9, 3) := by decide +kernel
theorem d22_12 : decode method_3_code 12 = .ok (.iconst 1, 1) := by decide +kernel
theorem d22_13 : decode method_3_code 13 = .ok (.goto 4, 3) := by decide +kernel
theorem d22_17 : decode method_3_code 17 = .ok (.ireturn, 1) := by decide +kernel
theorem d22_6 : decode method_3_code 6 = .ok (.iload_n 0, 1) := by decide +kernel
theorem d22_7 : decode method_3_code 7 = .ok (.bipush 47, 2) := by decide +kernel
theorem d22_9 : decode method_3_code 9 = .ok (.if_icmp .ne 7, 3) := by decide +kernel
theorem d22_16 : decode method_3_code 16 = .ok (.iconst 0, 1) := by decide +kernel
theorem d5_0 : decode prog_7_method_2_code 0 = .ok (.aload_n 0, 1) := by decide +kernel
theorem d5_1 : decode prog_7_method_2_code 1 = .ok (.bipush 35, 2) := by decide +kernel
theorem d5_3 : decode prog_7_method_2_code 3 = .ok (.invokevirtual 7, 3) := by decide +kernel
theorem d5_6 : decode prog_7_method_2_code 6 = .ok (.aload_n 0, 1) := by decide +kernel
theorem d5_7 : decode prog_7_method_2_code 7 = .ok (.bipush 47, 2) := by decide +kernel
theorem d5_9 : decode prog_7_method_2_code 9 = .ok (.invokevirtual 7, 3) := by decide +kernel
theorem d5_12 : decode prog_7_method_2_code 12 = .ok (.invokestatic 13, 3) := by decide +kernel
theorem d5_15 : decode prog_7_method_2_code 15 = .ok (.istore_n 1, 1) := by decide +kernel
theorem d5_16 : decode prog_7_method_2_code 16 = .ok (.aload_n 0, 1) := by decide +kernel
theorem d5_17 : decode prog_7_method_2_code 17 = .ok (.iload_n 1, 1) := by decide +kernel
theorem d5_18 : decode prog_7_method_2_code 18 = .ok (.iconst 1, 1) := by decide +kernel
theorem d5_19 : decode prog_7_method_2_code 19 = .ok (.iadd, 1) := by decide +kernel
theorem d5_20 : decode prog_7_method_2_code 20 = .ok (.invokevirtual 19, 3) := by decide +kernel
theorem d5_23 : decode prog_7_method_2_code 23 = .ok (.areturn, 1) := by decide +kernel
theorem strAtoms {Z : State} {a0 : Array Value} (hw : ∀ d ∈ tables_1, d.before a0 Z = true) : ∀ a ∈ Bundle.stringAtoms, a.before a0 Z = true := fun d hd => hw d ((by decide +kernel : ∀ d ∈ Bundle.stringAtoms, d ∈ tables_1) d hd)
theorem and255_chars (x : Int32) : ¬ nar .char ((x &&& (255 : Int32)).toUInt32.toUInt16.toUInt32.toInt32) < 0 ∧ ¬ (255 : Int32) < nar .char ((x &&& (255 : Int32)).toUInt32.toUInt16.toUInt32.toInt32) := by
  have t : ∀ k : Fin 256, ¬ nar .char ((Int32.ofNat k.val).toUInt32.toUInt16.toUInt32.toInt32) < 0 ∧ ¬ (255 : Int32) < nar .char ((Int32.ofNat k.val).toUInt32.toUInt16.toUInt32.toInt32) := by decide +kernel
  have h : (x &&& 255).toBitVec.toNat < 256 := by
    simp only [Int32.toBitVec_and, BitVec.toNat_and]
    exact Nat.lt_succ_of_le Nat.and_le_right
  have e : (x &&& 255) = Int32.ofNat (x &&& 255).toBitVec.toNat := by
    apply Int32.toBitVec_inj.mp
    show _ = BitVec.ofNat 32 _
    rw [BitVec.ofNat_toNat]; simp
  rw [e]
  exact t ⟨_, h⟩
theorem pays_init {l : Launch} {Z : State} {a0 : Array Value} (hw : ∀ d ∈ tables_1, d.before a0 Z = true) {n0 : Nat} {R : Room} {W : Nat} {h : Heap} {x b : Addr} {kC : ClassId} {cs : List Int32} {d v0 c0 : Value} {zC N : Int32} {n : Nat} (hx0 : n0 ≤ x) (E : Exa Z h x "java/lang/String") (V : Fld Z h x "java/lang/String" "value" "[B" v0) (C : Fld Z h x "java/lang/String" "coder" "B" c0) (K : Arv Z h b kC .char N (cs.map Value.int) d) (SC : Sta Z Z.heap "java/lang/String" "COMPACT_STRINGS" "Z" (.int zC)) (nC : ¬ zC = 0)
    (hn : cs.length = n) (hN : N = Int32.ofNat n) (l0 : 0 < n) (l2 : n ≤ 4000) (hp : Lat cs) (hfr : 4 ≤ R.frames) (hlo : W + 65 ≤ R.locals) :
    Pays l Z n0 R (⟨"java/lang/String", "<init>", "([C)V"⟩ : MethodName) 3 W #[.ref x, .ref b] h 1 n (fun v h' => v = none ∧ Keep h h' [x] ∧ h'.size = h.size + 1 ∧ Str Z h' x h.size cs ∧ ∀ (O n d : String) (w : Value), Fld Z h x O n d w → Jvm.RoadKit.slotOf Z O n d ≠ Jvm.RoadKit.slotOf Z "java/lang/String" "value" "[B" → Jvm.RoadKit.slotOf Z O n d ≠ Jvm.RoadKit.slotOf Z "java/lang/String" "coder" "B" → Fld Z h' x O n d w) := fun hO p e below s args hZ => by
  have hws : ∀ d ∈ StrChars.Road.words, d.before a0 Z = true := fun d hd => hw d ((by decide +kernel : ∀ d ∈ StrChars.Road.words, d ∈ tables_1) d hd)
  subst hn
  have hcl : N.toNatClampNeg = cs.length := by subst hN; exact Int32.toNatClampNeg_ofNat_of_lt (by omega)
  refine Back.mono (StrChars.Road.backArv hZ hws (kI := 4) (wd7 hw) E V C K (SC.ext hO.2) nC hcl l0 (by omega) (fun c hc => (hp c hc).2) hfr hlo) (fun P a q => q) (fun P a v B q r => ?_)
  obtain ⟨L, ⟨q1, q2, q3, q4, q5, q6, q7, ⟨kb, v1, v2⟩, q9⟩, r2⟩ := r
  have v3 : Arv Z B.U.heap h.size kb .byte (Int32.ofNat cs.length) (bv cs) (.int 0) := by subst hN; rw [bv, List.map_map]; exact v2
  exact ⟨L, ⟨⟨q1, q3, q4, ⟨q5, q7, q6, ⟨kb, v3⟩, fun _ => Exa.bytes v3 v1⟩, q9⟩, fun y hy => by rw [q2 y hy]; exact hx0⟩, r2⟩
theorem up16 {cs : List Int32} (h : Lat cs) : ∀ c ∈ cs, ¬ c < 0 ∧ ¬ (65535 : Int32) < c := fun c hc => ⟨(h c hc).1, fun q => (h c hc).2 (by rw [Int32.lt_iff_toInt_lt] at q ⊢; have e1 : (65535 : Int32).toInt = 65535 := rfl; have e2 : (255 : Int32).toInt = 255 := rfl; omega)⟩
theorem pays_len {l : Launch} {Z : State} {a0 : Array Value} (hw : ∀ d ∈ tables_1, d.before a0 Z = true) {n0 : Nat} {R : Room} {W : Nat} {h : Heap} {a t : Addr} {cs : List Int32} {zC : Int32} (F : Str Z h a t cs) (hp : Lat cs) (hl : cs.length ≤ 4000) (SC : Sta Z Z.heap "java/lang/String" "COMPACT_STRINGS" "Z" (.int zC)) (nC : ¬ zC = 0) (hfr : 2 ≤ R.frames) (hlo : W + 25 ≤ R.locals) :
    Pays l Z n0 R (⟨"java/lang/String", "length", "()I"⟩ : MethodName) 3 W #[.ref a] h 0 0 (fun v h' => v = some (.int (Int32.ofNat cs.length)) ∧ h' = h) := fun hO p e below s args hZ => by
  have hws : ∀ d ∈ StrChars.Road.wordsLen, d.before a0 Z = true := fun d hd => hw d ((by decide +kernel : ∀ d ∈ StrChars.Road.wordsLen, d ∈ tables_1) d hd)
  obtain ⟨f1, f2, f3, ⟨kb, f4⟩, -⟩ := F
  refine Back.mono (StrChars.Road.lenW hZ hws (kI := 4) (wd7 hw) f1 f3 f2 f4 (StrChars.Road.codOf rfl (fun x hx => (hp x hx).2)) (up16 hp) (SC.ext hO.2) nC hl hfr hlo) (fun P a q => q) (fun P a v B q r => ?_)
  obtain ⟨L, ⟨q1, rfl, q3⟩, r2⟩ := r
  exact ⟨[], ⟨⟨q1, q3⟩, Fr.nil _⟩, r2⟩
theorem pays_ch {l : Launch} {Z : State} {a0 : Array Value} (hw : ∀ d ∈ tables_1, d.before a0 Z = true) {n0 : Nat} {R : Room} {W : Nat} {h : Heap} {a t : Addr} {cs : List Int32} {zC j : Int32} {vF : Value} (i : Nat) (F : Str Z h a t cs) (hp : Lat cs) (hl : cs.length ≤ 4000) (SC : Sta Z Z.heap "java/lang/String" "COMPACT_STRINGS" "Z" (.int zC)) (nC : ¬ zC = 0) (SF : Sta Z Z.heap "jdk/internal/util/Preconditions" "SIOOBE_FORMATTER" "Ljava/util/function/BiFunction;" vF) (rF : vF.isRef = true) (hi : i < cs.length) (hj : j = Int32.ofNat i) (hfr : 4 ≤ R.frames) (hlo : W + 53 ≤ R.locals) :
    Pays l Z n0 R (⟨"java/lang/String", "charAt", "(I)C"⟩ : MethodName) 3 W #[.ref a, .int j] h 0 0 (fun v h' => v = some (.int (cs.getD i 0)) ∧ h' = h) := fun hO p e below s args hZ => by
  have hws : ∀ d ∈ StrChars.Road.wordsChN, d.before a0 Z = true := fun d hd => hw d ((by decide +kernel : ∀ d ∈ StrChars.Road.wordsChN, d ∈ tables_1) d hd)
  obtain ⟨f1, f2, f3, ⟨kb, f4⟩, -⟩ := F
  refine Back.mono (StrChars.Road.chN hZ hws (kI := 4) (wd7 hw) f1 f3 f2 f4 (StrChars.Road.codOf rfl (fun x hx => (hp x hx).2)) (up16 hp) (SC.ext hO.2) nC (SF.ext hO.2) rF hl hi hj hfr hlo) (fun P a q => q) (fun P a v B q r => ?_)
  obtain ⟨L, ⟨q1, rfl, q3⟩, r2⟩ := r
  exact ⟨[], ⟨⟨q1, q3⟩, Fr.nil _⟩, r2⟩
set_option maxRecDepth 65536 in
set_option maxHeartbeats 40000000 in
theorem ok_lat {l : Launch} {Z : State} {a0 : Array Value} (hw : ∀ d ∈ tables_1, d.before a0 Z = true) {n0 : Nat} (a : Addr) {zC : Int32} {h0 : Heap} (SC : Sta Z Z.heap "java/lang/String" "COMPACT_STRINGS" "Z" (.int zC)) (nC : ¬ zC = 0) (C : Fld Z h0 a "java/lang/String" "coder" "B" (.int 0)) :
    Ok false l Z [] n0 [] (⟨"java/lang/String", "isLatin1", "()Z"⟩ : MethodName) jdk_42_method_154_code 1 (Option.some Jvm.ClassFile.FieldType.boolean) ({ frames := 0, cells := 0, slots := 0, locals := 0 } : Room) #[(.ref a)] h0 (fun v h => v = some (.int 1) ∧ h = h0) (fun _ => []) := by
  refine Ok.of_run (ls0 := #[.val (.ref a)]) (plainFor_of_name (by first | (simp [plainName, overriddenIn]; done) | decide +kernel)) (fun m => by first | (simp [entryFrame, mkF, argsToLocals, Value.category]; done) | rfl) rfl ?_
  refine Run.old fun hO => ?_
  have hn0 : n0 ≤ h0.size := hO.1 ▸ hO.2.1
  refine r_getstatic (host := "") d10_0 rfl (Or.inl (wd46 hw)) Via.refl SC ?_
  refine r_ifeq (pc2 := 17) d10_3 rfl rfl (fun cc => absurd cc nC) (fun _ => ?_)
  refine r_aloadN d10_6 rfl rfl rfl ?_
  refine r_getfield (host := "") d10_7 rfl (Or.inl (wd26 hw)) Via.refl C ?_
  refine r_ifne (pc2 := 17) d10_10 rfl rfl (fun cc => absurd rfl cc) (fun _ => ?_)
  refine r_iconst (v := 1) d10_13 rfl rfl ?_
  refine r_goto (pc' := 18) d10_14 rfl ?_
  exact r_ireturnN (t := .boolean) d10_18 rfl (by simp) ⟨rfl, rfl⟩ (by simp) (by decide) (by decide)
set_option maxRecDepth 65536 in
set_option maxHeartbeats 40000000 in
theorem ok_i4 {l : Launch} {Z : State} {a0 : Array Value} (hw : ∀ d ∈ tables_1, d.before a0 Z = true) {n0 : Nat} (x b : Addr) {h0 : Heap} (E : Exa Z h0 x "java/lang/String") (V : Fld Z h0 x "java/lang/String" "value" "[B" .null) (C : Fld Z h0 x "java/lang/String" "coder" "B" (.int 0)) (ge : n0 ≤ x) :
    Ok true l Z consts_1 n0 [x] (⟨"java/lang/String", "<init>", "([CIILjava/lang/Void;)V"⟩ : MethodName) jdk_42_method_149_code 6 (Option.none : Option Jvm.ClassFile.FieldType) ({ frames := 1, cells := 4, slots := 8, locals := 12 } : Room) #[(.ref x), (.ref b), (.int (0 : Int32)), (.int (0 : Int32)), .null] h0 (fun v h => v = none ∧ Keep h0 h [x] ∧ (∃ t, Str Z h x t [])) (fun _ => []) := by
  refine Ok.of_run (ls0 := #[.val (.ref x), .val (.ref b), .val (.int (0 : Int32)), .val (.int (0 : Int32)), .val .null, .unset]) (plainFor_of_name (by first | (simp [plainName, overriddenIn]; done) | decide +kernel)) (fun m => by first | (simp [entryFrame, mkF, argsToLocals, Value.category]; done) | rfl) rfl ?_
  refine Run.old fun hO => ?_
  have hn0 : n0 ≤ h0.size := hO.1 ▸ hO.2.1
  have lt_1 : @LT.lt Nat instLTNat x (Array.size h0) := E.lt
  refine r_aloadN d3_0 rfl rfl rfl ?_
  refine r_initO (W := 0) d3_1 rfl (wd16 hw) (wd17 hw) (wd18 hw) (by decide) (Nat.le_of_ble_eq_true rfl) (by decide) ?_
  refine r_iloadN d3_4 rfl rfl ?_
  refine r_ifne (pc2 := 27) d3_5 rfl rfl (fun cc => absurd rfl cc) (fun _ => ?_)
  refine r_aloadN d3_8 rfl rfl rfl ?_
  refine r_ldcS (z := 0) (n := 0) (vs := []) rfl d3_9 rfl (wd19 hw) (strAtoms hw) (by simp [consts_1]) ⟨by decide, by decide⟩ (by decide) (by decide) (by decide) (by decide) (by decide) (by decide) ?_
  intro h_2 a_3 t_4 k_5 E_6 A_7 C_8 V_9 K_10 N_11
  have szh_2 := E_6.1
  have ne_12 := N_11 x (by simp)
  refine r_getfield (host := "") d3_11 rfl (Or.inl (wd25 hw)) Via.refl V_9 ?_
  have F_13 : Fld Z h_2 x "java/lang/String" "value" "[B" .null := (Fld.ext E_6 V)
  have A_14 : Exa Z h_2 x "java/lang/String" := (Exa.ext E_6 E)
  refine r_putfield (ty := (.array .byte)) (v' := (.ref t_4)) d3_14 rfl (wd25 hw) Via.refl F_13 A_14 (Or.inr ⟨(wd21 hw), rfl, rfl⟩) (wd7 hw) (by decide) rfl rfl ge (Sf.my (by simp)) ?_
  intro h_15 W_16
  have szh_15 := Wr.size W_16
  have F_17 : Fld Z h_15 x "java/lang/String" "value" "[B" (.ref t_4) := Fld.same W_16 F_13
  refine r_aloadN d3_17 rfl rfl rfl ?_
  refine r_ldcS (z := 0) (n := 0) (vs := []) rfl d3_18 rfl (wd19 hw) (strAtoms hw) (by simp [consts_1]) ⟨by decide, by decide⟩ (by decide) (by decide) (by decide) (by decide) (by decide) (by decide) ?_
  intro h_18 a_19 t_20 k_21 E_22 A_23 C_24 V_25 K_26 N_27
  have szh_18 := E_22.1
  have ne_28 := N_27 x (by simp)
  refine r_getfield (host := "") d3_20 rfl (Or.inl (wd26 hw)) Via.refl C_24 ?_
  have F_29 : Fld Z h_18 x "java/lang/String" "coder" "B" (.int (0 : Int32)) := (Fld.ext E_22 (Fld.other W_16 (Fld.ext E_6 C) (Or.inr (slot_ne (Or.inr (wd22 hw)) (Or.inr (wd21 hw)) (by decide) (t := .byte) (t' := (.array .byte)) (by decide) (by decide)))))
  have A_30 : Exa Z h_18 x "java/lang/String" := (Exa.ext E_22 (Exa.wr W_16 A_14))
  refine r_putfield (ty := .byte) (v' := (.int 0)) d3_23 rfl (wd26 hw) Via.refl F_29 A_30 (Or.inr ⟨(wd22 hw), rfl, rfl⟩) (wd7 hw) (by decide) rfl rfl ge (Sf.my (by simp)) ?_
  intro h_31 W_32
  have szh_31 := Wr.size W_32
  have F_33 : Fld Z h_31 x "java/lang/String" "coder" "B" (.int 0) := Fld.same W_32 F_29
  have F_34 : Fld Z h_31 x "java/lang/String" "value" "[B" (.ref t_4) := (Fld.other W_32 (Fld.ext E_22 F_17) (Or.inr (slot_ne (Or.inr (wd21 hw)) (Or.inr (wd22 hw)) (by decide) (t := (.array .byte)) (t' := .byte) (by decide) (by decide))))
  have A_35 : Exa Z h_31 x "java/lang/String" := (Exa.wr W_32 A_30)
  have K_36 : Arv Z h_31 t_4 k_5 .byte (0 : Int32) [] (.int 0) := (Arv.other ((Arv.other K_10 W_16 (Ne.symm ne_12.2)).ext E_22) W_32 (Ne.symm ne_12.2))
  exact r_return d3_26 rfl ⟨rfl, (Keep.wr (Keep.ext (Keep.wr (Keep.ext (Keep.refl _ _) E_6) W_16 (Or.inl (by simp))) E_22) W_32 (Or.inl (by simp))), ⟨t_4, A_35, F_33, F_34, ⟨k_5, K_36⟩, fun q => absurd rfl q⟩⟩ (by simp) (by decide) (by decide)
set_option maxRecDepth 65536 in
set_option maxHeartbeats 40000000 in
theorem ok_i1 {l : Launch} {Z : State} {a0 : Array Value} (hw : ∀ d ∈ tables_1, d.before a0 Z = true) {n0 : Nat} (x b : Addr) {k : ClassId} {h0 : Heap} (E : Exa Z h0 x "java/lang/String") (V : Fld Z h0 x "java/lang/String" "value" "[B" .null) (C : Fld Z h0 x "java/lang/String" "coder" "B" (.int 0)) (ge : n0 ≤ x) (K : Arv Z h0 b k .char (0 : Int32) [] (.int 0)) :
    Ok true l Z consts_1 n0 [x] (⟨"java/lang/String", "<init>", "([C)V"⟩ : MethodName) jdk_42_method_3_code 2 (Option.none : Option Jvm.ClassFile.FieldType) ({ frames := 2, cells := 4, slots := 8, locals := 29 } : Room) #[(.ref x), (.ref b)] h0 (fun v h => v = none ∧ Keep h0 h [x] ∧ (∃ t, Str Z h x t [])) (fun _ => []) := by
  refine Ok.of_run (ls0 := #[.val (.ref x), .val (.ref b)]) (plainFor_of_name (by first | (simp [plainName, overriddenIn]; done) | decide +kernel)) (fun m => by first | (simp [entryFrame, mkF, argsToLocals, Value.category]; done) | rfl) rfl ?_
  refine Run.old fun hO => ?_
  have hn0 : n0 ≤ h0.size := hO.1 ▸ hO.2.1
  have lt_1 : @LT.lt Nat instLTNat x (Array.size h0) := E.lt
  refine r_aloadN d2_0 rfl rfl rfl ?_
  refine r_aloadN d2_1 rfl rfl rfl ?_
  refine r_iconst (v := 0) d2_2 rfl rfl ?_
  refine r_aloadN d2_3 rfl rfl rfl ?_
  refine r_arraylength d2_4 rfl K ?_
  refine r_aconst d2_5 rfl ?_
  refine r_specialW (y := (⟨"java/lang/String", "<init>", "([CIILjava/lang/Void;)V"⟩ : MethodName)) (argsL := [(.ref b), (.int (0 : Int32)), (.int (0 : Int32)), .null]) (rest := []) (W := 0) (kc := 4) (ks := 8) (wl := [x]) rfl d2_6 rfl rfl (wd12 hw) (wd13 hw) (wd15 hw) (by decide) (lenOf pd_0 rfl) rfl rfl (Nat.le_of_ble_eq_true rfl) (Ok.paysW (ok_i4 hw x b E V C  ge) (wd15 hw) (wd8 hw) (by decide) (by decide)) (by simp) (fun v h' q => q.2.1) (allS ge all0) (by decide) (by decide) ?_
  rintro _ h_2 ⟨rfl, q⟩
  refine Run.forget (My' := [x]) (by simp [refs]) ?_
  refine Run.cast (st' := []) rfl ?_
  exact r_return d2_9 rfl ⟨rfl, q⟩ (by simp) (by decide) (by decide)
def imin (a b : Int32) : Int32 := if b < a then b else a
def imax (a b : Int32) : Int32 := if a < b then b else a
theorem imin_of {i j : Nat} (hi : i < 2 ^ 31) (hj : j < 2 ^ 31) : imin (Int32.ofNat i) (Int32.ofNat j) = Int32.ofNat (min i j) := by
  unfold imin
  by_cases q : j < i
  · rw [if_pos (ofNat_in q hi).2, Nat.min_eq_right (by omega)]
  · rw [if_neg (ofNat_nlt (by omega) hj), Nat.min_eq_left (by omega)]
set_option maxRecDepth 65536 in
set_option maxHeartbeats 40000000 in
theorem ok_min {l : Launch} {Z : State} {a0 : Array Value} (hw : ∀ d ∈ tables_1, d.before a0 Z = true) {n0 : Nat} (a b : Int32) {h0 : Heap} :
    Ok false l Z [] n0 [] (⟨"java/lang/Math", "min", "(II)I"⟩ : MethodName) jdk_29_method_69_code 2 (Option.some Jvm.ClassFile.FieldType.int) ({ frames := 0, cells := 0, slots := 0, locals := 0 } : Room) #[(.int a), (.int b)] h0 (fun v h => v = some (.int (imin a b)) ∧ h = h0) (fun _ => []) := by
  refine Ok.of_run (ls0 := #[.val (.int a), .val (.int b)]) (Jvm.Free.JP.mathPlain rfl (by decide +kernel)) (fun m => by first | (simp [entryFrame, mkF, argsToLocals, Value.category]; done) | rfl) rfl ?_
  refine Run.old fun hO => ?_
  have hn0 : n0 ≤ h0.size := hO.1 ▸ hO.2.1
  refine r_iloadN d13_0 rfl rfl ?_
  refine r_iloadN d13_1 rfl rfl ?_
  refine r_icmpgt (pc2 := 9) d13_2 rfl rfl (fun c_1 => ?_) (fun c_1 => ?_)
  · refine r_iloadN d13_9 rfl rfl ?_
    exact r_ireturn d13_10 rfl ⟨by simp [imin, c_1], rfl⟩ (by simp) (by decide) (by decide)
  · refine r_iloadN d13_5 rfl rfl ?_
    refine r_goto (pc' := 10) d13_6 rfl ?_
    exact r_ireturn d13_10 rfl ⟨by simp [imin, c_1], rfl⟩ (by simp) (by decide) (by decide)
set_option maxRecDepth 65536 in
set_option maxHeartbeats 40000000 in
theorem ok_max {l : Launch} {Z : State} {a0 : Array Value} (hw : ∀ d ∈ tables_1, d.before a0 Z = true) {n0 : Nat} (a b : Int32) {h0 : Heap} :
    Ok false l Z [] n0 [] (⟨"java/lang/Math", "max", "(II)I"⟩ : MethodName) jdk_29_method_65_code 2 (Option.some Jvm.ClassFile.FieldType.int) ({ frames := 0, cells := 0, slots := 0, locals := 0 } : Room) #[(.int a), (.int b)] h0 (fun v h => v = some (.int (imax a b)) ∧ h = h0) (fun _ => []) := by
  refine Ok.of_run (ls0 := #[.val (.int a), .val (.int b)]) (Jvm.Free.JP.mathPlain rfl (by decide +kernel)) (fun m => by first | (simp [entryFrame, mkF, argsToLocals, Value.category]; done) | rfl) rfl ?_
  refine Run.old fun hO => ?_
  have hn0 : n0 ≤ h0.size := hO.1 ▸ hO.2.1
  refine r_iloadN d14_0 rfl rfl ?_
  refine r_iloadN d14_1 rfl rfl ?_
  refine r_icmplt (pc2 := 9) d14_2 rfl rfl (fun c_1 => ?_) (fun c_1 => ?_)
  · refine r_iloadN d14_9 rfl rfl ?_
    exact r_ireturn d14_10 rfl ⟨by simp [imax, c_1], rfl⟩ (by simp) (by decide) (by decide)
  · refine r_iloadN d14_5 rfl rfl ?_
    refine r_goto (pc' := 10) d14_6 rfl ?_
    exact r_ireturn d14_10 rfl ⟨by simp [imax, c_1], rfl⟩ (by simp) (by decide) (by decide)
set_option maxRecDepth 65536 in
set_option maxHeartbeats 40000000 in
theorem ok_can {l : Launch} {Z : State} {a0 : Array Value} (hw : ∀ d ∈ tables_1, d.before a0 Z = true) {n0 : Nat} (c : Int32) (hc : ¬ c < 0 ∧ ¬ (255 : Int32) < c) {h0 : Heap} :
    Ok false l Z [] n0 [] (⟨"java/lang/StringLatin1", "canEncode", "(I)Z"⟩ : MethodName) jdk_43_method_4_code 1 (Option.some Jvm.ClassFile.FieldType.boolean) ({ frames := 0, cells := 0, slots := 0, locals := 0 } : Room) #[(.int c)] h0 (fun v h => v = some (.int 1) ∧ h = h0) (fun _ => []) := by
  refine Ok.of_run (ls0 := #[.val (.int c)]) (plainFor_of_name (by first | (simp [plainName, overriddenIn]; done) | decide +kernel)) (fun m => by first | (simp [entryFrame, mkF, argsToLocals, Value.category]; done) | rfl) rfl ?_
  refine Run.old fun hO => ?_
  have hn0 : n0 ≤ h0.size := hO.1 ▸ hO.2.1
  refine r_iloadN d12_0 rfl rfl ?_
  refine r_iflt (pc2 := 15) d12_1 rfl rfl (fun cc => absurd cc hc.1) (fun _ => ?_)
  refine r_iloadN d12_4 rfl rfl ?_
  refine r_sipush (v := 255) d12_5 rfl rfl ?_
  refine r_icmpgt (pc2 := 15) d12_8 rfl rfl (fun cc => absurd cc hc.2) (fun _ => ?_)
  refine r_iconst (v := 1) d12_11 rfl rfl ?_
  refine r_goto (pc' := 16) d12_12 rfl ?_
  exact r_ireturnN (t := .boolean) d12_16 rfl (by simp) ⟨rfl, rfl⟩ (by simp) (by decide) (by decide)
set_option maxRecDepth 65536 in
theorem loop_lx {l : Launch} {Z : State} {a0 : Array Value} (hw : ∀ d ∈ tables_1, d.before a0 Z = true) {n0 : Nat} {k : ClassId} {bs : List Int32} (b : Addr) (c : Int32) (s2 : Slot) (hb : bs.length < 2 ^ 31) {R : Room} {Q : Option Value → Heap → Prop} {h0 : Heap} (K : Arv Z h0 b k .byte (Int32.ofNat bs.length) (bs.map Value.int) (.int 0)) :
    ∀ (m : Nat), m ≤ bs.length → Q (some (.int (Int32.ofNat (lp c.toInt8.toInt32 bs m) - 1))) h0 → Run false l Z [] n0 "java/lang/StringLatin1" "lastIndexOf" jdk_43_method_27_code (some .int) R Q (fun _ => []) [] h0 0 0 18 #[.val (.ref b), .val (.int c), s2, .val (.int (Int32.ofNat m - 1))] [] := by
  intro m
  induction m with
  | zero =>
    intro hi hQ
    refine r_iloadN d11_18 rfl rfl ?_
    refine r_iflt (pc2 := 38) d11_19 rfl rfl (fun _ => ?_) (fun cc => absurd (by decide) cc)
    refine r_iconst (v := (-1)) d11_38 rfl rfl ?_
    exact r_ireturn d11_39 rfl hQ (by simp) (Nat.zero_le _) (Nat.zero_le _)
  | succ m ih =>
    intro hi hQ
    have hlt : m < bs.length := by omega
    rw [dec1]
    refine r_iloadN d11_18 rfl rfl ?_
    refine r_iflt (pc2 := 38) d11_19 rfl rfl (fun cc => absurd cc (ofNat_in hlt hb).1) (fun _ => ?_)
    refine r_aloadN d11_22 rfl rfl rfl ?_
    refine r_iloadN d11_23 rfl rfl ?_
    refine r_baload (v := (.int (bs.getD m 0))) d11_24 rfl K (ofNat_in hlt hb) (by rw [ofNat_cl (by omega)]; exact getD_map bs m) ?_
    refine r_iloadN d11_25 rfl rfl ?_
    refine r_i2b d11_26 rfl ?_
    refine r_icmpne (pc2 := 32) d11_27 rfl rfl (fun c_1 => ?_) (fun c_1 => ?_)
    · refine r_iinc (l' := #[.val (.ref b), .val (.int c), s2, .val (.int ((Int32.ofNat m) + (Int32.ofInt (-1))))]) d11_32 rfl rfl rfl ?_
      refine r_goto (pc' := 18) d11_35 rfl ?_
      refine Run.castL (ls' := #[.val (.ref b), .val (.int c), s2, .val (.int (Int32.ofNat m - 1))]) (by rw [Int32.sub_eq_add_neg, show (Int32.ofInt (-1)) = (-1 : Int32) from by decide]) ?_
      exact ih (by omega) (by rw [lp, if_neg c_1] at hQ; exact hQ)
    · refine r_iloadN d11_30 rfl rfl ?_
      exact r_ireturn d11_31 rfl (by rw [lp, if_pos c_1, dec1] at hQ; exact hQ) (by simp) (Nat.zero_le _) (Nat.zero_le _)
set_option maxRecDepth 65536 in
set_option maxHeartbeats 40000000 in
theorem ok_sll {l : Launch} {Z : State} {a0 : Array Value} (hw : ∀ d ∈ tables_1, d.before a0 Z = true) {n0 : Nat} {k : ClassId} {bs : List Int32} (b : Addr) (c : Int32) (hc : ¬ c < 0 ∧ ¬ (255 : Int32) < c) (hb : bs.length < 2 ^ 31) {h0 : Heap} (K : Arv Z h0 b k .byte (Int32.ofNat bs.length) (bs.map Value.int) (.int 0)) :
    Ok false l Z [] n0 [] (⟨"java/lang/StringLatin1", "lastIndexOf", "([BII)I"⟩ : MethodName) jdk_43_method_27_code 4 (Option.some Jvm.ClassFile.FieldType.int) ({ frames := 1, cells := 0, slots := 0, locals := 13 } : Room) #[(.ref b), (.int c), (.int (Int32.ofNat bs.length - 1))] h0 (fun v h => v = some (.int (Int32.ofNat (lp c.toInt8.toInt32 bs bs.length) - 1)) ∧ h = h0) (fun _ => []) := by
  refine Ok.of_run (ls0 := #[.val (.ref b), .val (.int c), .val (.int (Int32.ofNat bs.length - 1)), .unset]) (plainFor_of_name (by first | (simp [plainName, overriddenIn]; done) | decide +kernel)) (fun m => by first | (simp [entryFrame, mkF, argsToLocals, Value.category]; done) | rfl) rfl ?_
  refine Run.old fun hO => ?_
  have hn0 : n0 ≤ h0.size := hO.1 ▸ hO.2.1
  refine r_iloadN d11_0 rfl rfl ?_
  refine r_static (y := (⟨"java/lang/StringLatin1", "canEncode", "(I)Z"⟩ : MethodName)) (argsL := [(.int c)]) (rest := []) (W := 0) (kc := 0) (ks := 0) (wl := []) d11_1 rfl (wd61 hw) (wd62 hw) (wd59 hw) (wd63 hw) (by decide) (lenOf pd_1 rfl) rfl rfl (Nat.le_of_ble_eq_true rfl) (Ok.pays (ok_can hw c hc) (wd63 hw) (wd59 hw) (by decide) (by decide)) (fun v h' q => q.2 ▸ Keep.refl _ _) all0 (by decide) (by decide) ?_
  rintro _ h_1 ⟨rfl, eqh⟩
  subst h_1
  refine Run.cast (st' := [(.int (1 : Int32))]) rfl ?_
  refine r_ifne (pc2 := 9) d11_4 rfl rfl (fun _ => ?_) (fun cc => absurd cc (by decide))
  refine r_iloadN d11_9 rfl rfl ?_
  refine r_aloadN d11_10 rfl rfl rfl ?_
  refine r_arraylength d11_11 rfl K ?_
  refine r_iconst (v := 1) d11_12 rfl rfl ?_
  refine r_isub d11_13 rfl ?_
  rw [show ((Int32.ofNat bs.length) - (1 : Int32)) = (Int32.ofNat bs.length - 1) from rfl]
  refine r_static (y := (⟨"java/lang/Math", "min", "(II)I"⟩ : MethodName)) (argsL := [(.int (Int32.ofNat bs.length - 1)), (.int (Int32.ofNat bs.length - 1))]) (rest := []) (W := 0) (kc := 0) (ks := 0) (wl := []) d11_14 rfl (wd64 hw) (wd65 hw) (wd66 hw) (wd67 hw) (by decide) (lenOf pd_2 rfl) rfl rfl (Nat.le_of_ble_eq_true rfl) (Ok.pays (ok_min hw (Int32.ofNat bs.length - 1) (Int32.ofNat bs.length - 1)) (wd67 hw) (wd66 hw) (by decide) (by decide)) (fun v h' q => q.2 ▸ Keep.refl _ _) all0 (by decide) (by decide) ?_
  rintro _ h_2 ⟨rfl, eqh⟩
  subst h_2
  refine Run.cast (st' := [(.int (imin (Int32.ofNat bs.length - 1) (Int32.ofNat bs.length - 1)))]) rfl ?_
  rw [show (imin (Int32.ofNat bs.length - 1) (Int32.ofNat bs.length - 1)) = (Int32.ofNat bs.length - 1) from (by unfold imin; split <;> rfl)]
  refine r_istoreN (l' := #[.val (.ref b), .val (.int c), .val (.int (Int32.ofNat bs.length - 1)), .val (.int (Int32.ofNat bs.length - 1))]) d11_17 rfl rfl ?_
  exact loop_lx hw b c _ hb K bs.length (Nat.le_refl _) ⟨rfl, rfl⟩
set_option maxRecDepth 65536 in
set_option maxHeartbeats 40000000 in
theorem ok_lix2 {l : Launch} {Z : State} {a0 : Array Value} (hw : ∀ d ∈ tables_1, d.before a0 Z = true) {n0 : Nat} (a t : Addr) {cs : List Int32} (c : Int32) (hc : ¬ c < 0 ∧ ¬ (255 : Int32) < c) (hp : Lat cs) (hl : cs.length ≤ 4000) {zC : Int32} {h0 : Heap} (SC : Sta Z Z.heap "java/lang/String" "COMPACT_STRINGS" "Z" (.int zC)) (nC : ¬ zC = 0) (F : Str Z h0 a t cs) :
    Ok false l Z [] n0 [] (⟨"java/lang/String", "lastIndexOf", "(II)I"⟩ : MethodName) jdk_42_method_83_code 3 (Option.some Jvm.ClassFile.FieldType.int) ({ frames := 2, cells := 0, slots := 0, locals := 28 } : Room) #[(.ref a), (.int c), (.int (Int32.ofNat cs.length - 1))] h0 (fun v h => v = some (.int (Int32.ofNat (lp c.toInt8.toInt32 (cs.map (fun c => c.toInt8.toInt32)) cs.length) - 1)) ∧ h = h0) (fun _ => []) := by
  refine Ok.of_run (ls0 := #[.val (.ref a), .val (.int c), .val (.int (Int32.ofNat cs.length - 1))]) (plainFor_of_name (by first | (simp [plainName, overriddenIn]; done) | decide +kernel)) (fun m => by first | (simp [entryFrame, mkF, argsToLocals, Value.category]; done) | rfl) rfl ?_
  refine Run.old fun hO => ?_
  have hn0 : n0 ≤ h0.size := hO.1 ▸ hO.2.1
  obtain ⟨kb, f4⟩ := F.arv
  have f4' : Arv Z h0 t kb .byte (Int32.ofNat (cs.map (fun c => c.toInt8.toInt32)).length) ((cs.map (fun c => c.toInt8.toInt32)).map Value.int) (.int 0) := by rw [List.length_map]; exact f4
  have hle : (cs.map (fun c => c.toInt8.toInt32)).length = cs.length := List.length_map _
  have lt_1 : @LT.lt Nat instLTNat a (Array.size h0) := (Str.lt F)
  have lt_2 : @LT.lt Nat instLTNat t (Array.size h0) := (Str.ltB F)
  refine r_aloadN d9_0 rfl rfl rfl ?_
  refine r_virtual (y := (⟨"java/lang/String", "isLatin1", "()Z"⟩ : MethodName)) (argsL := []) (rest := []) (W := 0) (kc := 0) (ks := 0) (wl := []) d9_1 rfl (wd52 hw) (wd53 hw) (wd55 hw) (wd54 hw) (by decide) ⟨rfl, rfl⟩ (Str.exa F) (lenOf pd_3 rfl) rfl rfl (Nat.le_of_ble_eq_true rfl) (Ok.pays (ok_lat hw a SC nC F.coder) (wd56 hw) (wd8 hw) (by decide) (by decide)) (fun v h' q => q.2 ▸ Keep.refl _ _) all0 (by decide) (by decide) ?_
  rintro _ h_3 ⟨rfl, eqh⟩
  subst h_3
  refine Run.cast (st' := [(.int (1 : Int32))]) rfl ?_
  refine r_ifeq (pc2 := 19) d9_4 rfl rfl (fun cc => absurd cc (by decide)) (fun _ => ?_)
  refine r_aloadN d9_7 rfl rfl rfl ?_
  refine r_getfield (host := "") d9_8 rfl (Or.inl (wd25 hw)) Via.refl (Str.value F) ?_
  refine r_iloadN d9_11 rfl rfl ?_
  refine r_iloadN d9_12 rfl rfl ?_
  rw [show (Int32.ofNat cs.length - 1) = (Int32.ofNat (cs.map (fun c => c.toInt8.toInt32)).length - 1) from (by rw [hle])]
  refine r_static (y := (⟨"java/lang/StringLatin1", "lastIndexOf", "([BII)I"⟩ : MethodName)) (argsL := [(.ref t), (.int c), (.int (Int32.ofNat (cs.map (fun c => c.toInt8.toInt32)).length - 1))]) (rest := []) (W := 0) (kc := 0) (ks := 0) (wl := []) d9_13 rfl (wd57 hw) (wd58 hw) (wd59 hw) (wd60 hw) (by decide) (lenOf pd_4 rfl) rfl rfl (Nat.le_of_ble_eq_true rfl) (Ok.pays (ok_sll hw t c hc (by rw [hle]; omega) f4') (wd60 hw) (wd59 hw) (by decide) (by decide)) (fun v h' q => q.2 ▸ Keep.refl _ _) all0 (by decide) (by decide) ?_
  rintro _ h_4 ⟨rfl, eqh⟩
  subst h_4
  refine Run.cast (st' := [(.int (Int32.ofNat (lp c.toInt8.toInt32 (cs.map (fun c => c.toInt8.toInt32)) (cs.map (fun c => c.toInt8.toInt32)).length) - 1))]) rfl ?_
  rw [show (Int32.ofNat (lp c.toInt8.toInt32 (cs.map (fun c => c.toInt8.toInt32)) (cs.map (fun c => c.toInt8.toInt32)).length) - 1) = (Int32.ofNat (lp c.toInt8.toInt32 (cs.map (fun c => c.toInt8.toInt32)) cs.length) - 1) from (by rw [hle])]
  refine r_goto (pc' := 28) d9_16 rfl ?_
  exact r_ireturn d9_28 rfl ⟨rfl, rfl⟩ (by simp) (by decide) (by decide)
set_option maxRecDepth 65536 in
set_option maxHeartbeats 40000000 in
theorem ok_lix {l : Launch} {Z : State} {a0 : Array Value} (hw : ∀ d ∈ tables_1, d.before a0 Z = true) {n0 : Nat} (a t : Addr) {cs : List Int32} (c : Int32) (hc : ¬ c < 0 ∧ ¬ (255 : Int32) < c) (hp : Lat cs) (hl : cs.length ≤ 4000) {zC : Int32} {h0 : Heap} (SC : Sta Z Z.heap "java/lang/String" "COMPACT_STRINGS" "Z" (.int zC)) (nC : ¬ zC = 0) (F : Str Z h0 a t cs) :
    Ok false l Z [] n0 [] (⟨"java/lang/String", "lastIndexOf", "(I)I"⟩ : MethodName) jdk_42_method_82_code 2 (Option.some Jvm.ClassFile.FieldType.int) ({ frames := 3, cells := 0, slots := 0, locals := 42 } : Room) #[(.ref a), (.int c)] h0 (fun v h => v = some (.int (Int32.ofNat (lp c.toInt8.toInt32 (cs.map (fun c => c.toInt8.toInt32)) cs.length) - 1)) ∧ h = h0) (fun _ => []) := by
  refine Ok.of_run (ls0 := #[.val (.ref a), .val (.int c)]) (plainFor_of_name (by first | (simp [plainName, overriddenIn]; done) | decide +kernel)) (fun m => by first | (simp [entryFrame, mkF, argsToLocals, Value.category]; done) | rfl) rfl ?_
  refine Run.old fun hO => ?_
  have hn0 : n0 ≤ h0.size := hO.1 ▸ hO.2.1
  have lt_1 : @LT.lt Nat instLTNat a (Array.size h0) := (Str.lt F)
  have lt_2 : @LT.lt Nat instLTNat t (Array.size h0) := (Str.ltB F)
  refine r_aloadN d6_0 rfl rfl rfl ?_
  refine r_iloadN d6_1 rfl rfl ?_
  refine r_aloadN d6_2 rfl rfl rfl ?_
  refine r_virtual (y := (⟨"java/lang/String", "length", "()I"⟩ : MethodName)) (argsL := []) (rest := [(.int c), (.ref a)]) (W := 2) (kc := 0) (ks := 0) (wl := []) d6_3 rfl (wd36 hw) (wd37 hw) (wd39 hw) (wd38 hw) (by decide) ⟨rfl, rfl⟩ (Str.exa F) (lenOf pd_5 rfl) rfl rfl (Nat.le_of_ble_eq_true rfl) (pays_len hw F hp (by omega) SC nC (by decide) (by decide)) (fun v h' q => q.2 ▸ Keep.refl _ _) all0 (by decide) (by decide) ?_
  rintro _ h_3 ⟨rfl, eqh⟩
  subst h_3
  refine Run.cast (st' := [(.int (Int32.ofNat cs.length)), (.int c), (.ref a)]) rfl ?_
  refine r_iconst (v := 1) d6_6 rfl rfl ?_
  refine r_isub d6_7 rfl ?_
  rw [show ((Int32.ofNat cs.length) - (1 : Int32)) = (Int32.ofNat cs.length - 1) from rfl]
  refine r_virtual (y := (⟨"java/lang/String", "lastIndexOf", "(II)I"⟩ : MethodName)) (argsL := [(.int c), (.int (Int32.ofNat cs.length - 1))]) (rest := []) (W := 0) (kc := 0) (ks := 0) (wl := []) d6_8 rfl (wd47 hw) (wd48 hw) (wd50 hw) (wd49 hw) (by decide) ⟨rfl, rfl⟩ (Str.exa F) (lenOf pd_2 rfl) rfl rfl (Nat.le_of_ble_eq_true rfl) (Ok.pays (ok_lix2 hw a t c hc hp hl SC nC F) (wd51 hw) (wd8 hw) (by decide) (by decide)) (fun v h' q => q.2 ▸ Keep.refl _ _) all0 (by decide) (by decide) ?_
  rintro _ h_4 ⟨rfl, eqh⟩
  subst h_4
  refine Run.cast (st' := [(.int (Int32.ofNat (lp c.toInt8.toInt32 (cs.map (fun c => c.toInt8.toInt32)) cs.length) - 1))]) rfl ?_
  exact r_ireturn d6_11 rfl ⟨rfl, rfl⟩ (by simp) (by decide) (by decide)
set_option maxRecDepth 65536 in
set_option maxHeartbeats 40000000 in
theorem ok_chl {l : Launch} {Z : State} {a0 : Array Value} (hw : ∀ d ∈ tables_1, d.before a0 Z = true) {n0 : Nat} (i j : Nat) (hle : i ≤ j) (hj : j < 2 ^ 31) {h0 : Heap} :
    Ok false l Z [] n0 [] (⟨"java/util/Arrays", "checkLength", "(II)V"⟩ : MethodName) jdk_65_method_131_code 2 (Option.none : Option Jvm.ClassFile.FieldType) ({ frames := 0, cells := 0, slots := 0, locals := 0 } : Room) #[(.int (Int32.ofNat i)), (.int (Int32.ofNat j))] h0 (fun v h => v = none ∧ h = h0) (fun _ => []) := by
  refine Ok.of_run (ls0 := #[.val (.int (Int32.ofNat i)), .val (.int (Int32.ofNat j))]) (plainFor_of_name (by first | (simp [plainName, overriddenIn]; done) | decide +kernel)) (fun m => by first | (simp [entryFrame, mkF, argsToLocals, Value.category]; done) | rfl) rfl ?_
  refine Run.old fun hO => ?_
  have hn0 : n0 ≤ h0.size := hO.1 ▸ hO.2.1
  refine r_iloadN d30_0 rfl rfl ?_
  refine r_iloadN d30_1 rfl rfl ?_
  refine r_icmpge (pc2 := 37) d30_2 rfl rfl (fun _ => ?_) (fun cc => absurd cc (ofNat_nlt hle (by omega)))
  exact r_return d30_37 rfl ⟨rfl, rfl⟩ (by simp) (by decide) (by decide)
theorem own_range (bs : List Int32) (i n : Nat) (h : i + n ≤ bs.length) : ((bs.drop i).take n).map Value.int = (List.range n).map fun q => (bs.map Value.int).getD (i + q) (.int 0) := by
  apply List.ext_getElem
  · simp; omega
  · intro q h1 h2
    simp only [List.length_map, List.length_range] at h2
    simp only [List.getElem_map, List.getElem_take, List.getElem_drop, List.getElem_range, getD_map]
    rw [List.getD_eq_getElem?_getD, List.getElem?_eq_getElem (by omega)]
    rfl
set_option maxRecDepth 65536 in
set_option maxHeartbeats 40000000 in
theorem ok_corb {l : Launch} {Z : State} {a0 : Array Value} (hw : ∀ d ∈ tables_1, d.before a0 Z = true) {n0 : Nat} (b : Addr) {k : ClassId} {bs : List Int32} (i j : Nat) (hij : i < j) (hj : j ≤ bs.length) (hb : bs.length ≤ 4) {h0 : Heap} (K : Arv Z h0 b k .byte (Int32.ofNat bs.length) (bs.map Value.int) (.int 0)) :
    Ok false l Z [] n0 [] (⟨"java/util/Arrays", "copyOfRangeByte", "([BII)[B"⟩ : MethodName) jdk_65_method_133_code 5 (Option.some (Jvm.ClassFile.FieldType.array Jvm.ClassFile.FieldType.byte)) ({ frames := 1, cells := 1, slots := 4, locals := 60 } : Room) #[(.ref b), (.int (Int32.ofNat i)), (.int (Int32.ofNat j))] h0 (fun v h => ∃ b2 k2, v = some (.ref b2) ∧ Keep h0 h [] ∧ h0.size ≤ b2 ∧ Arv Z h b2 k2 .byte (Int32.ofNat (j - i)) (((bs.drop i).take (j - i)).map Value.int) (.int 0) ∧ Exa Z h b2 "[B") (fun _ => []) := by
  refine Ok.of_run (ls0 := #[.val (.ref b), .val (.int (Int32.ofNat i)), .val (.int (Int32.ofNat j)), .unset, .unset]) (plainFor_of_name (by first | (simp [plainName, overriddenIn]; done) | decide +kernel)) (fun m => by first | (simp [entryFrame, mkF, argsToLocals, Value.category]; done) | rfl) rfl ?_
  refine Run.old fun hO => ?_
  have hn0 : n0 ≤ h0.size := hO.1 ▸ hO.2.1
  have lt_1 : @LT.lt Nat instLTNat b (Array.size h0) := K.lt
  refine r_iloadN d29_0 rfl rfl ?_
  refine r_iloadN d29_1 rfl rfl ?_
  refine r_static (y := (⟨"java/util/Arrays", "checkLength", "(II)V"⟩ : MethodName)) (argsL := [(.int (Int32.ofNat i)), (.int (Int32.ofNat j))]) (rest := []) (W := 0) (kc := 0) (ks := 0) (wl := []) d29_2 rfl (wd129 hw) (wd130 hw) (wd124 hw) (wd131 hw) (by decide) (lenOf pd_6 rfl) rfl rfl (Nat.le_of_ble_eq_true rfl) (Ok.pays (ok_chl hw i j (by omega) (by omega)) (wd131 hw) (wd124 hw) (by decide) (by decide)) (fun v h' q => q.2 ▸ Keep.refl _ _) all0 (by decide) (by decide) ?_
  rintro _ h_2 ⟨rfl, eqh⟩
  subst h_2
  refine Run.cast (st' := []) rfl ?_
  refine r_iloadN d29_5 rfl rfl ?_
  refine r_iloadN d29_6 rfl rfl ?_
  refine r_isub d29_7 rfl ?_
  rw [show ((Int32.ofNat j) - (Int32.ofNat i)) = (Int32.ofNat (j - i)) from ofNat_sub (by omega)]
  refine r_istoreN (l' := #[.val (.ref b), .val (.int (Int32.ofNat i)), .val (.int (Int32.ofNat j)), .val (.int (Int32.ofNat (j - i))), .unset]) d29_8 rfl rfl ?_
  refine r_iloadN d29_9 rfl rfl ?_
  refine r_newP (cap := 4) (ad := "[B") d29_10 rfl (wd20 hw) (ofNat_in (n := 4001) (by omega) (by omega)).1 (by rw [ofNat_cl (by omega)]; omega) (by decide) (by decide) (by decide) (by decide) ?_
  intro h_4 b_3 k_8 gb_3 ltb_3 E_5 A_6 K_7
  have szh_4 := E_5.1
  have geb_3 : n0 ≤ b_3 := by omega
  have K_9 : Arv Z h_4 b_3 k_8 .byte (Int32.ofNat (j - i)) (List.replicate (j - i) (.int 0)) (.int 0) := Arv.pad K_7 (by intro q; have e := pad_rep [] (.int 0) (j - i) q; simpa using e)
  refine r_astore (l' := #[.val (.ref b), .val (.int (Int32.ofNat i)), .val (.int (Int32.ofNat j)), .val (.int (Int32.ofNat (j - i))), .val (.ref b_3)]) d29_12 rfl rfl rfl ?_
  refine r_aloadN d29_14 rfl rfl rfl ?_
  refine r_iloadN d29_15 rfl rfl ?_
  refine r_aload d29_16 rfl rfl rfl ?_
  refine r_iconst (v := 0) d29_18 rfl rfl ?_
  refine r_aloadN d29_19 rfl rfl rfl ?_
  have K_10 : Arv Z h_4 b k .byte (Int32.ofNat bs.length) (bs.map Value.int) (.int 0) := (K.ext E_5)
  refine r_arraylength d29_20 rfl K_10 ?_
  refine r_iloadN d29_21 rfl rfl ?_
  refine r_isub d29_22 rfl ?_
  rw [show ((Int32.ofNat bs.length) - (Int32.ofNat i)) = (Int32.ofNat (bs.length - i)) from ofNat_sub (by omega)]
  refine r_iloadN d29_23 rfl rfl ?_
  refine r_static (y := (⟨"java/lang/Math", "min", "(II)I"⟩ : MethodName)) (argsL := [(.int (Int32.ofNat (bs.length - i))), (.int (Int32.ofNat (j - i)))]) (rest := [(.int (0 : Int32)), (.ref b_3), (.int (Int32.ofNat i)), (.ref b)]) (W := 4) (kc := 0) (ks := 0) (wl := []) d29_24 rfl (wd132 hw) (wd65 hw) (wd66 hw) (wd67 hw) (by decide) (lenOf pd_2 rfl) rfl rfl (Nat.le_of_ble_eq_true rfl) (Ok.pays (ok_min hw (Int32.ofNat (bs.length - i)) (Int32.ofNat (j - i))) (wd67 hw) (wd66 hw) (by decide) (by decide)) (fun v h' q => q.2 ▸ Keep.refl _ _) all0 (by decide) (by decide) ?_
  rintro _ h_11 ⟨rfl, eqh⟩
  subst h_11
  refine Run.cast (st' := [(.int (imin (Int32.ofNat (bs.length - i)) (Int32.ofNat (j - i)))), (.int (0 : Int32)), (.ref b_3), (.int (Int32.ofNat i)), (.ref b)]) rfl ?_
  rw [show (imin (Int32.ofNat (bs.length - i)) (Int32.ofNat (j - i))) = (Int32.ofNat (j - i)) from (by rw [imin_of (by omega) (by omega), Nat.min_eq_right (by omega)])]
  refine r_arraycopy (us := ((bs.drop i).take (j - i)).map Value.int) (W := 0) d29_27 rfl (wd133 hw) (wd136 hw) (wd134 hw) (wd135 hw) K_10 K_9 (Or.inl ⟨rfl, rfl⟩) (ofNat_in (n := 4001) (by omega) (by omega)).1 (by decide) (ofNat_in (n := 4001) (by omega) (by omega)).1 (by rw [ofNat_cl (by omega), ofNat_cl (by omega), ofNat_cl (by omega)]; omega) (by rw [ofNat_cl (by omega)]; simp) (by rw [ofNat_cl (by omega), ofNat_cl (by omega)]; exact own_range bs i (j - i) (by omega)) (by rw [ofNat_cl (by omega)]; simp) geb_3 (Or.inl rfl) (by decide) (Nat.le_of_ble_eq_true rfl) (by decide) ?_
  intro h_12 KK_13 K_14
  have szh_12 := KK_13.1
  have K_15 : Arv Z h_12 b_3 k_8 .byte (Int32.ofNat (j - i)) (((bs.drop i).take (j - i)).map Value.int) (.int 0) := by rw [ofNat_cl (by omega)] at K_14; simpa using K_14
  refine r_aload d29_30 rfl rfl rfl ?_
  have A_16 : Exa Z h_12 b_3 "[B" := (Exa.keep A_6 KK_13)
  exact r_areturn d29_32 rfl rfl rfl rfl ⟨b_3, k_8, rfl, (Keep.trans (Keep.ext (Keep.refl _ _) E_5) KK_13 (allS (Or.inr (by omega)) all0)), by omega, K_15, A_16⟩ (by simp) (by decide) (by decide)
set_option maxRecDepth 65536 in
set_option maxHeartbeats 40000000 in
theorem ok_cor {l : Launch} {Z : State} {a0 : Array Value} (hw : ∀ d ∈ tables_1, d.before a0 Z = true) {n0 : Nat} (b : Addr) {k : ClassId} {bs : List Int32} (i j : Nat) (hij : i < j) (hj : j ≤ bs.length) (hb : bs.length ≤ 4) (hno : ¬ (i = 0 ∧ j = bs.length)) {h0 : Heap} (K : Arv Z h0 b k .byte (Int32.ofNat bs.length) (bs.map Value.int) (.int 0)) :
    Ok false l Z [] n0 [] (⟨"java/util/Arrays", "copyOfRange", "([BII)[B"⟩ : MethodName) jdk_65_method_132_code 3 (Option.some (Jvm.ClassFile.FieldType.array Jvm.ClassFile.FieldType.byte)) ({ frames := 2, cells := 1, slots := 4, locals := 76 } : Room) #[(.ref b), (.int (Int32.ofNat i)), (.int (Int32.ofNat j))] h0 (fun v h => ∃ b2 k2, v = some (.ref b2) ∧ Keep h0 h [] ∧ h0.size ≤ b2 ∧ Arv Z h b2 k2 .byte (Int32.ofNat (j - i)) (((bs.drop i).take (j - i)).map Value.int) (.int 0) ∧ Exa Z h b2 "[B") (fun _ => []) := by
  refine Ok.of_run (ls0 := #[.val (.ref b), .val (.int (Int32.ofNat i)), .val (.int (Int32.ofNat j))]) (plainFor_of_name (by first | (simp [plainName, overriddenIn]; done) | decide +kernel)) (fun m => by first | (simp [entryFrame, mkF, argsToLocals, Value.category]; done) | rfl) rfl ?_
  refine Run.old fun hO => ?_
  have hn0 : n0 ≤ h0.size := hO.1 ▸ hO.2.1
  refine r_iloadN d28_0 rfl rfl ?_
  refine r_ifne (pc2 := 10) d28_1 rfl rfl (fun c_1 => ?_) (fun c_1 => ?_)
  · refine r_aloadN d28_10 rfl rfl rfl ?_
    refine r_iloadN d28_11 rfl rfl ?_
    refine r_iloadN d28_12 rfl rfl ?_
    refine r_static (y := (⟨"java/util/Arrays", "copyOfRangeByte", "([BII)[B"⟩ : MethodName)) (argsL := [(.ref b), (.int (Int32.ofNat i)), (.int (Int32.ofNat j))]) (rest := []) (W := 0) (kc := 1) (ks := 4) (wl := []) d28_13 rfl (wd126 hw) (wd127 hw) (wd124 hw) (wd128 hw) (by decide) (lenOf pd_7 rfl) rfl rfl (Nat.le_of_ble_eq_true rfl) (Ok.pays (ok_corb hw b i j hij hj hb K) (wd128 hw) (wd124 hw) (by decide) (by decide)) (fun v h' q => by obtain ⟨_, _, _, K, _⟩ := q; exact K) all0 (by decide) (by decide) ?_
    rintro _ h_2 ⟨b2, k2, rfl, q⟩
    refine Run.cast (st' := [(.ref b2)]) rfl ?_
    exact r_areturn d28_16 rfl rfl rfl rfl ⟨b2, k2, rfl, q⟩ (by simp) (by decide) (by decide)
  · refine r_iloadN d28_4 rfl rfl ?_
    refine r_aloadN d28_5 rfl rfl rfl ?_
    refine r_arraylength d28_6 rfl K ?_
    refine r_icmpeq (pc2 := 17) d28_7 rfl rfl (fun cc => absurd ⟨ofNat_inj' (j := 0) (by omega) (by omega) c_1, ofNat_inj' (by omega) (by omega) cc⟩ hno) (fun _ => ?_)
    refine r_aloadN d28_10 rfl rfl rfl ?_
    refine r_iloadN d28_11 rfl rfl ?_
    refine r_iloadN d28_12 rfl rfl ?_
    refine r_static (y := (⟨"java/util/Arrays", "copyOfRangeByte", "([BII)[B"⟩ : MethodName)) (argsL := [(.ref b), (.int (Int32.ofNat i)), (.int (Int32.ofNat j))]) (rest := []) (W := 0) (kc := 1) (ks := 4) (wl := []) d28_13 rfl (wd126 hw) (wd127 hw) (wd124 hw) (wd128 hw) (by decide) (lenOf pd_7 rfl) rfl rfl (Nat.le_of_ble_eq_true rfl) (Ok.pays (ok_corb hw b i j hij hj hb K) (wd128 hw) (wd124 hw) (by decide) (by decide)) (fun v h' q => by obtain ⟨_, _, _, K, _⟩ := q; exact K) all0 (by decide) (by decide) ?_
    rintro _ h_3 ⟨b2, k2, rfl, q⟩
    refine Run.cast (st' := [(.ref b2)]) rfl ?_
    exact r_areturn d28_16 rfl rfl rfl rfl ⟨b2, k2, rfl, q⟩ (by simp) (by decide) (by decide)
set_option maxRecDepth 65536 in
set_option maxHeartbeats 40000000 in
theorem ok_bb {l : Launch} {Z : State} {a0 : Array Value} (hw : ∀ d ∈ tables_1, d.before a0 Z = true) {n0 : Nat} (x b : Addr) {h0 : Heap} (E : Exa Z h0 x "java/lang/String") (V : Fld Z h0 x "java/lang/String" "value" "[B" .null) (C : Fld Z h0 x "java/lang/String" "coder" "B" (.int 0)) (ge : n0 ≤ x) :
    Ok false l Z [] n0 [] (⟨"java/lang/String", "<init>", "([BB)V"⟩ : MethodName) jdk_42_method_151_code 3 (Option.none : Option Jvm.ClassFile.FieldType) ({ frames := 1, cells := 0, slots := 0, locals := 12 } : Room) #[(.ref x), (.ref b), (.int (0 : Int32))] h0 (fun v h => v = none ∧ Keep h0 h [x] ∧ Exa Z h x "java/lang/String" ∧ Fld Z h x "java/lang/String" "coder" "B" (.int 0) ∧ Fld Z h x "java/lang/String" "value" "[B" (.ref b)) (fun _ => []) := by
  refine Ok.of_run (ls0 := #[.val (.ref x), .val (.ref b), .val (.int (0 : Int32))]) (plainFor_of_name (by first | (simp [plainName, overriddenIn]; done) | decide +kernel)) (fun m => by first | (simp [entryFrame, mkF, argsToLocals, Value.category]; done) | rfl) rfl ?_
  refine Run.old fun hO => ?_
  have hn0 : n0 ≤ h0.size := hO.1 ▸ hO.2.1
  have lt_1 : @LT.lt Nat instLTNat x (Array.size h0) := E.lt
  refine r_aloadN d31_0 rfl rfl rfl ?_
  refine r_initO (W := 0) d31_1 rfl (wd16 hw) (wd17 hw) (wd18 hw) (by decide) (Nat.le_of_ble_eq_true rfl) (by decide) ?_
  refine r_aloadN d31_4 rfl rfl rfl ?_
  refine r_aloadN d31_5 rfl rfl rfl ?_
  refine r_putfield (ty := (.array .byte)) (v' := (.ref b)) d31_6 rfl (wd25 hw) Via.refl V E (Or.inr ⟨(wd21 hw), rfl, rfl⟩) (wd7 hw) (by decide) rfl rfl ge (Or.inl rfl) ?_
  intro h_2 W_3
  have szh_2 := Wr.size W_3
  have F_4 : Fld Z h_2 x "java/lang/String" "value" "[B" (.ref b) := Fld.same W_3 V
  refine r_aloadN d31_9 rfl rfl rfl ?_
  refine r_iloadN d31_10 rfl rfl ?_
  have F_5 : Fld Z h_2 x "java/lang/String" "coder" "B" (.int (0 : Int32)) := (Fld.other W_3 C (Or.inr (slot_ne (Or.inr (wd22 hw)) (Or.inr (wd21 hw)) (by decide) (t := .byte) (t' := (.array .byte)) (by decide) (by decide))))
  have A_6 : Exa Z h_2 x "java/lang/String" := (Exa.wr W_3 E)
  refine r_putfield (ty := .byte) (v' := (.int 0)) d31_11 rfl (wd26 hw) Via.refl F_5 A_6 (Or.inr ⟨(wd22 hw), rfl, rfl⟩) (wd7 hw) (by decide) rfl rfl ge (Or.inl rfl) ?_
  intro h_7 W_8
  have szh_7 := Wr.size W_8
  have F_9 : Fld Z h_7 x "java/lang/String" "coder" "B" (.int 0) := Fld.same W_8 F_5
  have F_10 : Fld Z h_7 x "java/lang/String" "value" "[B" (.ref b) := (Fld.other W_8 F_4 (Or.inr (slot_ne (Or.inr (wd21 hw)) (Or.inr (wd22 hw)) (by decide) (t := (.array .byte)) (t' := .byte) (by decide) (by decide))))
  have A_11 : Exa Z h_7 x "java/lang/String" := (Exa.wr W_8 A_6)
  exact r_return d31_14 rfl ⟨rfl, (Keep.wr (Keep.wr (Keep.refl _ _) W_3 (Or.inl (by simp))) W_8 (Or.inl (by simp))), A_11, F_9, F_10⟩ (by simp) (by decide) (by decide)
set_option maxRecDepth 65536 in
set_option maxHeartbeats 40000000 in
theorem ok_cft {l : Launch} {Z : State} {a0 : Array Value} (hw : ∀ d ∈ tables_1, d.before a0 Z = true) {n0 : Nat} (i j n : Nat) (hij : i ≤ j) (hj : j ≤ n) (hn : n ≤ 4000) {vF : Value} {h0 : Heap} (rF : vF.isRef = true) :
    Ok false l Z [] n0 [] (⟨"jdk/internal/util/Preconditions", "checkFromToIndex", "(IIILjava/util/function/BiFunction;)I"⟩ : MethodName) jdk_41_method_12_code 4 (Option.some Jvm.ClassFile.FieldType.int) ({ frames := 0, cells := 0, slots := 0, locals := 0 } : Room) #[(.int (Int32.ofNat i)), (.int (Int32.ofNat j)), (.int (Int32.ofNat n)), vF] h0 (fun v h => v = some (.int (Int32.ofNat i)) ∧ h = h0) (fun _ => []) := by
  refine Ok.of_run (ls0 := #[.val (.int (Int32.ofNat i)), .val (.int (Int32.ofNat j)), .val (.int (Int32.ofNat n)), .val vF]) (plainFor_of_name (by first | (simp [plainName, overriddenIn]; done) | decide +kernel)) (fun m => by rcases ref_cases rF with rfl | ⟨q, rfl⟩ <;> first | (simp [entryFrame, mkF, argsToLocals, Value.category]; done) | rfl) rfl ?_
  refine Run.old fun hO => ?_
  have hn0 : n0 ≤ h0.size := hO.1 ▸ hO.2.1
  refine r_iloadN d18_0 rfl rfl ?_
  refine r_iflt (pc2 := 14) d18_1 rfl rfl (fun cc => absurd cc (ofNat_in (n := 4001) (by omega) (by omega)).1) (fun _ => ?_)
  refine r_iloadN d18_4 rfl rfl ?_
  refine r_iloadN d18_5 rfl rfl ?_
  refine r_icmpgt (pc2 := 14) d18_6 rfl rfl (fun cc => absurd cc (ofNat_nlt hij (by omega))) (fun _ => ?_)
  refine r_iloadN d18_9 rfl rfl ?_
  refine r_iloadN d18_10 rfl rfl ?_
  refine r_icmple (pc2 := 22) d18_11 rfl rfl (fun _ => ?_) (fun cc => absurd cc (ofNat_nlt hj (by omega)))
  refine r_iloadN d18_22 rfl rfl ?_
  exact r_ireturn d18_23 rfl ⟨rfl, rfl⟩ (by simp) (by decide) (by decide)
set_option maxRecDepth 65536 in
set_option maxHeartbeats 40000000 in
theorem ok_cbe {l : Launch} {Z : State} {a0 : Array Value} (hw : ∀ d ∈ tables_1, d.before a0 Z = true) {n0 : Nat} (i j n : Nat) (hij : i ≤ j) (hj : j ≤ n) (hn : n ≤ 4000) {vF : Value} {h0 : Heap} (SF : Sta Z Z.heap "jdk/internal/util/Preconditions" "SIOOBE_FORMATTER" "Ljava/util/function/BiFunction;" vF) (rF : vF.isRef = true) :
    Ok false l Z [] n0 [] (⟨"java/lang/String", "checkBoundsBeginEnd", "(III)V"⟩ : MethodName) jdk_42_method_158_code 3 (Option.none : Option Jvm.ClassFile.FieldType) ({ frames := 1, cells := 0, slots := 0, locals := 15 } : Room) #[(.int (Int32.ofNat i)), (.int (Int32.ofNat j)), (.int (Int32.ofNat n))] h0 (fun v h => v = none ∧ h = h0) (fun _ => []) := by
  refine Ok.of_run (ls0 := #[.val (.int (Int32.ofNat i)), .val (.int (Int32.ofNat j)), .val (.int (Int32.ofNat n))]) (plainFor_of_name (by first | (simp [plainName, overriddenIn]; done) | decide +kernel)) (fun m => by first | (simp [entryFrame, mkF, argsToLocals, Value.category]; done) | rfl) rfl ?_
  refine Run.old fun hO => ?_
  have hn0 : n0 ≤ h0.size := hO.1 ▸ hO.2.1
  refine r_iloadN d17_0 rfl rfl ?_
  refine r_iloadN d17_1 rfl rfl ?_
  refine r_iloadN d17_2 rfl rfl ?_
  refine r_getstatic (host := "") d17_3 rfl (Or.inl (wd84 hw)) Via.refl SF ?_
  refine r_static (y := (⟨"jdk/internal/util/Preconditions", "checkFromToIndex", "(IIILjava/util/function/BiFunction;)I"⟩ : MethodName)) (argsL := [(.int (Int32.ofNat i)), (.int (Int32.ofNat j)), (.int (Int32.ofNat n)), vF]) (rest := []) (W := 0) (kc := 0) (ks := 0) (wl := []) d17_6 rfl (wd86 hw) (wd87 hw) (wd85 hw) (wd88 hw) (by decide) (lenOf pd_8 rfl) rfl rfl (Nat.le_of_ble_eq_true rfl) (Ok.pays (ok_cft hw i j n hij hj hn rF) (wd88 hw) (wd85 hw) (by decide) (by decide)) (fun v h' q => q.2 ▸ Keep.refl _ _) all0 (by decide) (by decide) ?_
  rintro _ h_1 ⟨rfl, eqh⟩
  subst h_1
  refine Run.cast (st' := [(.int (Int32.ofNat i))]) rfl ?_
  refine r_pop d17_9 rfl rfl ?_
  exact r_return d17_10 rfl ⟨rfl, rfl⟩ (by simp) (by decide) (by decide)
set_option maxRecDepth 65536 in
set_option maxHeartbeats 40000000 in
theorem ok_ns {l : Launch} {Z : State} {a0 : Array Value} (hw : ∀ d ∈ tables_1, d.before a0 Z = true) {n0 : Nat} (b : Addr) {k : ClassId} {cs : List Int32} (i j : Nat) (hij : i ≤ j) (hj : j ≤ cs.length) (hl : cs.length ≤ 4) (hno : ¬ (i = 0 ∧ j = cs.length)) {h0 : Heap} (K : Arv Z h0 b k .byte (Int32.ofNat (cs.map (fun c => c.toInt8.toInt32)).length) ((cs.map (fun c => c.toInt8.toInt32)).map Value.int) (.int 0)) :
    Ok true l Z consts_1 n0 [] (⟨"java/lang/StringLatin1", "newString", "([BII)Ljava/lang/String;"⟩ : MethodName) jdk_43_method_47_code 3 (Option.some (Jvm.ClassFile.FieldType.object "java/lang/String")) ({ frames := 3, cells := 2, slots := 8, locals := 92 } : Room) #[(.ref b), (.int (Int32.ofNat i)), (.int (Int32.ofNat (j - i)))] h0 (fun v h => ∃ a2 t2, v = some (.ref a2) ∧ Keep h0 h [] ∧ Str Z h a2 t2 ((cs.drop i).take (j - i))) (fun _ => []) := by
  refine Ok.of_run (ls0 := #[.val (.ref b), .val (.int (Int32.ofNat i)), .val (.int (Int32.ofNat (j - i)))]) (plainFor_of_name (by first | (simp [plainName, overriddenIn]; done) | decide +kernel)) (fun m => by first | (simp [entryFrame, mkF, argsToLocals, Value.category]; done) | rfl) rfl ?_
  refine Run.old fun hO => ?_
  have hn0 : n0 ≤ h0.size := hO.1 ▸ hO.2.1
  have lt_1 : @LT.lt Nat instLTNat b (Array.size h0) := K.lt
  refine r_iloadN d23_0 rfl rfl ?_
  refine r_ifne (pc2 := 7) d23_1 rfl rfl (fun c_2 => ?_) (fun c_2 => ?_)
  · have hlt : i < j := by rcases Nat.lt_or_ge i j with q | q; exact q; exact absurd (by rw [show j - i = 0 by omega]; rfl) c_2
    refine r_new d23_7 rfl (wd121 hw) (wd7 hw) (wd8 hw) (by decide) (by decide) ?_
    intro h_4 b_3 gb_3 ltb_3 E_5 A_6 D_7 U_8
    have szh_4 := E_5.1
    have geb_3 : n0 ≤ b_3 := by omega
    have F_9 : Fld Z h_4 b_3 "java/lang/String" "value" "[B" .null := D_7 (Or.inr (wd21 hw)) (ty := (.array .byte)) (by decide)
    have F_10 : Fld Z h_4 b_3 "java/lang/String" "coder" "B" (.int (0 : Int32)) := D_7 (Or.inr (wd22 hw)) (ty := .byte) (by decide)
    refine r_dup d23_10 rfl rfl ?_
    refine r_aloadN d23_11 rfl rfl rfl ?_
    refine r_iloadN d23_12 rfl rfl ?_
    refine r_iloadN d23_13 rfl rfl ?_
    refine r_iloadN d23_14 rfl rfl ?_
    refine r_iadd d23_15 rfl ?_
    rw [show ((Int32.ofNat i) + (Int32.ofNat (j - i))) = (Int32.ofNat j) from (by rw [ofNat_add', show i + (j - i) = j by omega])]
    have K_11 : Arv Z h_4 b k .byte (Int32.ofNat (cs.map (fun c => c.toInt8.toInt32)).length) ((cs.map (fun c => c.toInt8.toInt32)).map Value.int) (.int 0) := (K.ext E_5)
    refine r_static (y := (⟨"java/util/Arrays", "copyOfRange", "([BII)[B"⟩ : MethodName)) (argsL := [(.ref b), (.int (Int32.ofNat i)), (.int (Int32.ofNat j))]) (rest := [(.ref b_3), (.ref b_3)]) (W := 2) (kc := 1) (ks := 4) (wl := []) d23_16 rfl (wd122 hw) (wd123 hw) (wd124 hw) (wd125 hw) (by decide) (lenOf pd_7 rfl) rfl rfl (Nat.le_of_ble_eq_true rfl) (Ok.pays (ok_cor hw b i j hlt (by rw [List.length_map]; exact hj) (by rw [List.length_map]; exact hl) (by rw [List.length_map]; exact hno) K_11) (wd125 hw) (wd124 hw) (by decide) (by decide)) (fun v h' q => by obtain ⟨_, _, _, K, _⟩ := q; exact K) all0 (by decide) (by decide) ?_
    rintro _ h_12 ⟨b2, k2, rfl, KK1, hge, K2, E2⟩
    refine Run.cast (st' := [(.ref b2), (.ref b_3), (.ref b_3)]) rfl ?_
    have szh_12 := KK1.1
    have lt_13 : @LT.lt Nat instLTNat b2 (Array.size h_12) := K2.lt
    refine r_iconst (v := 0) d23_19 rfl rfl ?_
    have A_14 : Exa Z h_12 b_3 "java/lang/String" := (Exa.keep A_6 KK1)
    have F_15 : Fld Z h_12 b_3 "java/lang/String" "value" "[B" .null := (Fld.keep F_9 KK1 nin0)
    have F_16 : Fld Z h_12 b_3 "java/lang/String" "coder" "B" (.int (0 : Int32)) := (Fld.keep F_10 KK1 nin0)
    refine r_special (y := (⟨"java/lang/String", "<init>", "([BB)V"⟩ : MethodName)) (argsL := [(.ref b2), (.int (0 : Int32))]) (rest := [(.ref b_3)]) (W := 1) (kc := 0) (ks := 0) (wl := [b_3]) d23_20 rfl rfl (wd137 hw) (wd138 hw) (wd139 hw) (by decide) (lenOf pd_9 rfl) rfl rfl (Nat.le_of_ble_eq_true rfl) (Ok.pays (ok_bb hw b_3 b2 A_14 F_15 F_16 geb_3) (wd139 hw) (wd8 hw) (by decide) (by decide)) (fun v h' q => q.2.1) (allS ⟨geb_3, (Sf.my (by simp))⟩ all0) (by decide) (by decide) ?_
    rintro _ h_17 ⟨rfl, KK2, E3, C3, V3⟩
    refine Run.cast (st' := [(.ref b_3)]) rfl ?_
    have szh_17 := KK2.1
    have nbx : @Ne Nat b2 b_3 := by omega
    have K_18 : Arv Z h_17 b2 k2 .byte (Int32.ofNat (j - i)) ((((cs.map (fun c => c.toInt8.toInt32)).drop i).take (j - i)).map Value.int) (.int 0) := (Arv.keep K2 KK2 (ninS nbx nin0))
    have A_19 : Exa Z h_17 b2 "[B" := (Exa.keep E2 KK2)
    have K5 : Arv Z h_17 b2 k2 .byte (Int32.ofNat ((cs.drop i).take (j - i)).length) (bv ((cs.drop i).take (j - i))) (.int 0) := by
      have e1 : ((cs.drop i).take (j - i)).length = j - i := by rw [List.length_take, List.length_drop]; omega
      rw [e1]; have e2 : bv ((cs.drop i).take (j - i)) = ((((cs.map (fun c => c.toInt8.toInt32)).drop i).take (j - i)).map Value.int) := by simp [bv, List.map_take, List.map_drop]
      rw [e2]; exact K_18
    exact r_areturn d23_23 rfl rfl rfl rfl ⟨b_3, b2, rfl, (Keep.trans (Keep.trans (Keep.ext (Keep.refl _ _) E_5) KK1 all0) KK2 (allS (Or.inr (by omega)) all0)), ⟨E3, C3, V3, ⟨k2, K5⟩, fun _ => A_19⟩⟩ (by simp) (by decide) (by decide)
  · have heq : j - i = 0 := ofNat_inj' (j := 0) (by omega) (by omega) c_2
    refine r_ldcS (z := 0) (n := 0) (vs := []) rfl d23_4 rfl (wd106 hw) (strAtoms hw) (by simp [consts_1]) ⟨by decide, by decide⟩ (by decide) (by decide) (by decide) (by decide) (by decide) (by decide) ?_
    intro h_20 a_21 t_22 k_23 E_24 A_25 C_26 V_27 K_28 N_29
    have szh_20 := E_24.1
    exact r_areturn d23_6 rfl rfl rfl rfl ⟨a_21, t_22, rfl, (Keep.ext (Keep.refl _ _) E_24), by rw [heq, List.take_zero]; exact ⟨A_25, C_26, V_27, ⟨k_23, K_28⟩, fun q => absurd rfl q⟩⟩ (by simp) (by decide) (by decide)
set_option maxRecDepth 65536 in
set_option maxHeartbeats 40000000 in
theorem ok_sub {l : Launch} {Z : State} {a0 : Array Value} (hw : ∀ d ∈ tables_1, d.before a0 Z = true) {n0 : Nat} (a t : Addr) {cs : List Int32} (i j : Nat) (hij : i ≤ j) (hj : j ≤ cs.length) (hl : cs.length ≤ 4) (hp : Lat cs) {zC : Int32} {vF : Value} {h0 : Heap} (SC : Sta Z Z.heap "java/lang/String" "COMPACT_STRINGS" "Z" (.int zC)) (nC : ¬ zC = 0) (SF : Sta Z Z.heap "jdk/internal/util/Preconditions" "SIOOBE_FORMATTER" "Ljava/util/function/BiFunction;" vF) (rF : vF.isRef = true) (F : Str Z h0 a t cs) :
    Ok true l Z consts_1 n0 [] (⟨"java/lang/String", "substring", "(II)Ljava/lang/String;"⟩ : MethodName) jdk_42_method_92_code 5 (Option.some (Jvm.ClassFile.FieldType.object "java/lang/String")) ({ frames := 4, cells := 2, slots := 8, locals := 106 } : Room) #[(.ref a), (.int (Int32.ofNat i)), (.int (Int32.ofNat j))] h0 (fun v h => ∃ a2 t2, v = some (.ref a2) ∧ Keep h0 h [] ∧ Str Z h a2 t2 ((cs.drop i).take (j - i))) (fun _ => []) := by
  refine Ok.of_run (ls0 := #[.val (.ref a), .val (.int (Int32.ofNat i)), .val (.int (Int32.ofNat j)), .unset, .unset]) (plainFor_of_name (by first | (simp [plainName, overriddenIn]; done) | decide +kernel)) (fun m => by first | (simp [entryFrame, mkF, argsToLocals, Value.category]; done) | rfl) rfl ?_
  refine Run.old fun hO => ?_
  have hn0 : n0 ≤ h0.size := hO.1 ▸ hO.2.1
  obtain ⟨kb, f4⟩ := F.arv
  have f4' : Arv Z h0 t kb .byte (Int32.ofNat (cs.map (fun c => c.toInt8.toInt32)).length) ((cs.map (fun c => c.toInt8.toInt32)).map Value.int) (.int 0) := by rw [List.length_map]; exact f4
  have lt_1 : @LT.lt Nat instLTNat a (Array.size h0) := (Str.lt F)
  have lt_2 : @LT.lt Nat instLTNat t (Array.size h0) := (Str.ltB F)
  refine r_aloadN d16_0 rfl rfl rfl ?_
  refine r_virtual (y := (⟨"java/lang/String", "length", "()I"⟩ : MethodName)) (argsL := []) (rest := []) (W := 0) (kc := 0) (ks := 0) (wl := []) d16_1 rfl (wd36 hw) (wd37 hw) (wd39 hw) (wd38 hw) (by decide) ⟨rfl, rfl⟩ (Str.exa F) (lenOf pd_5 rfl) rfl rfl (Nat.le_of_ble_eq_true rfl) (pays_len hw F hp (by omega) SC nC (by decide) (by decide)) (fun v h' q => q.2 ▸ Keep.refl _ _) all0 (by decide) (by decide) ?_
  rintro _ h_3 ⟨rfl, eqh⟩
  subst h_3
  refine Run.cast (st' := [(.int (Int32.ofNat cs.length))]) rfl ?_
  refine r_istoreN (l' := #[.val (.ref a), .val (.int (Int32.ofNat i)), .val (.int (Int32.ofNat j)), .val (.int (Int32.ofNat cs.length)), .unset]) d16_4 rfl rfl ?_
  refine r_iloadN d16_5 rfl rfl ?_
  refine r_iloadN d16_6 rfl rfl ?_
  refine r_iloadN d16_7 rfl rfl ?_
  refine r_static (y := (⟨"java/lang/String", "checkBoundsBeginEnd", "(III)V"⟩ : MethodName)) (argsL := [(.int (Int32.ofNat i)), (.int (Int32.ofNat j)), (.int (Int32.ofNat cs.length))]) (rest := []) (W := 0) (kc := 0) (ks := 0) (wl := []) d16_8 rfl (wd81 hw) (wd82 hw) (wd8 hw) (wd83 hw) (by decide) (lenOf pd_10 rfl) rfl rfl (Nat.le_of_ble_eq_true rfl) (Ok.pays (ok_cbe hw i j cs.length hij hj (by omega) SF rF) (wd83 hw) (wd8 hw) (by decide) (by decide)) (fun v h' q => q.2 ▸ Keep.refl _ _) all0 (by decide) (by decide) ?_
  rintro _ h_4 ⟨rfl, eqh⟩
  subst h_4
  refine Run.cast (st' := []) rfl ?_
  refine r_iloadN d16_11 rfl rfl ?_
  refine r_ifne (pc2 := 22) d16_12 rfl rfl (fun c_5 => ?_) (fun c_5 => ?_)
  · refine r_iloadN d16_22 rfl rfl ?_
    refine r_iloadN d16_23 rfl rfl ?_
    refine r_isub d16_24 rfl ?_
    rw [show ((Int32.ofNat j) - (Int32.ofNat i)) = (Int32.ofNat (j - i)) from ofNat_sub hij]
    refine r_istore (l' := #[.val (.ref a), .val (.int (Int32.ofNat i)), .val (.int (Int32.ofNat j)), .val (.int (Int32.ofNat cs.length)), .val (.int (Int32.ofNat (j - i)))]) d16_25 rfl rfl ?_
    refine r_aloadN d16_27 rfl rfl rfl ?_
    refine r_virtual (y := (⟨"java/lang/String", "isLatin1", "()Z"⟩ : MethodName)) (argsL := []) (rest := []) (W := 0) (kc := 0) (ks := 0) (wl := []) d16_28 rfl (wd52 hw) (wd53 hw) (wd55 hw) (wd54 hw) (by decide) ⟨rfl, rfl⟩ (Str.exa F) (lenOf pd_3 rfl) rfl rfl (Nat.le_of_ble_eq_true rfl) (Ok.pays (ok_lat hw a SC nC F.coder) (wd56 hw) (wd8 hw) (by decide) (by decide)) (fun v h' q => q.2 ▸ Keep.refl _ _) all0 (by decide) (by decide) ?_
    rintro _ h_6 ⟨rfl, eqh⟩
    subst h_6
    refine Run.cast (st' := [(.int (1 : Int32))]) rfl ?_
    refine r_ifeq (pc2 := 47) d16_31 rfl rfl (fun cc => absurd cc (by decide)) (fun _ => ?_)
    refine r_aloadN d16_34 rfl rfl rfl ?_
    refine r_getfield (host := "") d16_35 rfl (Or.inl (wd25 hw)) Via.refl (Str.value F) ?_
    refine r_iloadN d16_38 rfl rfl ?_
    refine r_iload d16_39 rfl rfl ?_
    refine r_staticW (y := (⟨"java/lang/StringLatin1", "newString", "([BII)Ljava/lang/String;"⟩ : MethodName)) (argsL := [(.ref t), (.int (Int32.ofNat i)), (.int (Int32.ofNat (j - i)))]) (rest := []) (W := 0) (kc := 2) (ks := 8) (wl := []) rfl d16_41 rfl (wd103 hw) (wd104 hw) (wd59 hw) (wd105 hw) (by decide) (lenOf pd_11 rfl) rfl rfl (Nat.le_of_ble_eq_true rfl) (Ok.paysW (ok_ns hw t i j hij hj hl (fun q => c_5 (by rw [q.1]; rfl)) f4') (wd105 hw) (wd59 hw) (by decide) (by decide)) (by simp) (fun v h' q => by obtain ⟨_, _, _, K, _⟩ := q; exact K) all0 (by decide) (by decide) ?_
    rintro _ h_7 ⟨a2, t2, rfl, q⟩
    refine Run.forget (My' := []) (by simp [refs]) ?_
    refine Run.cast (st' := [(.ref a2)]) rfl ?_
    refine r_goto (pc' := 57) d16_44 rfl ?_
    exact r_areturn d16_57 rfl rfl rfl rfl ⟨a2, t2, rfl, q⟩ (by simp) (by decide) (by decide)
  · refine r_iloadN d16_15 rfl rfl ?_
    refine r_iloadN d16_16 rfl rfl ?_
    refine r_icmpne (pc2 := 22) d16_17 rfl rfl (fun c_8 => ?_) (fun c_8 => ?_)
    · refine r_iloadN d16_22 rfl rfl ?_
      refine r_iloadN d16_23 rfl rfl ?_
      refine r_isub d16_24 rfl ?_
      rw [show ((Int32.ofNat j) - (Int32.ofNat i)) = (Int32.ofNat (j - i)) from ofNat_sub hij]
      refine r_istore (l' := #[.val (.ref a), .val (.int (Int32.ofNat i)), .val (.int (Int32.ofNat j)), .val (.int (Int32.ofNat cs.length)), .val (.int (Int32.ofNat (j - i)))]) d16_25 rfl rfl ?_
      refine r_aloadN d16_27 rfl rfl rfl ?_
      refine r_virtual (y := (⟨"java/lang/String", "isLatin1", "()Z"⟩ : MethodName)) (argsL := []) (rest := []) (W := 0) (kc := 0) (ks := 0) (wl := []) d16_28 rfl (wd52 hw) (wd53 hw) (wd55 hw) (wd54 hw) (by decide) ⟨rfl, rfl⟩ (Str.exa F) (lenOf pd_3 rfl) rfl rfl (Nat.le_of_ble_eq_true rfl) (Ok.pays (ok_lat hw a SC nC F.coder) (wd56 hw) (wd8 hw) (by decide) (by decide)) (fun v h' q => q.2 ▸ Keep.refl _ _) all0 (by decide) (by decide) ?_
      rintro _ h_9 ⟨rfl, eqh⟩
      subst h_9
      refine Run.cast (st' := [(.int (1 : Int32))]) rfl ?_
      refine r_ifeq (pc2 := 47) d16_31 rfl rfl (fun cc => absurd cc (by decide)) (fun _ => ?_)
      refine r_aloadN d16_34 rfl rfl rfl ?_
      refine r_getfield (host := "") d16_35 rfl (Or.inl (wd25 hw)) Via.refl (Str.value F) ?_
      refine r_iloadN d16_38 rfl rfl ?_
      refine r_iload d16_39 rfl rfl ?_
      refine r_staticW (y := (⟨"java/lang/StringLatin1", "newString", "([BII)Ljava/lang/String;"⟩ : MethodName)) (argsL := [(.ref t), (.int (Int32.ofNat i)), (.int (Int32.ofNat (j - i)))]) (rest := []) (W := 0) (kc := 2) (ks := 8) (wl := []) rfl d16_41 rfl (wd103 hw) (wd104 hw) (wd59 hw) (wd105 hw) (by decide) (lenOf pd_11 rfl) rfl rfl (Nat.le_of_ble_eq_true rfl) (Ok.paysW (ok_ns hw t i j hij hj hl (fun q => c_8 (by rw [q.2])) f4') (wd105 hw) (wd59 hw) (by decide) (by decide)) (by simp) (fun v h' q => by obtain ⟨_, _, _, K, _⟩ := q; exact K) all0 (by decide) (by decide) ?_
      rintro _ h_10 ⟨a2, t2, rfl, q⟩
      refine Run.forget (My' := []) (by simp [refs]) ?_
      refine Run.cast (st' := [(.ref a2)]) rfl ?_
      refine r_goto (pc' := 57) d16_44 rfl ?_
      exact r_areturn d16_57 rfl rfl rfl rfl ⟨a2, t2, rfl, q⟩ (by simp) (by decide) (by decide)
    · refine r_aloadN d16_20 rfl rfl rfl ?_
      exact r_areturn d16_21 rfl rfl rfl rfl ⟨a, t, rfl, Keep.refl _ _, by
        have e1 : i = 0 := ofNat_inj' (j := 0) (by omega) (by omega) c_5
        have e2 : j = cs.length := ofNat_inj' (by omega) (by omega) c_8
        rw [e1, e2]; simpa using F⟩ (by simp) (by decide) (by decide)
set_option maxRecDepth 65536 in
set_option maxHeartbeats 40000000 in
theorem ok_sub1 {l : Launch} {Z : State} {a0 : Array Value} (hw : ∀ d ∈ tables_1, d.before a0 Z = true) {n0 : Nat} (a t : Addr) {cs : List Int32} (i : Nat) (hi : i ≤ cs.length) (hl : cs.length ≤ 4) (hp : Lat cs) {zC : Int32} {vF : Value} {h0 : Heap} (SC : Sta Z Z.heap "java/lang/String" "COMPACT_STRINGS" "Z" (.int zC)) (nC : ¬ zC = 0) (SF : Sta Z Z.heap "jdk/internal/util/Preconditions" "SIOOBE_FORMATTER" "Ljava/util/function/BiFunction;" vF) (rF : vF.isRef = true) (F : Str Z h0 a t cs) :
    Ok true l Z consts_1 n0 [] (⟨"java/lang/String", "substring", "(I)Ljava/lang/String;"⟩ : MethodName) jdk_42_method_91_code 2 (Option.some (Jvm.ClassFile.FieldType.object "java/lang/String")) ({ frames := 5, cells := 2, slots := 8, locals := 122 } : Room) #[(.ref a), (.int (Int32.ofNat i))] h0 (fun v h => ∃ a2 t2, v = some (.ref a2) ∧ Keep h0 h [] ∧ Str Z h a2 t2 (cs.drop i)) (fun _ => []) := by
  refine Ok.of_run (ls0 := #[.val (.ref a), .val (.int (Int32.ofNat i))]) (plainFor_of_name (by first | (simp [plainName, overriddenIn]; done) | decide +kernel)) (fun m => by first | (simp [entryFrame, mkF, argsToLocals, Value.category]; done) | rfl) rfl ?_
  refine Run.old fun hO => ?_
  have hn0 : n0 ≤ h0.size := hO.1 ▸ hO.2.1
  have lt_1 : @LT.lt Nat instLTNat a (Array.size h0) := (Str.lt F)
  have lt_2 : @LT.lt Nat instLTNat t (Array.size h0) := (Str.ltB F)
  refine r_aloadN d15_0 rfl rfl rfl ?_
  refine r_iloadN d15_1 rfl rfl ?_
  refine r_aloadN d15_2 rfl rfl rfl ?_
  refine r_virtual (y := (⟨"java/lang/String", "length", "()I"⟩ : MethodName)) (argsL := []) (rest := [(.int (Int32.ofNat i)), (.ref a)]) (W := 2) (kc := 0) (ks := 0) (wl := []) d15_3 rfl (wd36 hw) (wd37 hw) (wd39 hw) (wd38 hw) (by decide) ⟨rfl, rfl⟩ (Str.exa F) (lenOf pd_5 rfl) rfl rfl (Nat.le_of_ble_eq_true rfl) (pays_len hw F hp (by omega) SC nC (by decide) (by decide)) (fun v h' q => q.2 ▸ Keep.refl _ _) all0 (by decide) (by decide) ?_
  rintro _ h_3 ⟨rfl, eqh⟩
  subst h_3
  refine Run.cast (st' := [(.int (Int32.ofNat cs.length)), (.int (Int32.ofNat i)), (.ref a)]) rfl ?_
  refine r_virtualW (y := (⟨"java/lang/String", "substring", "(II)Ljava/lang/String;"⟩ : MethodName)) (argsL := [(.int (Int32.ofNat i)), (.int (Int32.ofNat cs.length))]) (rest := []) (W := 0) (kc := 2) (ks := 8) (wl := []) rfl d15_6 rfl (wd76 hw) (wd77 hw) (wd79 hw) (wd78 hw) (by decide) ⟨rfl, rfl⟩ (Str.exa F) (lenOf pd_12 rfl) rfl rfl (Nat.le_of_ble_eq_true rfl) (Ok.paysW (ok_sub hw a t i cs.length hi (Nat.le_refl _) hl hp SC nC SF rF F) (wd80 hw) (wd8 hw) (by decide) (by decide)) (by simp) (fun v h' q => by obtain ⟨_, _, _, K, _⟩ := q; exact K) all0 (by decide) (by decide) ?_
  rintro _ h_4 ⟨a2, t2, rfl, KK, q⟩
  refine Run.forget (My' := []) (by simp [refs]) ?_
  refine Run.cast (st' := [(.ref a2)]) rfl ?_
  exact r_areturn d15_9 rfl rfl rfl rfl ⟨a2, t2, rfl, KK, by rw [List.take_of_length_le (by rw [List.length_drop]; exact Nat.le_refl _)] at q; exact q⟩ (by simp) (by decide) (by decide)
abbrev ushr (x k : Int32) : Int32 := (x.toUInt32 >>> (k &&& 31).toUInt32).toInt32
def drw (p : Int32) : Int32 := if (p &&& (3 : Int32)) = 0 then 35 else if (p &&& (3 : Int32)) = 1 then 47 else nar .char ((ushr p 2 &&& (255 : Int32)).toUInt32.toUInt16.toUInt32.toInt32)
theorem drw_lat (p : Int32) : ¬ drw p < 0 ∧ ¬ (255 : Int32) < drw p := by
  unfold drw; split
  · decide
  · split
    · decide
    · exact and255_chars _
def mk5 (n c0 c1 c2 c3 : Int32) : List Int32 := if n = 0 then [] else if n = 1 then [c0] else if n = 2 then [c0, c1] else if n = 3 then [c0, c1, c2] else [c0, c1, c2, c3]
def L1 (c : Int32) : Prop := ¬ c < 0 ∧ ¬ (255 : Int32) < c
theorem lat1 {a : Int32} (ha : L1 a) : Lat [a] := by
  intro c hc; simp only [List.mem_cons, List.not_mem_nil, or_false] at hc; subst hc; exact ha
theorem lat2 {a b : Int32} (ha : L1 a) (hb : L1 b) : Lat [a, b] := by
  intro c hc; simp only [List.mem_cons, List.not_mem_nil, or_false] at hc; rcases hc with rfl | rfl; exact ha; exact hb
theorem lat3 {a b d : Int32} (ha : L1 a) (hb : L1 b) (hd : L1 d) : Lat [a, b, d] := by
  intro c hc; simp only [List.mem_cons, List.not_mem_nil, or_false] at hc; rcases hc with rfl | rfl | rfl; exact ha; exact hb; exact hd
theorem lat4 {a b d e : Int32} (ha : L1 a) (hb : L1 b) (hd : L1 d) (he : L1 e) : Lat [a, b, d, e] := by
  intro c hc; simp only [List.mem_cons, List.not_mem_nil, or_false] at hc; rcases hc with rfl | rfl | rfl | rfl; exact ha; exact hb; exact hd; exact he
theorem lat5 {n a b d e : Int32} (ha : L1 a) (hb : L1 b) (hd : L1 d) (he : L1 e) : Lat (mk5 n a b d e) := by
  unfold mk5; split
  · intro c hc; cases hc
  split
  · exact lat1 ha
  split
  · exact lat2 ha hb
  split
  · exact lat3 ha hb hd
  · exact lat4 ha hb hd he
theorem len5 (n a b d e : Int32) : (mk5 n a b d e).length ≤ 4 := by unfold mk5; split <;> (try split) <;> (try split) <;> (try split) <;> simp
theorem castore_id {c : Int32} (h : L1 c) : nar .char c = c := by
  have e0 : (0 : Int32).toInt = 0 := rfl
  have e1 : (255 : Int32).toInt = 255 := rfl
  have q := c_i2c c
  simp only [L1, Int32.lt_iff_toInt_lt, e0, e1] at h
  apply Int32.toInt_inj.mp
  show c.toUInt32.toUInt16.toUInt32.toInt32.toInt = _
  omega
theorem mk5_get {n : Int32} (c0 c1 c2 c3 : Int32) {i : Nat} : i < (mk5 n c0 c1 c2 c3).length → (mk5 n c0 c1 c2 c3).getD i 0 = [c0, c1, c2, c3].getD i 0 := by
  unfold mk5
  split
  · intro h; simp at h
  split
  · intro h; match i, h with
    | 0, _ => rfl
  split
  · intro h; match i, h with
    | 0, _ => rfl
    | 1, _ => rfl
  split
  · intro h; match i, h with
    | 0, _ => rfl
    | 1, _ => rfl
    | 2, _ => rfl
  · intro _; rfl
def sp (c : Int32) : Prop := c = 35 ∨ c = 47
instance (c : Int32) : Decidable (sp c) := inferInstanceAs (Decidable (c = 35 ∨ c = 47))
/-- one more than the last separator's place below n -/
def ls (cs : List Int32) : Nat → Nat
  | 0 => 0
  | i + 1 => if sp (cs.getD i 0) then i + 1 else ls cs i
theorem ls_le (cs : List Int32) : ∀ n, ls cs n ≤ n
  | 0 => Nat.le_refl _
  | i + 1 => by
    rw [ls]; split
    · exact Nat.le_refl _
    · exact Nat.le_succ_of_le (ls_le cs i)
theorem getD_bytes (cs : List Int32) (i : Nat) : (cs.map (fun c => c.toInt8.toInt32)).getD i 0 = (cs.getD i 0).toInt8.toInt32 := by
  simp only [List.getD_eq_getElem?_getD, List.getElem?_map]
  cases cs[i]? <;> rfl
theorem lat_getD {cs : List Int32} (h : Lat cs) (i : Nat) : ¬ cs.getD i 0 < 0 ∧ ¬ (255 : Int32) < cs.getD i 0 := by
  rw [List.getD_eq_getElem?_getD]
  cases q : cs[i]? with
  | none => decide
  | some c => exact h c (List.mem_of_getElem? q)
theorem max_lp {cs : List Int32} (h : Lat cs) : ∀ n, max (lp 35 (cs.map (fun c => c.toInt8.toInt32)) n) (lp 47 (cs.map (fun c => c.toInt8.toInt32)) n) = ls cs n
  | 0 => rfl
  | i + 1 => by
    have a1 := lp_le 35 (cs.map (fun c => c.toInt8.toInt32)) i
    have a2 := lp_le 47 (cs.map (fun c => c.toInt8.toInt32)) i
    have ih := max_lp h i
    have e35 : ((cs.getD i 0).toInt8.toInt32 = 35) ↔ cs.getD i 0 = 35 := ⟨fun z => byte_inj (lat_getD h i) (by decide) z, fun z => by rw [z]; rfl⟩
    have e47 : ((cs.getD i 0).toInt8.toInt32 = 47) ↔ cs.getD i 0 = 47 := ⟨fun z => byte_inj (lat_getD h i) (by decide) z, fun z => by rw [z]; rfl⟩
    simp only [lp, ls, getD_bytes, e35, e47]
    by_cases q1 : cs.getD i 0 = 35
    · rw [if_pos q1, if_pos (show sp (cs.getD i 0) from Or.inl q1)]; split <;> omega
    · by_cases q2 : cs.getD i 0 = 47
      · rw [if_neg q1, if_pos q2, if_pos (show sp (cs.getD i 0) from Or.inr q2)]; omega
      · rw [if_neg q1, if_neg q2, if_neg (fun z : sp (cs.getD i 0) => Or.elim z q1 q2)]; exact ih
theorem imax_dec {i j : Nat} (hi : i < 4001) (hj : j < 4001) : imax (Int32.ofNat i - 1) (Int32.ofNat j - 1) + 1 = Int32.ofNat (max i j) := by
  have e1 : (Int32.ofNat i - 1).toInt = (i : Int) - 1 := by
    cases i with
    | zero => rfl
    | succ k => rw [dec1]; have := Int32.toInt_ofNat_of_lt (n := k) (by omega); omega
  have e2 : (Int32.ofNat j - 1).toInt = (j : Int) - 1 := by
    cases j with
    | zero => rfl
    | succ k => rw [dec1]; have := Int32.toInt_ofNat_of_lt (n := k) (by omega); omega
  unfold imax
  by_cases q : i < j
  · rw [if_pos (by rw [Int32.lt_iff_toInt_lt, e1, e2]; omega), Nat.max_eq_right (by omega), Int32.sub_add_cancel]
  · rw [if_neg (by rw [Int32.lt_iff_toInt_lt, e1, e2]; omega), Nat.max_eq_left (by omega), Int32.sub_add_cancel]
set_option maxRecDepth 65536 in
set_option maxHeartbeats 40000000 in
theorem ok_draw {l : Launch} {Z : State} {a0 : Array Value} (hw : ∀ d ∈ tables_1, d.before a0 Z = true) {n0 : Nat} (p : Int32) {h0 : Heap} :
    Ok false l Z [] n0 [] (⟨"com/example/shomer/shomer/engine/NamesLocalNamePinLaw", "draw", "(I)C"⟩ : MethodName) method_2_code 2 (Option.some Jvm.ClassFile.FieldType.char) ({ frames := 0, cells := 0, slots := 0, locals := 0 } : Room) #[(.int p)] h0 (fun v h => v = some (.int (drw p)) ∧ h = h0) (fun _ => []) := by
  refine Ok.of_run (ls0 := #[.val (.int p), .unset]) (plainFor_of_name (by first | (simp [plainName, overriddenIn]; done) | decide +kernel)) (fun m => by first | (simp [entryFrame, mkF, argsToLocals, Value.category]; done) | rfl) rfl ?_
  refine Run.old fun hO => ?_
  have hn0 : n0 ≤ h0.size := hO.1 ▸ hO.2.1
  refine r_iloadN d1_0 rfl rfl ?_
  refine r_iconst (v := 3) d1_1 rfl rfl ?_
  refine r_iand d1_2 rfl ?_
  refine r_istoreN (l' := #[.val (.int p), .val (.int (p &&& (3 : Int32)))]) d1_3 rfl rfl ?_
  refine r_iloadN d1_4 rfl rfl ?_
  refine r_ifne (pc2 := 11) d1_5 rfl rfl (fun c_1 => ?_) (fun c_1 => ?_)
  · refine r_iloadN d1_11 rfl rfl ?_
    refine r_iconst (v := 1) d1_12 rfl rfl ?_
    refine r_icmpne (pc2 := 19) d1_13 rfl rfl (fun c_2 => ?_) (fun c_2 => ?_)
    · refine r_iloadN d1_19 rfl rfl ?_
      refine r_iconst (v := 2) d1_20 rfl rfl ?_
      refine r_iushr d1_21 rfl ?_
      refine r_sipush (v := 255) d1_22 rfl rfl ?_
      refine r_iand d1_25 rfl ?_
      refine r_i2c d1_26 rfl ?_
      exact r_ireturnN (t := .char) d1_27 rfl (by simp) ⟨by rw [drw, if_neg c_1, if_neg c_2], rfl⟩ (by simp) (by decide) (by decide)
    · refine r_bipush (v := 47) d1_16 rfl rfl ?_
      exact r_ireturnN (t := .char) d1_18 rfl (by simp) ⟨by rw [drw, if_neg c_1, if_pos c_2]; rfl, rfl⟩ (by simp) (by decide) (by decide)
  · refine r_bipush (v := 35) d1_8 rfl rfl ?_
    exact r_ireturnN (t := .char) d1_10 rfl (by simp) ⟨by rw [drw, if_pos c_1]; rfl, rfl⟩ (by simp) (by decide) (by decide)
set_option maxRecDepth 65536 in
set_option maxHeartbeats 40000000 in
theorem ok_sep {l : Launch} {Z : State} {a0 : Array Value} (hw : ∀ d ∈ tables_1, d.before a0 Z = true) {n0 : Nat} (c : Int32) {h0 : Heap} :
    Ok false l Z [] n0 [] (⟨"com/example/shomer/shomer/engine/NamesLocalNamePinLaw", "isSep", "(C)Z"⟩ : MethodName) method_3_code 1 (Option.some Jvm.ClassFile.FieldType.boolean) ({ frames := 0, cells := 0, slots := 0, locals := 0 } : Room) #[(.int c)] h0 (fun v h => v = some (.int (if sp c then 1 else 0)) ∧ h = h0) (fun _ => []) := by
  refine Ok.of_run (ls0 := #[.val (.int c)]) (plainFor_of_name (by first | (simp [plainName, overriddenIn]; done) | decide +kernel)) (fun m => by first | (simp [entryFrame, mkF, argsToLocals, Value.category]; done) | rfl) rfl ?_
  refine Run.old fun hO => ?_
  have hn0 : n0 ≤ h0.size := hO.1 ▸ hO.2.1
  refine r_iloadN d22_0 rfl rfl ?_
  refine r_bipush (v := 35) d22_1 rfl rfl ?_
  refine r_icmpeq (pc2 := 12) d22_3 rfl rfl (fun c_1 => ?_) (fun c_1 => ?_)
  · refine r_iconst (v := 1) d22_12 rfl rfl ?_
    refine r_goto (pc' := 17) d22_13 rfl ?_
    exact r_ireturnN (t := .boolean) d22_17 rfl (by simp) ⟨by rw [if_pos (show sp c from Or.inl c_1)]; rfl, rfl⟩ (by simp) (by decide) (by decide)
  · refine r_iloadN d22_6 rfl rfl ?_
    refine r_bipush (v := 47) d22_7 rfl rfl ?_
    refine r_icmpne (pc2 := 16) d22_9 rfl rfl (fun c_2 => ?_) (fun c_2 => ?_)
    · refine r_iconst (v := 0) d22_16 rfl rfl ?_
      exact r_ireturnN (t := .boolean) d22_17 rfl (by simp) ⟨by rw [if_neg (fun z : sp c => Or.elim z c_1 c_2)]; rfl, rfl⟩ (by simp) (by decide) (by decide)
    · refine r_iconst (v := 1) d22_12 rfl rfl ?_
      refine r_goto (pc' := 17) d22_13 rfl ?_
      exact r_ireturnN (t := .boolean) d22_17 rfl (by simp) ⟨by rw [if_pos (show sp c from Or.inr c_2)]; rfl, rfl⟩ (by simp) (by decide) (by decide)
set_option maxRecDepth 65536 in
set_option maxHeartbeats 40000000 in
theorem ok_loc {l : Launch} {Z : State} {a0 : Array Value} (hw : ∀ d ∈ tables_1, d.before a0 Z = true) {n0 : Nat} (a t : Addr) {cs : List Int32} (hp : Lat cs) (hl : cs.length ≤ 4) {zC : Int32} {vF : Value} {h0 : Heap} (SC : Sta Z Z.heap "java/lang/String" "COMPACT_STRINGS" "Z" (.int zC)) (nC : ¬ zC = 0) (SF : Sta Z Z.heap "jdk/internal/util/Preconditions" "SIOOBE_FORMATTER" "Ljava/util/function/BiFunction;" vF) (rF : vF.isRef = true) (F : Str Z h0 a t cs) :
    Ok true l Z consts_1 n0 [] (⟨"com/example/shomer/shomer/engine/Names", "localName", "(Ljava/lang/String;)Ljava/lang/String;"⟩ : MethodName) prog_7_method_2_code 2 (Option.some (Jvm.ClassFile.FieldType.object "java/lang/String")) ({ frames := 6, cells := 2, slots := 8, locals := 135 } : Room) #[(.ref a)] h0 (fun v h => ∃ a2 t2, v = some (.ref a2) ∧ Keep h0 h [] ∧ Str Z h a2 t2 (cs.drop (ls cs cs.length))) (fun _ => []) := by
  refine Ok.of_run (ls0 := #[.val (.ref a), .unset]) (plainFor_of_name (by first | (simp [plainName, overriddenIn]; done) | decide +kernel)) (fun m => by first | (simp [entryFrame, mkF, argsToLocals, Value.category]; done) | rfl) rfl ?_
  refine Run.old fun hO => ?_
  have hn0 : n0 ≤ h0.size := hO.1 ▸ hO.2.1
  have lt_1 : @LT.lt Nat instLTNat a (Array.size h0) := (Str.lt F)
  have lt_2 : @LT.lt Nat instLTNat t (Array.size h0) := (Str.ltB F)
  refine r_aloadN d5_0 rfl rfl rfl ?_
  refine r_bipush (v := 35) d5_1 rfl rfl ?_
  refine r_virtual (y := (⟨"java/lang/String", "lastIndexOf", "(I)I"⟩ : MethodName)) (argsL := [(.int (35 : Int32))]) (rest := []) (W := 0) (kc := 0) (ks := 0) (wl := []) d5_3 rfl (wd31 hw) (wd32 hw) (wd34 hw) (wd33 hw) (by decide) ⟨rfl, rfl⟩ (Str.exa F) (lenOf pd_13 rfl) rfl rfl (Nat.le_of_ble_eq_true rfl) (Ok.pays (ok_lix hw a t 35 (by decide) hp (by omega) SC nC F) (wd35 hw) (wd8 hw) (by decide) (by decide)) (fun v h' q => q.2 ▸ Keep.refl _ _) all0 (by decide) (by decide) ?_
  rintro _ h_3 ⟨rfl, eqh⟩
  subst h_3
  refine Run.cast (st' := [(.int (Int32.ofNat (lp (35 : Int32).toInt8.toInt32 (cs.map (fun c => c.toInt8.toInt32)) cs.length) - 1))]) rfl ?_
  refine r_aloadN d5_6 rfl rfl rfl ?_
  refine r_bipush (v := 47) d5_7 rfl rfl ?_
  refine r_virtual (y := (⟨"java/lang/String", "lastIndexOf", "(I)I"⟩ : MethodName)) (argsL := [(.int (47 : Int32))]) (rest := [(.int (Int32.ofNat (lp (35 : Int32).toInt8.toInt32 (cs.map (fun c => c.toInt8.toInt32)) cs.length) - 1))]) (W := 1) (kc := 0) (ks := 0) (wl := []) d5_9 rfl (wd31 hw) (wd32 hw) (wd34 hw) (wd33 hw) (by decide) ⟨rfl, rfl⟩ (Str.exa F) (lenOf pd_13 rfl) rfl rfl (Nat.le_of_ble_eq_true rfl) (Ok.pays (ok_lix hw a t 47 (by decide) hp (by omega) SC nC F) (wd35 hw) (wd8 hw) (by decide) (by decide)) (fun v h' q => q.2 ▸ Keep.refl _ _) all0 (by decide) (by decide) ?_
  rintro _ h_4 ⟨rfl, eqh⟩
  subst h_4
  refine Run.cast (st' := [(.int (Int32.ofNat (lp (47 : Int32).toInt8.toInt32 (cs.map (fun c => c.toInt8.toInt32)) cs.length) - 1)), (.int (Int32.ofNat (lp (35 : Int32).toInt8.toInt32 (cs.map (fun c => c.toInt8.toInt32)) cs.length) - 1))]) rfl ?_
  refine r_static (y := (⟨"java/lang/Math", "max", "(II)I"⟩ : MethodName)) (argsL := [(.int (Int32.ofNat (lp (35 : Int32).toInt8.toInt32 (cs.map (fun c => c.toInt8.toInt32)) cs.length) - 1)), (.int (Int32.ofNat (lp (47 : Int32).toInt8.toInt32 (cs.map (fun c => c.toInt8.toInt32)) cs.length) - 1))]) (rest := []) (W := 0) (kc := 0) (ks := 0) (wl := []) d5_12 rfl (wd68 hw) (wd69 hw) (wd66 hw) (wd70 hw) (by decide) (lenOf pd_2 rfl) rfl rfl (Nat.le_of_ble_eq_true rfl) (Ok.pays (ok_max hw (Int32.ofNat (lp (35 : Int32).toInt8.toInt32 (cs.map (fun c => c.toInt8.toInt32)) cs.length) - 1) (Int32.ofNat (lp (47 : Int32).toInt8.toInt32 (cs.map (fun c => c.toInt8.toInt32)) cs.length) - 1)) (wd70 hw) (wd66 hw) (by decide) (by decide)) (fun v h' q => q.2 ▸ Keep.refl _ _) all0 (by decide) (by decide) ?_
  rintro _ h_5 ⟨rfl, eqh⟩
  subst h_5
  refine Run.cast (st' := [(.int (imax (Int32.ofNat (lp (35 : Int32).toInt8.toInt32 (cs.map (fun c => c.toInt8.toInt32)) cs.length) - 1) (Int32.ofNat (lp (47 : Int32).toInt8.toInt32 (cs.map (fun c => c.toInt8.toInt32)) cs.length) - 1)))]) rfl ?_
  refine r_istoreN (l' := #[.val (.ref a), .val (.int (imax (Int32.ofNat (lp (35 : Int32).toInt8.toInt32 (cs.map (fun c => c.toInt8.toInt32)) cs.length) - 1) (Int32.ofNat (lp (47 : Int32).toInt8.toInt32 (cs.map (fun c => c.toInt8.toInt32)) cs.length) - 1)))]) d5_15 rfl rfl ?_
  refine r_aloadN d5_16 rfl rfl rfl ?_
  refine r_iloadN d5_17 rfl rfl ?_
  refine r_iconst (v := 1) d5_18 rfl rfl ?_
  refine r_iadd d5_19 rfl ?_
  rw [show ((imax (Int32.ofNat (lp (35 : Int32).toInt8.toInt32 (cs.map (fun c => c.toInt8.toInt32)) cs.length) - 1) (Int32.ofNat (lp (47 : Int32).toInt8.toInt32 (cs.map (fun c => c.toInt8.toInt32)) cs.length) - 1)) + (1 : Int32)) = (Int32.ofNat (ls cs cs.length)) from (by have q := imax_dec (i := lp 35 (cs.map (fun c => c.toInt8.toInt32)) cs.length) (j := lp 47 (cs.map (fun c => c.toInt8.toInt32)) cs.length) (Nat.lt_of_le_of_lt (lp_le _ _ _) (by omega)) (Nat.lt_of_le_of_lt (lp_le _ _ _) (by omega)); rw [max_lp hp] at q; exact q)]
  refine r_virtualW (y := (⟨"java/lang/String", "substring", "(I)Ljava/lang/String;"⟩ : MethodName)) (argsL := [(.int (Int32.ofNat (ls cs cs.length)))]) (rest := []) (W := 0) (kc := 2) (ks := 8) (wl := []) rfl d5_20 rfl (wd71 hw) (wd72 hw) (wd74 hw) (wd73 hw) (by decide) ⟨rfl, rfl⟩ (Str.exa F) (lenOf pd_14 rfl) rfl rfl (Nat.le_of_ble_eq_true rfl) (Ok.paysW (ok_sub1 hw a t (ls cs cs.length) (ls_le _ _) hl hp SC nC SF rF F) (wd75 hw) (wd8 hw) (by decide) (by decide)) (by simp) (fun v h' q => by obtain ⟨_, _, _, K, _⟩ := q; exact K) all0 (by decide) (by decide) ?_
  rintro _ h_6 ⟨a2, t2, rfl, q⟩
  refine Run.forget (My' := []) (by simp [refs]) ?_
  refine Run.cast (st' := [(.ref a2)]) rfl ?_
  exact r_areturn d5_23 rfl rfl rfl rfl ⟨a2, t2, rfl, q⟩ (by simp) (by decide) (by decide)
def sf0 (n c0 : Int32) : Int32 := if 0 < n ∧ sp c0 then 0 else -1
def sf1 (n c0 c1 : Int32) : Int32 := if 1 < n ∧ sp c1 then 1 else sf0 n c0
def sf2 (n c0 c1 c2 : Int32) : Int32 := if 2 < n ∧ sp c2 then 2 else sf1 n c0 c1
def sf3 (n c0 c1 c2 c3 : Int32) : Int32 := if 3 < n ∧ sp c3 then 3 else sf2 n c0 c1 c2
theorem sf_eq {n : Int32} (hn : n = 0 ∨ n = 1 ∨ n = 2 ∨ n = 3 ∨ n = 4) (c0 c1 c2 c3 : Int32) : sf3 n c0 c1 c2 c3 = Int32.ofNat (ls (mk5 n c0 c1 c2 c3) (mk5 n c0 c1 c2 c3).length) - 1 := by
  rcases hn with rfl | rfl | rfl | rfl | rfl <;> simp only [sf3, sf2, sf1, sf0, mk5] <;> by_cases q0 : sp c0 <;> by_cases q1 : sp c1 <;> by_cases q2 : sp c2 <;> by_cases q3 : sp c3 <;> simp +decide [q0, q1, q2, q3, ls]
theorem n_eq {n : Int32} (hn : n = 0 ∨ n = 1 ∨ n = 2 ∨ n = 3 ∨ n = 4) (c0 c1 c2 c3 : Int32) : n = Int32.ofNat (mk5 n c0 c1 c2 c3).length := by
  rcases hn with rfl | rfl | rfl | rfl | rfl <;> simp +decide [mk5]
theorem m_eq {m s : Nat} (h : s ≤ m) : Int32.ofNat m - (Int32.ofNat s - 1) - 1 = Int32.ofNat (m - s) := by
  rw [← ofNat_sub h]
  apply Int32.toInt_inj.mp
  have a := c_isub (Int32.ofNat m - (Int32.ofNat s - 1)) 1
  have b := c_isub (Int32.ofNat m) (Int32.ofNat s - 1)
  have c := c_isub (Int32.ofNat s) 1
  have d := c_isub (Int32.ofNat m) (Int32.ofNat s)
  have e1 : (1 : Int32).toInt = 1 := rfl
  have r1 := rng32 (Int32.ofNat m - (Int32.ofNat s - 1) - 1)
  have r2 := rng32 (Int32.ofNat m - Int32.ofNat s)
  omega
theorem drop_get (l : List Int32) (s i : Nat) : (l.drop s).getD i 0 = l.getD (s + i) 0 := by simp [List.getD_eq_getElem?_getD]
theorem j_eq (s i : Nat) : Int32.ofNat s - 1 + Int32.ofNat (i + 1) = Int32.ofNat (s + i) := by
  rw [inc_ofNat, ← ofNat_add' s i]
  apply Int32.toInt_inj.mp
  have a := c_iadd (Int32.ofNat s - 1) (Int32.ofNat i + 1)
  have b := c_isub (Int32.ofNat s) 1
  have c := c_iadd (Int32.ofNat i) 1
  have d := c_iadd (Int32.ofNat s) (Int32.ofNat i)
  have e1 : (1 : Int32).toInt = 1 := rfl
  have r1 := rng32 (Int32.ofNat s - 1 + (Int32.ofNat i + 1))
  have r2 := rng32 (Int32.ofNat s + Int32.ofNat i)
  omega
theorem gt_of {m i : Nat} (hi : i < 2 ^ 31) (h : Int32.ofNat i < Int32.ofNat m) : i < m := Classical.byContradiction fun q => ofNat_nlt (by omega) hi h
set_option maxRecDepth 65536 in
set_option maxHeartbeats 40000000 in
theorem ok_law {l : Launch} {Z : State} {a0 : Array Value} (hw : ∀ d ∈ tables_1, d.before a0 Z = true) {n0 : Nat} (p0 p1 p2 p3 p4 : Int32) {zC : Int32} {vF : Value} {h0 : Heap} (SC : Sta Z Z.heap "java/lang/String" "COMPACT_STRINGS" "Z" (.int zC)) (nC : ¬ zC = 0) (SF : Sta Z Z.heap "jdk/internal/util/Preconditions" "SIOOBE_FORMATTER" "Ljava/util/function/BiFunction;" vF) (rF : vF.isRef = true) :
    Ok true l Z consts_1 n0 [] (⟨"com/example/shomer/shomer/engine/NamesLocalNamePinLaw", "law", "(IIIII)Z"⟩ : MethodName) code maxLocals ret room_1 #[(.int p0), (.int p1), (.int p2), (.int p3), (.int p4)] h0 (fun v h => v = some (.int 1)) (fun _ => []) := by
  refine Ok.of_run (ls0 := #[.val (.int p0), .val (.int p1), .val (.int p2), .val (.int p3), .val (.int p4), .unset, .unset, .unset, .unset, .unset, .unset, .unset, .unset, .unset, .unset, .unset]) (plainFor_of_name (by first | (simp [plainName, overriddenIn]; done) | decide +kernel)) (fun m => by first | (simp [entryFrame, mkF, argsToLocals, Value.category, maxLocals]; done) | rfl) rfl ?_
  refine Run.old fun hO => ?_
  have hn0 : n0 ≤ h0.size := hO.1 ▸ hO.2.1
  refine r_iload at_0 rfl rfl ?_
  refine r_ldcI at_2 rfl (wd0 hw) ?_
  refine r_iand at_4 rfl ?_
  refine r_iconst (v := 5) at_5 rfl rfl ?_
  refine r_irem at_6 rfl (by decide) ?_
  have hmod := mod5 p4
  generalize (p4 &&& (2147483647 : Int32)) % (5 : Int32) = n at hmod ⊢
  refine r_istore (l' := #[.val (.int p0), .val (.int p1), .val (.int p2), .val (.int p3), .val (.int p4), .val (.int n), .unset, .unset, .unset, .unset, .unset, .unset, .unset, .unset, .unset, .unset]) at_7 rfl rfl ?_
  refine r_iloadN at_9 rfl rfl ?_
  refine r_static (y := (⟨"com/example/shomer/shomer/engine/NamesLocalNamePinLaw", "draw", "(I)C"⟩ : MethodName)) (argsL := [(.int p0)]) (rest := []) (W := 0) (kc := 0) (ks := 0) (wl := []) at_10 rfl (wd1 hw) (wd2 hw) (wd3 hw) (wd4 hw) (by decide) (lenOf pd_15 rfl) rfl rfl (Nat.le_of_ble_eq_true rfl) (Ok.pays (ok_draw hw p0) (wd4 hw) (wd3 hw) (by decide) (by decide)) (fun v h' q => q.2 ▸ Keep.refl _ _) all0 (by decide) (by decide) ?_
  rintro _ h_1 ⟨rfl, eqh⟩
  subst h_1
  refine Run.cast (st' := [(.int (drw p0))]) rfl ?_
  have l0 := drw_lat p0
  generalize drw p0 = c0 at l0 ⊢
  refine r_istore (l' := #[.val (.int p0), .val (.int p1), .val (.int p2), .val (.int p3), .val (.int p4), .val (.int n), .val (.int c0), .unset, .unset, .unset, .unset, .unset, .unset, .unset, .unset, .unset]) at_13 rfl rfl ?_
  refine r_iloadN at_15 rfl rfl ?_
  refine r_static (y := (⟨"com/example/shomer/shomer/engine/NamesLocalNamePinLaw", "draw", "(I)C"⟩ : MethodName)) (argsL := [(.int p1)]) (rest := []) (W := 0) (kc := 0) (ks := 0) (wl := []) at_16 rfl (wd1 hw) (wd2 hw) (wd3 hw) (wd4 hw) (by decide) (lenOf pd_15 rfl) rfl rfl (Nat.le_of_ble_eq_true rfl) (Ok.pays (ok_draw hw p1) (wd4 hw) (wd3 hw) (by decide) (by decide)) (fun v h' q => q.2 ▸ Keep.refl _ _) all0 (by decide) (by decide) ?_
  rintro _ h_2 ⟨rfl, eqh⟩
  subst h_2
  refine Run.cast (st' := [(.int (drw p1))]) rfl ?_
  have l1 := drw_lat p1
  generalize drw p1 = c1 at l1 ⊢
  refine r_istore (l' := #[.val (.int p0), .val (.int p1), .val (.int p2), .val (.int p3), .val (.int p4), .val (.int n), .val (.int c0), .val (.int c1), .unset, .unset, .unset, .unset, .unset, .unset, .unset, .unset]) at_19 rfl rfl ?_
  refine r_iloadN at_21 rfl rfl ?_
  refine r_static (y := (⟨"com/example/shomer/shomer/engine/NamesLocalNamePinLaw", "draw", "(I)C"⟩ : MethodName)) (argsL := [(.int p2)]) (rest := []) (W := 0) (kc := 0) (ks := 0) (wl := []) at_22 rfl (wd1 hw) (wd2 hw) (wd3 hw) (wd4 hw) (by decide) (lenOf pd_15 rfl) rfl rfl (Nat.le_of_ble_eq_true rfl) (Ok.pays (ok_draw hw p2) (wd4 hw) (wd3 hw) (by decide) (by decide)) (fun v h' q => q.2 ▸ Keep.refl _ _) all0 (by decide) (by decide) ?_
  rintro _ h_3 ⟨rfl, eqh⟩
  subst h_3
  refine Run.cast (st' := [(.int (drw p2))]) rfl ?_
  have l2 := drw_lat p2
  generalize drw p2 = c2 at l2 ⊢
  refine r_istore (l' := #[.val (.int p0), .val (.int p1), .val (.int p2), .val (.int p3), .val (.int p4), .val (.int n), .val (.int c0), .val (.int c1), .val (.int c2), .unset, .unset, .unset, .unset, .unset, .unset, .unset]) at_25 rfl rfl ?_
  refine r_iloadN at_27 rfl rfl ?_
  refine r_static (y := (⟨"com/example/shomer/shomer/engine/NamesLocalNamePinLaw", "draw", "(I)C"⟩ : MethodName)) (argsL := [(.int p3)]) (rest := []) (W := 0) (kc := 0) (ks := 0) (wl := []) at_28 rfl (wd1 hw) (wd2 hw) (wd3 hw) (wd4 hw) (by decide) (lenOf pd_15 rfl) rfl rfl (Nat.le_of_ble_eq_true rfl) (Ok.pays (ok_draw hw p3) (wd4 hw) (wd3 hw) (by decide) (by decide)) (fun v h' q => q.2 ▸ Keep.refl _ _) all0 (by decide) (by decide) ?_
  rintro _ h_4 ⟨rfl, eqh⟩
  subst h_4
  refine Run.cast (st' := [(.int (drw p3))]) rfl ?_
  have l3 := drw_lat p3
  generalize drw p3 = c3 at l3 ⊢
  refine r_istore (l' := #[.val (.int p0), .val (.int p1), .val (.int p2), .val (.int p3), .val (.int p4), .val (.int n), .val (.int c0), .val (.int c1), .val (.int c2), .val (.int c3), .unset, .unset, .unset, .unset, .unset, .unset]) at_31 rfl rfl ?_
  refine r_iconst (v := 4) at_33 rfl rfl ?_
  refine r_newP (cap := 4) (ad := "[C") at_34 rfl (wd5 hw) (by decide) (by decide) (by decide) (by decide) (by decide) (by decide) ?_
  intro h_6 b_5 k_10 gb_5 ltb_5 E_7 A_8 K_9
  have szh_6 := E_7.1
  have geb_5 : n0 ≤ b_5 := by omega
  have K_11 : Arv Z h_6 b_5 k_10 .char (4 : Int32) [(.int 0), (.int 0), (.int 0), (.int 0)] (.int 0) := Arv.pad K_9 (pad_rep [] (.int 0) 4)
  refine r_astore (l' := #[.val (.int p0), .val (.int p1), .val (.int p2), .val (.int p3), .val (.int p4), .val (.int n), .val (.int c0), .val (.int c1), .val (.int c2), .val (.int c3), .val (.ref b_5), .unset, .unset, .unset, .unset, .unset]) at_36 rfl rfl rfl ?_
  refine r_aload at_38 rfl rfl rfl ?_
  refine r_iconst (v := 0) at_40 rfl rfl ?_
  refine r_iload at_41 rfl rfl ?_
  refine r_castore 0 at_43 rfl K_11 ⟨by decide, by decide⟩ rfl (Nat.le_of_ble_eq_true rfl) geb_5 ?_
  intro h_12 W_13 K_14
  have szh_12 := Wr.size W_13
  have K_15 : Arv Z h_12 b_5 k_10 .char (4 : Int32) [(.int (nar .char c0)), (.int 0), (.int 0), (.int 0)] (.int 0) := K_14
  refine r_aload at_44 rfl rfl rfl ?_
  refine r_iconst (v := 1) at_46 rfl rfl ?_
  refine r_iload at_47 rfl rfl ?_
  refine r_castore 1 at_49 rfl K_15 ⟨by decide, by decide⟩ rfl (Nat.le_of_ble_eq_true rfl) geb_5 ?_
  intro h_16 W_17 K_18
  have szh_16 := Wr.size W_17
  have K_19 : Arv Z h_16 b_5 k_10 .char (4 : Int32) [(.int (nar .char c0)), (.int (nar .char c1)), (.int 0), (.int 0)] (.int 0) := K_18
  refine r_aload at_50 rfl rfl rfl ?_
  refine r_iconst (v := 2) at_52 rfl rfl ?_
  refine r_iload at_53 rfl rfl ?_
  refine r_castore 2 at_55 rfl K_19 ⟨by decide, by decide⟩ rfl (Nat.le_of_ble_eq_true rfl) geb_5 ?_
  intro h_20 W_21 K_22
  have szh_20 := Wr.size W_21
  have K_23 : Arv Z h_20 b_5 k_10 .char (4 : Int32) [(.int (nar .char c0)), (.int (nar .char c1)), (.int (nar .char c2)), (.int 0)] (.int 0) := K_22
  refine r_aload at_56 rfl rfl rfl ?_
  refine r_iconst (v := 3) at_58 rfl rfl ?_
  refine r_iload at_59 rfl rfl ?_
  refine r_castore 3 at_61 rfl K_23 ⟨by decide, by decide⟩ rfl (Nat.le_of_ble_eq_true rfl) geb_5 ?_
  intro h_24 W_25 K_26
  have szh_24 := Wr.size W_25
  have K_27 : Arv Z h_24 b_5 k_10 .char (4 : Int32) [(.int (nar .char c0)), (.int (nar .char c1)), (.int (nar .char c2)), (.int (nar .char c3))] (.int 0) := K_26
  refine r_iload at_62 rfl rfl ?_
  have KA : Arv Z h_24 b_5 k_10 .char (4 : Int32) (List.map Value.int [c0, c1, c2, c3]) (.int 0) := by have q := K_27; rw [castore_id l0, castore_id l1, castore_id l2, castore_id l3] at q; exact q
  have lt_28 : @LT.lt Nat instLTNat b_5 (Array.size h_24) := KA.lt
  refine Run.joinH (pc' := 207) (cells' := 7) (slots' := 20) (P := fun (x_ : Addr × Addr) h' => match x_ with | (a, t) => Keep h_24 h' [] ∧ Str Z h' a t (mk5 n c0 c1 c2 c3)) (My' := fun x_ => match x_ with | (a, t) => []) (ls' := fun x_ => match x_ with | (a, t) => #[.val (.int p0), .val (.int p1), .val (.int p2), .val (.int p3), .val (.int p4), .val (.int n), .val (.int c0), .val (.int c1), .val (.int c2), .val (.int c3), .val (.ref b_5), .val (.ref a), .unset, .unset, .unset, .unset]) (st' := fun x_ => match x_ with | (a, t) => []) ?_ ?_
  · rintro ⟨a, t⟩ h_31 hv_30
    dsimp only at hv_30 ⊢
    obtain ⟨KK, SS⟩ := hv_30
    have szh_31 := KK.1
    have lt_32 : @LT.lt Nat instLTNat a (Array.size h_31) := (Str.lt SS)
    have lt_33 : @LT.lt Nat instLTNat t (Array.size h_31) := (Str.ltB SS)
    refine r_iconst (v := (-1)) at_207 rfl rfl ?_
    refine r_istore (l' := #[.val (.int p0), .val (.int p1), .val (.int p2), .val (.int p3), .val (.int p4), .val (.int n), .val (.int c0), .val (.int c1), .val (.int c2), .val (.int c3), .val (.ref b_5), .val (.ref a), .val (.int ((-1) : Int32)), .unset, .unset, .unset]) at_208 rfl rfl ?_
    refine Run.join (pc' := 226) (P := fun (k : Int32) => k = sf0 n c0) (ls' := fun k => #[.val (.int p0), .val (.int p1), .val (.int p2), .val (.int p3), .val (.int p4), .val (.int n), .val (.int c0), .val (.int c1), .val (.int c2), .val (.int c3), .val (.ref b_5), .val (.ref a), .val (.int k), .unset, .unset, .unset]) (st' := fun k => []) ?_ ?_
    · intro k hv_35
      refine Run.join (pc' := 243) (P := fun (k : Int32) => k = sf1 n c0 c1) (ls' := fun k => #[.val (.int p0), .val (.int p1), .val (.int p2), .val (.int p3), .val (.int p4), .val (.int n), .val (.int c0), .val (.int c1), .val (.int c2), .val (.int c3), .val (.ref b_5), .val (.ref a), .val (.int k), .unset, .unset, .unset]) (st' := fun k => []) ?_ ?_
      · intro k hv_37
        refine Run.join (pc' := 260) (P := fun (k : Int32) => k = sf2 n c0 c1 c2) (ls' := fun k => #[.val (.int p0), .val (.int p1), .val (.int p2), .val (.int p3), .val (.int p4), .val (.int n), .val (.int c0), .val (.int c1), .val (.int c2), .val (.int c3), .val (.ref b_5), .val (.ref a), .val (.int k), .unset, .unset, .unset]) (st' := fun k => []) ?_ ?_
        · intro k hv_39
          refine Run.join (pc' := 277) (P := fun (k : Int32) => k = sf3 n c0 c1 c2 c3) (ls' := fun k => #[.val (.int p0), .val (.int p1), .val (.int p2), .val (.int p3), .val (.int p4), .val (.int n), .val (.int c0), .val (.int c1), .val (.int c2), .val (.int c3), .val (.ref b_5), .val (.ref a), .val (.int k), .unset, .unset, .unset]) (st' := fun k => []) ?_ ?_
          · intro k hv_41
            obtain rfl : k = Int32.ofNat (ls (mk5 n c0 c1 c2 c3) (mk5 n c0 c1 c2 c3).length) - 1 := hv_41.trans (sf_eq hmod c0 c1 c2 c3)
            have hs := ls_le (mk5 n c0 c1 c2 c3) (mk5 n c0 c1 c2 c3).length
            have h5 := len5 n c0 c1 c2 c3
            refine r_aload at_277 rfl rfl rfl ?_
            refine r_staticW (y := (⟨"com/example/shomer/shomer/engine/Names", "localName", "(Ljava/lang/String;)Ljava/lang/String;"⟩ : MethodName)) (argsL := [(.ref a)]) (rest := []) (W := 0) (kc := 2) (ks := 8) (wl := []) rfl at_279 rfl (wd27 hw) (wd28 hw) (wd29 hw) (wd30 hw) (by decide) (lenOf pd_16 rfl) rfl rfl (Nat.le_of_ble_eq_true rfl) (Ok.paysW (ok_loc hw a t (lat5 l0 l1 l2 l3) h5 SC nC SF rF SS) (wd30 hw) (wd29 hw) (by decide) (by decide)) (by simp) (fun v h' q => by obtain ⟨_, _, _, K, _⟩ := q; exact K) all0 (by decide) (by decide) ?_
            rintro _ h_42 ⟨r, u, rfl, KK3, RR⟩
            refine Run.forget (My' := []) (by simp [refs]) ?_
            refine Run.cast (st' := [(.ref r)]) rfl ?_
            have szh_42 := KK3.1
            have lt_43 : @LT.lt Nat instLTNat r (Array.size h_42) := (Str.lt RR)
            have lt_44 : @LT.lt Nat instLTNat u (Array.size h_42) := (Str.ltB RR)
            have hrl : ((mk5 n c0 c1 c2 c3).drop (ls (mk5 n c0 c1 c2 c3) (mk5 n c0 c1 c2 c3).length)).length = (mk5 n c0 c1 c2 c3).length - (ls (mk5 n c0 c1 c2 c3) (mk5 n c0 c1 c2 c3).length) := List.length_drop
            refine r_astore (l' := #[.val (.int p0), .val (.int p1), .val (.int p2), .val (.int p3), .val (.int p4), .val (.int n), .val (.int c0), .val (.int c1), .val (.int c2), .val (.int c3), .val (.ref b_5), .val (.ref a), .val (.int (Int32.ofNat (ls (mk5 n c0 c1 c2 c3) (mk5 n c0 c1 c2 c3).length) - 1)), .val (.ref r), .unset, .unset]) at_282 rfl rfl rfl ?_
            refine r_iload at_284 rfl rfl ?_
            refine r_iload at_286 rfl rfl ?_
            refine r_isub at_288 rfl ?_
            refine r_iconst (v := 1) at_289 rfl rfl ?_
            refine r_isub at_290 rfl ?_
            rw [show ((n - (Int32.ofNat (ls (mk5 n c0 c1 c2 c3) (mk5 n c0 c1 c2 c3).length) - 1)) - (1 : Int32)) = (Int32.ofNat ((mk5 n c0 c1 c2 c3).drop (ls (mk5 n c0 c1 c2 c3) (mk5 n c0 c1 c2 c3).length)).length) from (by rw [hrl, ← m_eq hs, ← n_eq hmod c0 c1 c2 c3])]
            refine r_istore (l' := #[.val (.int p0), .val (.int p1), .val (.int p2), .val (.int p3), .val (.int p4), .val (.int n), .val (.int c0), .val (.int c1), .val (.int c2), .val (.int c3), .val (.ref b_5), .val (.ref a), .val (.int (Int32.ofNat (ls (mk5 n c0 c1 c2 c3) (mk5 n c0 c1 c2 c3).length) - 1)), .val (.ref r), .val (.int (Int32.ofNat ((mk5 n c0 c1 c2 c3).drop (ls (mk5 n c0 c1 c2 c3) (mk5 n c0 c1 c2 c3).length)).length)), .unset]) at_291 rfl rfl ?_
            refine r_aload at_293 rfl rfl rfl ?_
            refine r_virtual (y := (⟨"java/lang/String", "length", "()I"⟩ : MethodName)) (argsL := []) (rest := []) (W := 0) (kc := 0) (ks := 0) (wl := []) at_295 rfl (wd89 hw) (wd37 hw) (wd39 hw) (wd38 hw) (by decide) ⟨rfl, rfl⟩ (Str.exa RR) (lenOf pd_5 rfl) rfl rfl (Nat.le_of_ble_eq_true rfl) (pays_len hw RR (fun c hc => lat5 l0 l1 l2 l3 c (List.mem_of_mem_drop hc)) (by omega) SC nC (by decide) (by decide)) (fun v h' q => q.2 ▸ Keep.refl _ _) all0 (by decide) (by decide) ?_
            rintro _ h_45 ⟨rfl, eqh⟩
            subst h_45
            refine Run.cast (st' := [(.int (Int32.ofNat ((mk5 n c0 c1 c2 c3).drop (ls (mk5 n c0 c1 c2 c3) (mk5 n c0 c1 c2 c3).length)).length))]) rfl ?_
            refine r_iload at_298 rfl rfl ?_
            refine r_icmpeq (pc2 := 305) at_300 rfl rfl (fun _ => ?_) (fun cc => absurd rfl cc)
            refine r_iconst (v := 1) at_305 rfl rfl ?_
            refine r_istore (l' := #[.val (.int p0), .val (.int p1), .val (.int p2), .val (.int p3), .val (.int p4), .val (.int n), .val (.int c0), .val (.int c1), .val (.int c2), .val (.int c3), .val (.ref b_5), .val (.ref a), .val (.int (Int32.ofNat (ls (mk5 n c0 c1 c2 c3) (mk5 n c0 c1 c2 c3).length) - 1)), .val (.ref r), .val (.int (Int32.ofNat ((mk5 n c0 c1 c2 c3).drop (ls (mk5 n c0 c1 c2 c3) (mk5 n c0 c1 c2 c3).length)).length)), .val (.int (1 : Int32))]) at_306 rfl rfl ?_
            refine Run.join (pc' := 341) (P := fun (u_ : Unit) => True) (ls' := fun u_ => #[.val (.int p0), .val (.int p1), .val (.int p2), .val (.int p3), .val (.int p4), .val (.int n), .val (.int c0), .val (.int c1), .val (.int c2), .val (.int c3), .val (.ref b_5), .val (.ref a), .val (.int (Int32.ofNat (ls (mk5 n c0 c1 c2 c3) (mk5 n c0 c1 c2 c3).length) - 1)), .val (.ref r), .val (.int (Int32.ofNat ((mk5 n c0 c1 c2 c3).drop (ls (mk5 n c0 c1 c2 c3) (mk5 n c0 c1 c2 c3).length)).length)), .val (.int (1 : Int32))]) (st' := fun u_ => []) ?_ ?_
            · intro u_ hv_47
              refine Run.join (pc' := 375) (P := fun (u_ : Unit) => True) (ls' := fun u_ => #[.val (.int p0), .val (.int p1), .val (.int p2), .val (.int p3), .val (.int p4), .val (.int n), .val (.int c0), .val (.int c1), .val (.int c2), .val (.int c3), .val (.ref b_5), .val (.ref a), .val (.int (Int32.ofNat (ls (mk5 n c0 c1 c2 c3) (mk5 n c0 c1 c2 c3).length) - 1)), .val (.ref r), .val (.int (Int32.ofNat ((mk5 n c0 c1 c2 c3).drop (ls (mk5 n c0 c1 c2 c3) (mk5 n c0 c1 c2 c3).length)).length)), .val (.int (1 : Int32))]) (st' := fun u_ => []) ?_ ?_
              · intro u_ hv_49
                refine Run.join (pc' := 409) (P := fun (u_ : Unit) => True) (ls' := fun u_ => #[.val (.int p0), .val (.int p1), .val (.int p2), .val (.int p3), .val (.int p4), .val (.int n), .val (.int c0), .val (.int c1), .val (.int c2), .val (.int c3), .val (.ref b_5), .val (.ref a), .val (.int (Int32.ofNat (ls (mk5 n c0 c1 c2 c3) (mk5 n c0 c1 c2 c3).length) - 1)), .val (.ref r), .val (.int (Int32.ofNat ((mk5 n c0 c1 c2 c3).drop (ls (mk5 n c0 c1 c2 c3) (mk5 n c0 c1 c2 c3).length)).length)), .val (.int (1 : Int32))]) (st' := fun u_ => []) ?_ ?_
                · intro u_ hv_51
                  refine Run.join (pc' := 443) (P := fun (u_ : Unit) => True) (ls' := fun u_ => #[.val (.int p0), .val (.int p1), .val (.int p2), .val (.int p3), .val (.int p4), .val (.int n), .val (.int c0), .val (.int c1), .val (.int c2), .val (.int c3), .val (.ref b_5), .val (.ref a), .val (.int (Int32.ofNat (ls (mk5 n c0 c1 c2 c3) (mk5 n c0 c1 c2 c3).length) - 1)), .val (.ref r), .val (.int (Int32.ofNat ((mk5 n c0 c1 c2 c3).drop (ls (mk5 n c0 c1 c2 c3) (mk5 n c0 c1 c2 c3).length)).length)), .val (.int (1 : Int32))]) (st' := fun u_ => []) ?_ ?_
                  · intro u_ hv_53
                    refine r_iload at_443 rfl rfl ?_
                    exact r_ireturnN (t := .boolean) at_445 rfl (by simp) rfl (by simp) (by decide) (by decide)
                  · intro J_52
                    refine r_iload at_409 rfl rfl ?_
                    refine r_iconst (v := 3) at_411 rfl rfl ?_
                    refine r_icmple (pc2 := 443) at_412 rfl rfl (fun c_54 => ?_) (fun c_54 => ?_)
                    · exact J_52 () trivial
                    · have hi : 3 < ((mk5 n c0 c1 c2 c3).drop (ls (mk5 n c0 c1 c2 c3) (mk5 n c0 c1 c2 c3).length)).length := gt_of (by decide) c_54
                      refine r_iload at_415 rfl rfl ?_
                      refine r_ifeq (pc2 := 440) at_417 rfl rfl (fun cc => absurd cc (by decide)) (fun _ => ?_)
                      refine r_aload at_420 rfl rfl rfl ?_
                      refine r_iconst (v := 3) at_422 rfl rfl ?_
                      refine r_virtual (y := (⟨"java/lang/String", "charAt", "(I)C"⟩ : MethodName)) (argsL := [(.int (3 : Int32))]) (rest := []) (W := 0) (kc := 0) (ks := 0) (wl := []) at_423 rfl (wd107 hw) (wd108 hw) (wd110 hw) (wd109 hw) (by decide) ⟨rfl, rfl⟩ (Str.exa RR) (lenOf pd_15 rfl) rfl rfl (Nat.le_of_ble_eq_true rfl) (pays_ch hw 3 RR (fun c hc => lat5 l0 l1 l2 l3 c (List.mem_of_mem_drop hc)) (by omega) SC nC SF rF hi rfl (by decide) (by decide)) (fun v h' q => q.2 ▸ Keep.refl _ _) all0 (by decide) (by decide) ?_
                      rintro _ h_55 ⟨rfl, eqh⟩
                      subst h_55
                      refine Run.cast (st' := [(.int (((mk5 n c0 c1 c2 c3).drop (ls (mk5 n c0 c1 c2 c3) (mk5 n c0 c1 c2 c3).length)).getD 3 0))]) rfl ?_
                      refine r_aload at_426 rfl rfl rfl ?_
                      refine r_iload at_428 rfl rfl ?_
                      refine r_iconst (v := 4) at_430 rfl rfl ?_
                      refine r_iadd at_431 rfl ?_
                      rw [show ((Int32.ofNat (ls (mk5 n c0 c1 c2 c3) (mk5 n c0 c1 c2 c3).length) - 1) + (4 : Int32)) = (Int32.ofNat ((ls (mk5 n c0 c1 c2 c3) (mk5 n c0 c1 c2 c3).length) + 3)) from j_eq _ 3]
                      have hj : (ls (mk5 n c0 c1 c2 c3) (mk5 n c0 c1 c2 c3).length) + 3 < (mk5 n c0 c1 c2 c3).length := by omega
                      have K_56 : Arv Z h_42 b_5 k_10 .char (4 : Int32) (List.map Value.int [c0, c1, c2, c3]) (.int 0) := (Arv.keep (Arv.keep KA KK nin0) KK3 nin0)
                      refine r_caload (v := (.int ([c0, c1, c2, c3].getD ((ls (mk5 n c0 c1 c2 c3) (mk5 n c0 c1 c2 c3).length) + 3) 0))) at_432 rfl K_56 (ofNat_in (n := 4) (by omega) (by decide)) (by rw [ofNat_cl (by omega), getD_map]) ?_
                      refine r_icmpne (pc2 := 440) at_433 rfl rfl (fun cc => absurd ((drop_get _ _ _).trans (mk5_get c0 c1 c2 c3 hj)) cc) (fun _ => ?_)
                      refine r_iconst (v := 1) at_436 rfl rfl ?_
                      refine r_goto (pc' := 441) at_437 rfl ?_
                      refine r_istore (l' := #[.val (.int p0), .val (.int p1), .val (.int p2), .val (.int p3), .val (.int p4), .val (.int n), .val (.int c0), .val (.int c1), .val (.int c2), .val (.int c3), .val (.ref b_5), .val (.ref a), .val (.int (Int32.ofNat (ls (mk5 n c0 c1 c2 c3) (mk5 n c0 c1 c2 c3).length) - 1)), .val (.ref r), .val (.int (Int32.ofNat ((mk5 n c0 c1 c2 c3).drop (ls (mk5 n c0 c1 c2 c3) (mk5 n c0 c1 c2 c3).length)).length)), .val (.int (1 : Int32))]) at_441 rfl rfl ?_
                      exact J_52 () trivial
                · intro J_50
                  refine r_iload at_375 rfl rfl ?_
                  refine r_iconst (v := 2) at_377 rfl rfl ?_
                  refine r_icmple (pc2 := 409) at_378 rfl rfl (fun c_57 => ?_) (fun c_57 => ?_)
                  · exact J_50 () trivial
                  · have hi : 2 < ((mk5 n c0 c1 c2 c3).drop (ls (mk5 n c0 c1 c2 c3) (mk5 n c0 c1 c2 c3).length)).length := gt_of (by decide) c_57
                    refine r_iload at_381 rfl rfl ?_
                    refine r_ifeq (pc2 := 406) at_383 rfl rfl (fun cc => absurd cc (by decide)) (fun _ => ?_)
                    refine r_aload at_386 rfl rfl rfl ?_
                    refine r_iconst (v := 2) at_388 rfl rfl ?_
                    refine r_virtual (y := (⟨"java/lang/String", "charAt", "(I)C"⟩ : MethodName)) (argsL := [(.int (2 : Int32))]) (rest := []) (W := 0) (kc := 0) (ks := 0) (wl := []) at_389 rfl (wd107 hw) (wd108 hw) (wd110 hw) (wd109 hw) (by decide) ⟨rfl, rfl⟩ (Str.exa RR) (lenOf pd_15 rfl) rfl rfl (Nat.le_of_ble_eq_true rfl) (pays_ch hw 2 RR (fun c hc => lat5 l0 l1 l2 l3 c (List.mem_of_mem_drop hc)) (by omega) SC nC SF rF hi rfl (by decide) (by decide)) (fun v h' q => q.2 ▸ Keep.refl _ _) all0 (by decide) (by decide) ?_
                    rintro _ h_58 ⟨rfl, eqh⟩
                    subst h_58
                    refine Run.cast (st' := [(.int (((mk5 n c0 c1 c2 c3).drop (ls (mk5 n c0 c1 c2 c3) (mk5 n c0 c1 c2 c3).length)).getD 2 0))]) rfl ?_
                    refine r_aload at_392 rfl rfl rfl ?_
                    refine r_iload at_394 rfl rfl ?_
                    refine r_iconst (v := 3) at_396 rfl rfl ?_
                    refine r_iadd at_397 rfl ?_
                    rw [show ((Int32.ofNat (ls (mk5 n c0 c1 c2 c3) (mk5 n c0 c1 c2 c3).length) - 1) + (3 : Int32)) = (Int32.ofNat ((ls (mk5 n c0 c1 c2 c3) (mk5 n c0 c1 c2 c3).length) + 2)) from j_eq _ 2]
                    have hj : (ls (mk5 n c0 c1 c2 c3) (mk5 n c0 c1 c2 c3).length) + 2 < (mk5 n c0 c1 c2 c3).length := by omega
                    have K_59 : Arv Z h_42 b_5 k_10 .char (4 : Int32) (List.map Value.int [c0, c1, c2, c3]) (.int 0) := (Arv.keep (Arv.keep KA KK nin0) KK3 nin0)
                    refine r_caload (v := (.int ([c0, c1, c2, c3].getD ((ls (mk5 n c0 c1 c2 c3) (mk5 n c0 c1 c2 c3).length) + 2) 0))) at_398 rfl K_59 (ofNat_in (n := 4) (by omega) (by decide)) (by rw [ofNat_cl (by omega), getD_map]) ?_
                    refine r_icmpne (pc2 := 406) at_399 rfl rfl (fun cc => absurd ((drop_get _ _ _).trans (mk5_get c0 c1 c2 c3 hj)) cc) (fun _ => ?_)
                    refine r_iconst (v := 1) at_402 rfl rfl ?_
                    refine r_goto (pc' := 407) at_403 rfl ?_
                    refine r_istore (l' := #[.val (.int p0), .val (.int p1), .val (.int p2), .val (.int p3), .val (.int p4), .val (.int n), .val (.int c0), .val (.int c1), .val (.int c2), .val (.int c3), .val (.ref b_5), .val (.ref a), .val (.int (Int32.ofNat (ls (mk5 n c0 c1 c2 c3) (mk5 n c0 c1 c2 c3).length) - 1)), .val (.ref r), .val (.int (Int32.ofNat ((mk5 n c0 c1 c2 c3).drop (ls (mk5 n c0 c1 c2 c3) (mk5 n c0 c1 c2 c3).length)).length)), .val (.int (1 : Int32))]) at_407 rfl rfl ?_
                    exact J_50 () trivial
              · intro J_48
                refine r_iload at_341 rfl rfl ?_
                refine r_iconst (v := 1) at_343 rfl rfl ?_
                refine r_icmple (pc2 := 375) at_344 rfl rfl (fun c_60 => ?_) (fun c_60 => ?_)
                · exact J_48 () trivial
                · have hi : 1 < ((mk5 n c0 c1 c2 c3).drop (ls (mk5 n c0 c1 c2 c3) (mk5 n c0 c1 c2 c3).length)).length := gt_of (by decide) c_60
                  refine r_iload at_347 rfl rfl ?_
                  refine r_ifeq (pc2 := 372) at_349 rfl rfl (fun cc => absurd cc (by decide)) (fun _ => ?_)
                  refine r_aload at_352 rfl rfl rfl ?_
                  refine r_iconst (v := 1) at_354 rfl rfl ?_
                  refine r_virtual (y := (⟨"java/lang/String", "charAt", "(I)C"⟩ : MethodName)) (argsL := [(.int (1 : Int32))]) (rest := []) (W := 0) (kc := 0) (ks := 0) (wl := []) at_355 rfl (wd107 hw) (wd108 hw) (wd110 hw) (wd109 hw) (by decide) ⟨rfl, rfl⟩ (Str.exa RR) (lenOf pd_15 rfl) rfl rfl (Nat.le_of_ble_eq_true rfl) (pays_ch hw 1 RR (fun c hc => lat5 l0 l1 l2 l3 c (List.mem_of_mem_drop hc)) (by omega) SC nC SF rF hi rfl (by decide) (by decide)) (fun v h' q => q.2 ▸ Keep.refl _ _) all0 (by decide) (by decide) ?_
                  rintro _ h_61 ⟨rfl, eqh⟩
                  subst h_61
                  refine Run.cast (st' := [(.int (((mk5 n c0 c1 c2 c3).drop (ls (mk5 n c0 c1 c2 c3) (mk5 n c0 c1 c2 c3).length)).getD 1 0))]) rfl ?_
                  refine r_aload at_358 rfl rfl rfl ?_
                  refine r_iload at_360 rfl rfl ?_
                  refine r_iconst (v := 2) at_362 rfl rfl ?_
                  refine r_iadd at_363 rfl ?_
                  rw [show ((Int32.ofNat (ls (mk5 n c0 c1 c2 c3) (mk5 n c0 c1 c2 c3).length) - 1) + (2 : Int32)) = (Int32.ofNat ((ls (mk5 n c0 c1 c2 c3) (mk5 n c0 c1 c2 c3).length) + 1)) from j_eq _ 1]
                  have hj : (ls (mk5 n c0 c1 c2 c3) (mk5 n c0 c1 c2 c3).length) + 1 < (mk5 n c0 c1 c2 c3).length := by omega
                  have K_62 : Arv Z h_42 b_5 k_10 .char (4 : Int32) (List.map Value.int [c0, c1, c2, c3]) (.int 0) := (Arv.keep (Arv.keep KA KK nin0) KK3 nin0)
                  refine r_caload (v := (.int ([c0, c1, c2, c3].getD ((ls (mk5 n c0 c1 c2 c3) (mk5 n c0 c1 c2 c3).length) + 1) 0))) at_364 rfl K_62 (ofNat_in (n := 4) (by omega) (by decide)) (by rw [ofNat_cl (by omega), getD_map]) ?_
                  refine r_icmpne (pc2 := 372) at_365 rfl rfl (fun cc => absurd ((drop_get _ _ _).trans (mk5_get c0 c1 c2 c3 hj)) cc) (fun _ => ?_)
                  refine r_iconst (v := 1) at_368 rfl rfl ?_
                  refine r_goto (pc' := 373) at_369 rfl ?_
                  refine r_istore (l' := #[.val (.int p0), .val (.int p1), .val (.int p2), .val (.int p3), .val (.int p4), .val (.int n), .val (.int c0), .val (.int c1), .val (.int c2), .val (.int c3), .val (.ref b_5), .val (.ref a), .val (.int (Int32.ofNat (ls (mk5 n c0 c1 c2 c3) (mk5 n c0 c1 c2 c3).length) - 1)), .val (.ref r), .val (.int (Int32.ofNat ((mk5 n c0 c1 c2 c3).drop (ls (mk5 n c0 c1 c2 c3) (mk5 n c0 c1 c2 c3).length)).length)), .val (.int (1 : Int32))]) at_373 rfl rfl ?_
                  exact J_48 () trivial
            · intro J_46
              refine r_iload at_308 rfl rfl ?_
              refine r_ifle (pc2 := 341) at_310 rfl rfl (fun c_63 => ?_) (fun c_63 => ?_)
              · exact J_46 () trivial
              · have hi : 0 < ((mk5 n c0 c1 c2 c3).drop (ls (mk5 n c0 c1 c2 c3) (mk5 n c0 c1 c2 c3).length)).length := gt_of (by decide) c_63
                refine r_iload at_313 rfl rfl ?_
                refine r_ifeq (pc2 := 338) at_315 rfl rfl (fun cc => absurd cc (by decide)) (fun _ => ?_)
                refine r_aload at_318 rfl rfl rfl ?_
                refine r_iconst (v := 0) at_320 rfl rfl ?_
                refine r_virtual (y := (⟨"java/lang/String", "charAt", "(I)C"⟩ : MethodName)) (argsL := [(.int (0 : Int32))]) (rest := []) (W := 0) (kc := 0) (ks := 0) (wl := []) at_321 rfl (wd107 hw) (wd108 hw) (wd110 hw) (wd109 hw) (by decide) ⟨rfl, rfl⟩ (Str.exa RR) (lenOf pd_15 rfl) rfl rfl (Nat.le_of_ble_eq_true rfl) (pays_ch hw 0 RR (fun c hc => lat5 l0 l1 l2 l3 c (List.mem_of_mem_drop hc)) (by omega) SC nC SF rF hi rfl (by decide) (by decide)) (fun v h' q => q.2 ▸ Keep.refl _ _) all0 (by decide) (by decide) ?_
                rintro _ h_64 ⟨rfl, eqh⟩
                subst h_64
                refine Run.cast (st' := [(.int (((mk5 n c0 c1 c2 c3).drop (ls (mk5 n c0 c1 c2 c3) (mk5 n c0 c1 c2 c3).length)).getD 0 0))]) rfl ?_
                refine r_aload at_324 rfl rfl rfl ?_
                refine r_iload at_326 rfl rfl ?_
                refine r_iconst (v := 1) at_328 rfl rfl ?_
                refine r_iadd at_329 rfl ?_
                rw [show ((Int32.ofNat (ls (mk5 n c0 c1 c2 c3) (mk5 n c0 c1 c2 c3).length) - 1) + (1 : Int32)) = (Int32.ofNat ((ls (mk5 n c0 c1 c2 c3) (mk5 n c0 c1 c2 c3).length) + 0)) from j_eq _ 0]
                have hj : (ls (mk5 n c0 c1 c2 c3) (mk5 n c0 c1 c2 c3).length) + 0 < (mk5 n c0 c1 c2 c3).length := by omega
                have K_65 : Arv Z h_42 b_5 k_10 .char (4 : Int32) (List.map Value.int [c0, c1, c2, c3]) (.int 0) := (Arv.keep (Arv.keep KA KK nin0) KK3 nin0)
                refine r_caload (v := (.int ([c0, c1, c2, c3].getD ((ls (mk5 n c0 c1 c2 c3) (mk5 n c0 c1 c2 c3).length) + 0) 0))) at_330 rfl K_65 (ofNat_in (n := 4) (by omega) (by decide)) (by rw [ofNat_cl (by omega), getD_map]) ?_
                refine r_icmpne (pc2 := 338) at_331 rfl rfl (fun cc => absurd ((drop_get _ _ _).trans (mk5_get c0 c1 c2 c3 hj)) cc) (fun _ => ?_)
                refine r_iconst (v := 1) at_334 rfl rfl ?_
                refine r_goto (pc' := 339) at_335 rfl ?_
                refine r_istore (l' := #[.val (.int p0), .val (.int p1), .val (.int p2), .val (.int p3), .val (.int p4), .val (.int n), .val (.int c0), .val (.int c1), .val (.int c2), .val (.int c3), .val (.ref b_5), .val (.ref a), .val (.int (Int32.ofNat (ls (mk5 n c0 c1 c2 c3) (mk5 n c0 c1 c2 c3).length) - 1)), .val (.ref r), .val (.int (Int32.ofNat ((mk5 n c0 c1 c2 c3).drop (ls (mk5 n c0 c1 c2 c3) (mk5 n c0 c1 c2 c3).length)).length)), .val (.int (1 : Int32))]) at_339 rfl rfl ?_
                exact J_46 () trivial
          · intro J_40
            refine r_iload at_260 rfl rfl ?_
            refine r_iconst (v := 3) at_262 rfl rfl ?_
            refine r_icmple (pc2 := 277) at_263 rfl rfl (fun c_66 => ?_) (fun c_66 => ?_)
            · exact J_40 _ (by rw [sf3, if_neg (fun z => c_66 z.1)]; exact hv_39)
            · refine r_iload at_266 rfl rfl ?_
              refine r_static (y := (⟨"com/example/shomer/shomer/engine/NamesLocalNamePinLaw", "isSep", "(C)Z"⟩ : MethodName)) (argsL := [(.int c3)]) (rest := []) (W := 0) (kc := 0) (ks := 0) (wl := []) at_268 rfl (wd100 hw) (wd101 hw) (wd3 hw) (wd102 hw) (by decide) (lenOf pd_17 rfl) rfl rfl (Nat.le_of_ble_eq_true rfl) (Ok.pays (ok_sep hw c3) (wd102 hw) (wd3 hw) (by decide) (by decide)) (fun v h' q => q.2 ▸ Keep.refl _ _) all0 (by decide) (by decide) ?_
              rintro _ h_67 ⟨rfl, eqh⟩
              subst h_67
              refine Run.cast (st' := [(.int (if sp c3 then 1 else 0))]) rfl ?_
              refine r_ifeq (pc2 := 277) at_271 rfl rfl (fun c_68 => ?_) (fun c_68 => ?_)
              · exact J_40 _ (by rw [sf3, if_neg (fun z => by rw [if_pos z.2] at c_68; exact absurd c_68 (by decide))]; exact hv_39)
              · refine r_iconst (v := 3) at_274 rfl rfl ?_
                refine r_istore (l' := #[.val (.int p0), .val (.int p1), .val (.int p2), .val (.int p3), .val (.int p4), .val (.int n), .val (.int c0), .val (.int c1), .val (.int c2), .val (.int c3), .val (.ref b_5), .val (.ref a), .val (.int (3 : Int32)), .unset, .unset, .unset]) at_275 rfl rfl ?_
                exact J_40 _ (by rw [sf3, if_pos ⟨c_66, Classical.byContradiction fun z => c_68 (if_neg z)⟩])
        · intro J_38
          refine r_iload at_243 rfl rfl ?_
          refine r_iconst (v := 2) at_245 rfl rfl ?_
          refine r_icmple (pc2 := 260) at_246 rfl rfl (fun c_69 => ?_) (fun c_69 => ?_)
          · exact J_38 _ (by rw [sf2, if_neg (fun z => c_69 z.1)]; exact hv_37)
          · refine r_iload at_249 rfl rfl ?_
            refine r_static (y := (⟨"com/example/shomer/shomer/engine/NamesLocalNamePinLaw", "isSep", "(C)Z"⟩ : MethodName)) (argsL := [(.int c2)]) (rest := []) (W := 0) (kc := 0) (ks := 0) (wl := []) at_251 rfl (wd100 hw) (wd101 hw) (wd3 hw) (wd102 hw) (by decide) (lenOf pd_17 rfl) rfl rfl (Nat.le_of_ble_eq_true rfl) (Ok.pays (ok_sep hw c2) (wd102 hw) (wd3 hw) (by decide) (by decide)) (fun v h' q => q.2 ▸ Keep.refl _ _) all0 (by decide) (by decide) ?_
            rintro _ h_70 ⟨rfl, eqh⟩
            subst h_70
            refine Run.cast (st' := [(.int (if sp c2 then 1 else 0))]) rfl ?_
            refine r_ifeq (pc2 := 260) at_254 rfl rfl (fun c_71 => ?_) (fun c_71 => ?_)
            · exact J_38 _ (by rw [sf2, if_neg (fun z => by rw [if_pos z.2] at c_71; exact absurd c_71 (by decide))]; exact hv_37)
            · refine r_iconst (v := 2) at_257 rfl rfl ?_
              refine r_istore (l' := #[.val (.int p0), .val (.int p1), .val (.int p2), .val (.int p3), .val (.int p4), .val (.int n), .val (.int c0), .val (.int c1), .val (.int c2), .val (.int c3), .val (.ref b_5), .val (.ref a), .val (.int (2 : Int32)), .unset, .unset, .unset]) at_258 rfl rfl ?_
              exact J_38 _ (by rw [sf2, if_pos ⟨c_69, Classical.byContradiction fun z => c_71 (if_neg z)⟩])
      · intro J_36
        refine r_iload at_226 rfl rfl ?_
        refine r_iconst (v := 1) at_228 rfl rfl ?_
        refine r_icmple (pc2 := 243) at_229 rfl rfl (fun c_72 => ?_) (fun c_72 => ?_)
        · exact J_36 _ (by rw [sf1, if_neg (fun z => c_72 z.1)]; exact hv_35)
        · refine r_iload at_232 rfl rfl ?_
          refine r_static (y := (⟨"com/example/shomer/shomer/engine/NamesLocalNamePinLaw", "isSep", "(C)Z"⟩ : MethodName)) (argsL := [(.int c1)]) (rest := []) (W := 0) (kc := 0) (ks := 0) (wl := []) at_234 rfl (wd100 hw) (wd101 hw) (wd3 hw) (wd102 hw) (by decide) (lenOf pd_17 rfl) rfl rfl (Nat.le_of_ble_eq_true rfl) (Ok.pays (ok_sep hw c1) (wd102 hw) (wd3 hw) (by decide) (by decide)) (fun v h' q => q.2 ▸ Keep.refl _ _) all0 (by decide) (by decide) ?_
          rintro _ h_73 ⟨rfl, eqh⟩
          subst h_73
          refine Run.cast (st' := [(.int (if sp c1 then 1 else 0))]) rfl ?_
          refine r_ifeq (pc2 := 243) at_237 rfl rfl (fun c_74 => ?_) (fun c_74 => ?_)
          · exact J_36 _ (by rw [sf1, if_neg (fun z => by rw [if_pos z.2] at c_74; exact absurd c_74 (by decide))]; exact hv_35)
          · refine r_iconst (v := 1) at_240 rfl rfl ?_
            refine r_istore (l' := #[.val (.int p0), .val (.int p1), .val (.int p2), .val (.int p3), .val (.int p4), .val (.int n), .val (.int c0), .val (.int c1), .val (.int c2), .val (.int c3), .val (.ref b_5), .val (.ref a), .val (.int (1 : Int32)), .unset, .unset, .unset]) at_241 rfl rfl ?_
            exact J_36 _ (by rw [sf1, if_pos ⟨c_72, Classical.byContradiction fun z => c_74 (if_neg z)⟩])
    · intro J_34
      refine r_iload at_210 rfl rfl ?_
      refine r_ifle (pc2 := 226) at_212 rfl rfl (fun c_75 => ?_) (fun c_75 => ?_)
      · exact J_34 _ (by rw [sf0, if_neg (fun z => c_75 z.1)])
      · refine r_iload at_215 rfl rfl ?_
        refine r_static (y := (⟨"com/example/shomer/shomer/engine/NamesLocalNamePinLaw", "isSep", "(C)Z"⟩ : MethodName)) (argsL := [(.int c0)]) (rest := []) (W := 0) (kc := 0) (ks := 0) (wl := []) at_217 rfl (wd100 hw) (wd101 hw) (wd3 hw) (wd102 hw) (by decide) (lenOf pd_17 rfl) rfl rfl (Nat.le_of_ble_eq_true rfl) (Ok.pays (ok_sep hw c0) (wd102 hw) (wd3 hw) (by decide) (by decide)) (fun v h' q => q.2 ▸ Keep.refl _ _) all0 (by decide) (by decide) ?_
        rintro _ h_76 ⟨rfl, eqh⟩
        subst h_76
        refine Run.cast (st' := [(.int (if sp c0 then 1 else 0))]) rfl ?_
        refine r_ifeq (pc2 := 226) at_220 rfl rfl (fun c_77 => ?_) (fun c_77 => ?_)
        · exact J_34 _ (by rw [sf0, if_neg (fun z => by rw [if_pos z.2] at c_77; exact absurd c_77 (by decide))])
        · refine r_iconst (v := 0) at_223 rfl rfl ?_
          refine r_istore (l' := #[.val (.int p0), .val (.int p1), .val (.int p2), .val (.int p3), .val (.int p4), .val (.int n), .val (.int c0), .val (.int c1), .val (.int c2), .val (.int c3), .val (.ref b_5), .val (.ref a), .val (.int (0 : Int32)), .unset, .unset, .unset]) at_224 rfl rfl ?_
          exact J_34 _ (by rw [sf0, if_pos ⟨c_75, Classical.byContradiction fun z => c_77 (if_neg z)⟩])
  · intro J_29
    refine r_ifne (pc2 := 82) at_64 rfl rfl (fun c_78 => ?_) (fun c_78 => ?_)
    · refine r_iload at_82 rfl rfl ?_
      refine r_iconst (v := 1) at_84 rfl rfl ?_
      refine r_icmpne (pc2 := 108) at_85 rfl rfl (fun c_79 => ?_) (fun c_79 => ?_)
      · refine r_iload at_108 rfl rfl ?_
        refine r_iconst (v := 2) at_110 rfl rfl ?_
        refine r_icmpne (pc2 := 139) at_111 rfl rfl (fun c_80 => ?_) (fun c_80 => ?_)
        · refine r_iload at_139 rfl rfl ?_
          refine r_iconst (v := 3) at_141 rfl rfl ?_
          refine r_icmpne (pc2 := 175) at_142 rfl rfl (fun c_81 => ?_) (fun c_81 => ?_)
          · refine r_new at_175 rfl (wd6 hw) (wd7 hw) (wd8 hw) (by decide) (by decide) ?_
            intro h_83 b_82 gb_82 ltb_82 E_84 A_85 D_86 U_87
            have szh_83 := E_84.1
            have geb_82 : n0 ≤ b_82 := by omega
            have F_88 : Fld Z h_83 b_82 "java/lang/String" "value" "[B" .null := D_86 (Or.inr (wd21 hw)) (ty := (.array .byte)) (by decide)
            have F_89 : Fld Z h_83 b_82 "java/lang/String" "coder" "B" (.int (0 : Int32)) := D_86 (Or.inr (wd22 hw)) (ty := .byte) (by decide)
            refine r_dup at_178 rfl rfl ?_
            refine r_iconst (v := 4) at_179 rfl rfl ?_
            refine r_newP (cap := 4) (ad := "[C") at_180 rfl (wd5 hw) (by decide) (by decide) (by decide) (by decide) (by decide) (by decide) ?_
            intro h_91 b_90 k_95 gb_90 ltb_90 E_92 A_93 K_94
            have szh_91 := E_92.1
            have geb_90 : n0 ≤ b_90 := by omega
            have K_96 : Arv Z h_91 b_90 k_95 .char (4 : Int32) [(.int 0), (.int 0), (.int 0), (.int 0)] (.int 0) := Arv.pad K_94 (pad_rep [] (.int 0) 4)
            refine r_dup at_182 rfl rfl ?_
            refine r_iconst (v := 0) at_183 rfl rfl ?_
            refine r_iload at_184 rfl rfl ?_
            refine r_castore 0 at_186 rfl K_96 ⟨by decide, by decide⟩ rfl (Nat.le_of_ble_eq_true rfl) geb_90 ?_
            intro h_97 W_98 K_99
            have szh_97 := Wr.size W_98
            have K_100 : Arv Z h_97 b_90 k_95 .char (4 : Int32) [(.int (nar .char c0)), (.int 0), (.int 0), (.int 0)] (.int 0) := K_99
            refine r_dup at_187 rfl rfl ?_
            refine r_iconst (v := 1) at_188 rfl rfl ?_
            refine r_iload at_189 rfl rfl ?_
            refine r_castore 1 at_191 rfl K_100 ⟨by decide, by decide⟩ rfl (Nat.le_of_ble_eq_true rfl) geb_90 ?_
            intro h_101 W_102 K_103
            have szh_101 := Wr.size W_102
            have K_104 : Arv Z h_101 b_90 k_95 .char (4 : Int32) [(.int (nar .char c0)), (.int (nar .char c1)), (.int 0), (.int 0)] (.int 0) := K_103
            refine r_dup at_192 rfl rfl ?_
            refine r_iconst (v := 2) at_193 rfl rfl ?_
            refine r_iload at_194 rfl rfl ?_
            refine r_castore 2 at_196 rfl K_104 ⟨by decide, by decide⟩ rfl (Nat.le_of_ble_eq_true rfl) geb_90 ?_
            intro h_105 W_106 K_107
            have szh_105 := Wr.size W_106
            have K_108 : Arv Z h_105 b_90 k_95 .char (4 : Int32) [(.int (nar .char c0)), (.int (nar .char c1)), (.int (nar .char c2)), (.int 0)] (.int 0) := K_107
            refine r_dup at_197 rfl rfl ?_
            refine r_iconst (v := 3) at_198 rfl rfl ?_
            refine r_iload at_199 rfl rfl ?_
            refine r_castore 3 at_201 rfl K_108 ⟨by decide, by decide⟩ rfl (Nat.le_of_ble_eq_true rfl) geb_90 ?_
            intro h_109 W_110 K_111
            have szh_109 := Wr.size W_110
            have K_112 : Arv Z h_109 b_90 k_95 .char (4 : Int32) [(.int (nar .char c0)), (.int (nar .char c1)), (.int (nar .char c2)), (.int (nar .char c3))] (.int 0) := K_111
            have K_113 : Arv Z h_109 b_90 k_95 .char (4 : Int32) (List.map Value.int [c0, c1, c2, c3]) (.int 0) := by have q := K_112; rw [castore_id l0, castore_id l1, castore_id l2, castore_id l3] at q; exact q
            have ne_114 : @Ne Nat b_82 b_90 := by omega
            have F_115 : Fld Z h_109 b_82 "java/lang/String" "value" "[B" .null := (Fld.other W_110 (Fld.other W_106 (Fld.other W_102 (Fld.other W_98 (Fld.ext E_92 F_88) (Or.inl ne_114)) (Or.inl ne_114)) (Or.inl ne_114)) (Or.inl ne_114))
            have F_116 : Fld Z h_109 b_82 "java/lang/String" "coder" "B" (.int (0 : Int32)) := (Fld.other W_110 (Fld.other W_106 (Fld.other W_102 (Fld.other W_98 (Fld.ext E_92 F_89) (Or.inl ne_114)) (Or.inl ne_114)) (Or.inl ne_114)) (Or.inl ne_114))
            have A_117 : Exa Z h_109 b_82 "java/lang/String" := (Exa.wr W_110 (Exa.wr W_106 (Exa.wr W_102 (Exa.wr W_98 (Exa.ext E_92 A_85)))))
            refine r_special (y := (⟨"java/lang/String", "<init>", "([C)V"⟩ : MethodName)) (argsL := [(.ref b_90)]) (rest := [(.ref b_82)]) (W := 1) (kc := 1) (ks := 4) (wl := [b_82]) at_202 rfl rfl (wd9 hw) (wd10 hw) (wd11 hw) (by decide) (lenOf pd_18 rfl) rfl rfl (Nat.le_of_ble_eq_true rfl) (pays_init hw (cs := [c0, c1, c2, c3]) (n := 4) geb_82 A_117 F_115 F_116 K_113 SC nC rfl rfl (by decide) (by decide) (lat4 l0 l1 l2 l3) (by decide) (by decide)) (fun v h' q => q.2.1) (allS ⟨geb_82, (Sf.my (by simp))⟩ all0) (by decide) (by decide) ?_
            rintro _ h_122 ⟨rfl, KK_118, sz_119, SS_120, FF_121⟩
            refine Run.cast (st' := [(.ref b_82)]) rfl ?_
            have lt_123 : @LT.lt Nat instLTNat b_82 (Array.size h_122) := (Str.lt SS_120)
            have lt_124 : @LT.lt Nat instLTNat h_109.size (Array.size h_122) := (Str.ltB SS_120)
            refine r_astore (l' := #[.val (.int p0), .val (.int p1), .val (.int p2), .val (.int p3), .val (.int p4), .val (.int n), .val (.int c0), .val (.int c1), .val (.int c2), .val (.int c3), .val (.ref b_5), .val (.ref b_82), .unset, .unset, .unset, .unset]) at_205 rfl rfl rfl ?_
            exact Run.spend (by decide) (by decide) (Run.forget (by simp) (J_29 (b_82, h_109.size) h_122 ⟨(Keep.trans (Keep.wr (Keep.wr (Keep.wr (Keep.wr (Keep.ext (Keep.ext (Keep.refl _ _) E_84) E_92) W_98 (Or.inr (by omega))) W_102 (Or.inr (by omega))) W_106 (Or.inr (by omega))) W_110 (Or.inr (by omega))) KK_118 (allS (Or.inr (by omega)) all0)), by rw [mk5, if_neg c_78, if_neg c_79, if_neg c_80, if_neg c_81]; exact SS_120⟩))
          · refine r_new at_145 rfl (wd6 hw) (wd7 hw) (wd8 hw) (by decide) (by decide) ?_
            intro h_126 b_125 gb_125 ltb_125 E_127 A_128 D_129 U_130
            have szh_126 := E_127.1
            have geb_125 : n0 ≤ b_125 := by omega
            have F_131 : Fld Z h_126 b_125 "java/lang/String" "value" "[B" .null := D_129 (Or.inr (wd21 hw)) (ty := (.array .byte)) (by decide)
            have F_132 : Fld Z h_126 b_125 "java/lang/String" "coder" "B" (.int (0 : Int32)) := D_129 (Or.inr (wd22 hw)) (ty := .byte) (by decide)
            refine r_dup at_148 rfl rfl ?_
            refine r_iconst (v := 3) at_149 rfl rfl ?_
            refine r_newP (cap := 3) (ad := "[C") at_150 rfl (wd5 hw) (by decide) (by decide) (by decide) (by decide) (by decide) (by decide) ?_
            intro h_134 b_133 k_138 gb_133 ltb_133 E_135 A_136 K_137
            have szh_134 := E_135.1
            have geb_133 : n0 ≤ b_133 := by omega
            have K_139 : Arv Z h_134 b_133 k_138 .char (3 : Int32) [(.int 0), (.int 0), (.int 0)] (.int 0) := Arv.pad K_137 (pad_rep [] (.int 0) 3)
            refine r_dup at_152 rfl rfl ?_
            refine r_iconst (v := 0) at_153 rfl rfl ?_
            refine r_iload at_154 rfl rfl ?_
            refine r_castore 0 at_156 rfl K_139 ⟨by decide, by decide⟩ rfl (Nat.le_of_ble_eq_true rfl) geb_133 ?_
            intro h_140 W_141 K_142
            have szh_140 := Wr.size W_141
            have K_143 : Arv Z h_140 b_133 k_138 .char (3 : Int32) [(.int (nar .char c0)), (.int 0), (.int 0)] (.int 0) := K_142
            refine r_dup at_157 rfl rfl ?_
            refine r_iconst (v := 1) at_158 rfl rfl ?_
            refine r_iload at_159 rfl rfl ?_
            refine r_castore 1 at_161 rfl K_143 ⟨by decide, by decide⟩ rfl (Nat.le_of_ble_eq_true rfl) geb_133 ?_
            intro h_144 W_145 K_146
            have szh_144 := Wr.size W_145
            have K_147 : Arv Z h_144 b_133 k_138 .char (3 : Int32) [(.int (nar .char c0)), (.int (nar .char c1)), (.int 0)] (.int 0) := K_146
            refine r_dup at_162 rfl rfl ?_
            refine r_iconst (v := 2) at_163 rfl rfl ?_
            refine r_iload at_164 rfl rfl ?_
            refine r_castore 2 at_166 rfl K_147 ⟨by decide, by decide⟩ rfl (Nat.le_of_ble_eq_true rfl) geb_133 ?_
            intro h_148 W_149 K_150
            have szh_148 := Wr.size W_149
            have K_151 : Arv Z h_148 b_133 k_138 .char (3 : Int32) [(.int (nar .char c0)), (.int (nar .char c1)), (.int (nar .char c2))] (.int 0) := K_150
            have K_152 : Arv Z h_148 b_133 k_138 .char (3 : Int32) (List.map Value.int [c0, c1, c2]) (.int 0) := by have q := K_151; rw [castore_id l0, castore_id l1, castore_id l2] at q; exact q
            have ne_153 : @Ne Nat b_125 b_133 := by omega
            have F_154 : Fld Z h_148 b_125 "java/lang/String" "value" "[B" .null := (Fld.other W_149 (Fld.other W_145 (Fld.other W_141 (Fld.ext E_135 F_131) (Or.inl ne_153)) (Or.inl ne_153)) (Or.inl ne_153))
            have F_155 : Fld Z h_148 b_125 "java/lang/String" "coder" "B" (.int (0 : Int32)) := (Fld.other W_149 (Fld.other W_145 (Fld.other W_141 (Fld.ext E_135 F_132) (Or.inl ne_153)) (Or.inl ne_153)) (Or.inl ne_153))
            have A_156 : Exa Z h_148 b_125 "java/lang/String" := (Exa.wr W_149 (Exa.wr W_145 (Exa.wr W_141 (Exa.ext E_135 A_128))))
            refine r_special (y := (⟨"java/lang/String", "<init>", "([C)V"⟩ : MethodName)) (argsL := [(.ref b_133)]) (rest := [(.ref b_125)]) (W := 1) (kc := 1) (ks := 3) (wl := [b_125]) at_167 rfl rfl (wd9 hw) (wd10 hw) (wd11 hw) (by decide) (lenOf pd_18 rfl) rfl rfl (Nat.le_of_ble_eq_true rfl) (pays_init hw (cs := [c0, c1, c2]) (n := 3) geb_125 A_156 F_154 F_155 K_152 SC nC rfl rfl (by decide) (by decide) (lat3 l0 l1 l2) (by decide) (by decide)) (fun v h' q => q.2.1) (allS ⟨geb_125, (Sf.my (by simp))⟩ all0) (by decide) (by decide) ?_
            rintro _ h_161 ⟨rfl, KK_157, sz_158, SS_159, FF_160⟩
            refine Run.cast (st' := [(.ref b_125)]) rfl ?_
            have lt_162 : @LT.lt Nat instLTNat b_125 (Array.size h_161) := (Str.lt SS_159)
            have lt_163 : @LT.lt Nat instLTNat h_148.size (Array.size h_161) := (Str.ltB SS_159)
            refine r_astore (l' := #[.val (.int p0), .val (.int p1), .val (.int p2), .val (.int p3), .val (.int p4), .val (.int n), .val (.int c0), .val (.int c1), .val (.int c2), .val (.int c3), .val (.ref b_5), .val (.ref b_125), .unset, .unset, .unset, .unset]) at_170 rfl rfl rfl ?_
            refine r_goto (pc' := 207) at_172 rfl ?_
            exact Run.spend (by decide) (by decide) (Run.forget (by simp) (J_29 (b_125, h_148.size) h_161 ⟨(Keep.trans (Keep.wr (Keep.wr (Keep.wr (Keep.ext (Keep.ext (Keep.refl _ _) E_127) E_135) W_141 (Or.inr (by omega))) W_145 (Or.inr (by omega))) W_149 (Or.inr (by omega))) KK_157 (allS (Or.inr (by omega)) all0)), by rw [mk5, if_neg c_78, if_neg c_79, if_neg c_80, if_pos c_81]; exact SS_159⟩))
        · refine r_new at_114 rfl (wd6 hw) (wd7 hw) (wd8 hw) (by decide) (by decide) ?_
          intro h_165 b_164 gb_164 ltb_164 E_166 A_167 D_168 U_169
          have szh_165 := E_166.1
          have geb_164 : n0 ≤ b_164 := by omega
          have F_170 : Fld Z h_165 b_164 "java/lang/String" "value" "[B" .null := D_168 (Or.inr (wd21 hw)) (ty := (.array .byte)) (by decide)
          have F_171 : Fld Z h_165 b_164 "java/lang/String" "coder" "B" (.int (0 : Int32)) := D_168 (Or.inr (wd22 hw)) (ty := .byte) (by decide)
          refine r_dup at_117 rfl rfl ?_
          refine r_iconst (v := 2) at_118 rfl rfl ?_
          refine r_newP (cap := 2) (ad := "[C") at_119 rfl (wd5 hw) (by decide) (by decide) (by decide) (by decide) (by decide) (by decide) ?_
          intro h_173 b_172 k_177 gb_172 ltb_172 E_174 A_175 K_176
          have szh_173 := E_174.1
          have geb_172 : n0 ≤ b_172 := by omega
          have K_178 : Arv Z h_173 b_172 k_177 .char (2 : Int32) [(.int 0), (.int 0)] (.int 0) := Arv.pad K_176 (pad_rep [] (.int 0) 2)
          refine r_dup at_121 rfl rfl ?_
          refine r_iconst (v := 0) at_122 rfl rfl ?_
          refine r_iload at_123 rfl rfl ?_
          refine r_castore 0 at_125 rfl K_178 ⟨by decide, by decide⟩ rfl (Nat.le_of_ble_eq_true rfl) geb_172 ?_
          intro h_179 W_180 K_181
          have szh_179 := Wr.size W_180
          have K_182 : Arv Z h_179 b_172 k_177 .char (2 : Int32) [(.int (nar .char c0)), (.int 0)] (.int 0) := K_181
          refine r_dup at_126 rfl rfl ?_
          refine r_iconst (v := 1) at_127 rfl rfl ?_
          refine r_iload at_128 rfl rfl ?_
          refine r_castore 1 at_130 rfl K_182 ⟨by decide, by decide⟩ rfl (Nat.le_of_ble_eq_true rfl) geb_172 ?_
          intro h_183 W_184 K_185
          have szh_183 := Wr.size W_184
          have K_186 : Arv Z h_183 b_172 k_177 .char (2 : Int32) [(.int (nar .char c0)), (.int (nar .char c1))] (.int 0) := K_185
          have K_187 : Arv Z h_183 b_172 k_177 .char (2 : Int32) (List.map Value.int [c0, c1]) (.int 0) := by have q := K_186; rw [castore_id l0, castore_id l1] at q; exact q
          have ne_188 : @Ne Nat b_164 b_172 := by omega
          have F_189 : Fld Z h_183 b_164 "java/lang/String" "value" "[B" .null := (Fld.other W_184 (Fld.other W_180 (Fld.ext E_174 F_170) (Or.inl ne_188)) (Or.inl ne_188))
          have F_190 : Fld Z h_183 b_164 "java/lang/String" "coder" "B" (.int (0 : Int32)) := (Fld.other W_184 (Fld.other W_180 (Fld.ext E_174 F_171) (Or.inl ne_188)) (Or.inl ne_188))
          have A_191 : Exa Z h_183 b_164 "java/lang/String" := (Exa.wr W_184 (Exa.wr W_180 (Exa.ext E_174 A_167)))
          refine r_special (y := (⟨"java/lang/String", "<init>", "([C)V"⟩ : MethodName)) (argsL := [(.ref b_172)]) (rest := [(.ref b_164)]) (W := 1) (kc := 1) (ks := 2) (wl := [b_164]) at_131 rfl rfl (wd9 hw) (wd10 hw) (wd11 hw) (by decide) (lenOf pd_18 rfl) rfl rfl (Nat.le_of_ble_eq_true rfl) (pays_init hw (cs := [c0, c1]) (n := 2) geb_164 A_191 F_189 F_190 K_187 SC nC rfl rfl (by decide) (by decide) (lat2 l0 l1) (by decide) (by decide)) (fun v h' q => q.2.1) (allS ⟨geb_164, (Sf.my (by simp))⟩ all0) (by decide) (by decide) ?_
          rintro _ h_196 ⟨rfl, KK_192, sz_193, SS_194, FF_195⟩
          refine Run.cast (st' := [(.ref b_164)]) rfl ?_
          have lt_197 : @LT.lt Nat instLTNat b_164 (Array.size h_196) := (Str.lt SS_194)
          have lt_198 : @LT.lt Nat instLTNat h_183.size (Array.size h_196) := (Str.ltB SS_194)
          refine r_astore (l' := #[.val (.int p0), .val (.int p1), .val (.int p2), .val (.int p3), .val (.int p4), .val (.int n), .val (.int c0), .val (.int c1), .val (.int c2), .val (.int c3), .val (.ref b_5), .val (.ref b_164), .unset, .unset, .unset, .unset]) at_134 rfl rfl rfl ?_
          refine r_goto (pc' := 207) at_136 rfl ?_
          exact Run.spend (by decide) (by decide) (Run.forget (by simp) (J_29 (b_164, h_183.size) h_196 ⟨(Keep.trans (Keep.wr (Keep.wr (Keep.ext (Keep.ext (Keep.refl _ _) E_166) E_174) W_180 (Or.inr (by omega))) W_184 (Or.inr (by omega))) KK_192 (allS (Or.inr (by omega)) all0)), by rw [mk5, if_neg c_78, if_neg c_79, if_pos c_80]; exact SS_194⟩))
      · refine r_new at_88 rfl (wd6 hw) (wd7 hw) (wd8 hw) (by decide) (by decide) ?_
        intro h_200 b_199 gb_199 ltb_199 E_201 A_202 D_203 U_204
        have szh_200 := E_201.1
        have geb_199 : n0 ≤ b_199 := by omega
        have F_205 : Fld Z h_200 b_199 "java/lang/String" "value" "[B" .null := D_203 (Or.inr (wd21 hw)) (ty := (.array .byte)) (by decide)
        have F_206 : Fld Z h_200 b_199 "java/lang/String" "coder" "B" (.int (0 : Int32)) := D_203 (Or.inr (wd22 hw)) (ty := .byte) (by decide)
        refine r_dup at_91 rfl rfl ?_
        refine r_iconst (v := 1) at_92 rfl rfl ?_
        refine r_newP (cap := 1) (ad := "[C") at_93 rfl (wd5 hw) (by decide) (by decide) (by decide) (by decide) (by decide) (by decide) ?_
        intro h_208 b_207 k_212 gb_207 ltb_207 E_209 A_210 K_211
        have szh_208 := E_209.1
        have geb_207 : n0 ≤ b_207 := by omega
        have K_213 : Arv Z h_208 b_207 k_212 .char (1 : Int32) [(.int 0)] (.int 0) := Arv.pad K_211 (pad_rep [] (.int 0) 1)
        refine r_dup at_95 rfl rfl ?_
        refine r_iconst (v := 0) at_96 rfl rfl ?_
        refine r_iload at_97 rfl rfl ?_
        refine r_castore 0 at_99 rfl K_213 ⟨by decide, by decide⟩ rfl (Nat.le_of_ble_eq_true rfl) geb_207 ?_
        intro h_214 W_215 K_216
        have szh_214 := Wr.size W_215
        have K_217 : Arv Z h_214 b_207 k_212 .char (1 : Int32) [(.int (nar .char c0))] (.int 0) := K_216
        have K_218 : Arv Z h_214 b_207 k_212 .char (1 : Int32) (List.map Value.int [c0]) (.int 0) := by have q := K_217; rw [castore_id l0] at q; exact q
        have ne_219 : @Ne Nat b_199 b_207 := by omega
        have F_220 : Fld Z h_214 b_199 "java/lang/String" "value" "[B" .null := (Fld.other W_215 (Fld.ext E_209 F_205) (Or.inl ne_219))
        have F_221 : Fld Z h_214 b_199 "java/lang/String" "coder" "B" (.int (0 : Int32)) := (Fld.other W_215 (Fld.ext E_209 F_206) (Or.inl ne_219))
        have A_222 : Exa Z h_214 b_199 "java/lang/String" := (Exa.wr W_215 (Exa.ext E_209 A_202))
        refine r_special (y := (⟨"java/lang/String", "<init>", "([C)V"⟩ : MethodName)) (argsL := [(.ref b_207)]) (rest := [(.ref b_199)]) (W := 1) (kc := 1) (ks := 1) (wl := [b_199]) at_100 rfl rfl (wd9 hw) (wd10 hw) (wd11 hw) (by decide) (lenOf pd_18 rfl) rfl rfl (Nat.le_of_ble_eq_true rfl) (pays_init hw (cs := [c0]) (n := 1) geb_199 A_222 F_220 F_221 K_218 SC nC rfl rfl (by decide) (by decide) (lat1 l0) (by decide) (by decide)) (fun v h' q => q.2.1) (allS ⟨geb_199, (Sf.my (by simp))⟩ all0) (by decide) (by decide) ?_
        rintro _ h_227 ⟨rfl, KK_223, sz_224, SS_225, FF_226⟩
        refine Run.cast (st' := [(.ref b_199)]) rfl ?_
        have lt_228 : @LT.lt Nat instLTNat b_199 (Array.size h_227) := (Str.lt SS_225)
        have lt_229 : @LT.lt Nat instLTNat h_214.size (Array.size h_227) := (Str.ltB SS_225)
        refine r_astore (l' := #[.val (.int p0), .val (.int p1), .val (.int p2), .val (.int p3), .val (.int p4), .val (.int n), .val (.int c0), .val (.int c1), .val (.int c2), .val (.int c3), .val (.ref b_5), .val (.ref b_199), .unset, .unset, .unset, .unset]) at_103 rfl rfl rfl ?_
        refine r_goto (pc' := 207) at_105 rfl ?_
        exact Run.spend (by decide) (by decide) (Run.forget (by simp) (J_29 (b_199, h_214.size) h_227 ⟨(Keep.trans (Keep.wr (Keep.ext (Keep.ext (Keep.refl _ _) E_201) E_209) W_215 (Or.inr (by omega))) KK_223 (allS (Or.inr (by omega)) all0)), by rw [mk5, if_neg c_78, if_pos c_79]; exact SS_225⟩))
    · refine r_new at_67 rfl (wd6 hw) (wd7 hw) (wd8 hw) (by decide) (by decide) ?_
      intro h_231 b_230 gb_230 ltb_230 E_232 A_233 D_234 U_235
      have szh_231 := E_232.1
      have geb_230 : n0 ≤ b_230 := by omega
      have F_236 : Fld Z h_231 b_230 "java/lang/String" "value" "[B" .null := D_234 (Or.inr (wd21 hw)) (ty := (.array .byte)) (by decide)
      have F_237 : Fld Z h_231 b_230 "java/lang/String" "coder" "B" (.int (0 : Int32)) := D_234 (Or.inr (wd22 hw)) (ty := .byte) (by decide)
      refine r_dup at_70 rfl rfl ?_
      refine r_iconst (v := 0) at_71 rfl rfl ?_
      refine r_newP (cap := 0) (ad := "[C") at_72 rfl (wd5 hw) (by decide) (by decide) (by decide) (by decide) (by decide) (by decide) ?_
      intro h_239 b_238 k_243 gb_238 ltb_238 E_240 A_241 K_242
      have szh_239 := E_240.1
      have geb_238 : n0 ≤ b_238 := by omega
      have K_244 : Arv Z h_239 b_238 k_243 .char (0 : Int32) [] (.int 0) := Arv.pad K_242 (pad_rep [] (.int 0) 0)
      have F_245 : Fld Z h_239 b_230 "java/lang/String" "value" "[B" .null := (Fld.ext E_240 F_236)
      have F_246 : Fld Z h_239 b_230 "java/lang/String" "coder" "B" (.int (0 : Int32)) := (Fld.ext E_240 F_237)
      have A_247 : Exa Z h_239 b_230 "java/lang/String" := (Exa.ext E_240 A_233)
      refine r_specialW (y := (⟨"java/lang/String", "<init>", "([C)V"⟩ : MethodName)) (argsL := [(.ref b_238)]) (rest := [(.ref b_230)]) (W := 1) (kc := 4) (ks := 8) (wl := [b_230]) rfl at_74 rfl rfl (wd9 hw) (wd10 hw) (wd11 hw) (by decide) (lenOf pd_18 rfl) rfl rfl (Nat.le_of_ble_eq_true rfl) (Ok.paysW (ok_i1 hw b_230 b_238 A_247 F_245 F_246  geb_230 K_244) (wd11 hw) (wd8 hw) (by decide) (by decide)) (by simp) (fun v h' q => q.2.1) (allS geb_230 all0) (by decide) (by decide) ?_
      rintro _ h_251 ⟨rfl, KK_248, ⟨tt_249, SS_250⟩⟩
      refine Run.forget (My' := [b_238, b_230, b_5]) (by simp [refs]) ?_
      refine Run.cast (st' := [(.ref b_230)]) rfl ?_
      have szh_251 := KK_248.1
      have lt_252 : @LT.lt Nat instLTNat b_230 (Array.size h_251) := (Str.lt SS_250)
      have lt_253 : @LT.lt Nat instLTNat tt_249 (Array.size h_251) := (Str.ltB SS_250)
      refine r_astore (l' := #[.val (.int p0), .val (.int p1), .val (.int p2), .val (.int p3), .val (.int p4), .val (.int n), .val (.int c0), .val (.int c1), .val (.int c2), .val (.int c3), .val (.ref b_5), .val (.ref b_230), .unset, .unset, .unset, .unset]) at_77 rfl rfl rfl ?_
      refine r_goto (pc' := 207) at_79 rfl ?_
      exact Run.spend (by decide) (by decide) (Run.forget (by simp) (J_29 (b_230, tt_249) h_251 ⟨(Keep.trans (Keep.ext (Keep.ext (Keep.refl _ _) E_232) E_240) KK_248 (allS (Or.inr (by omega)) all0)), by rw [mk5, if_pos c_78]; exact SS_250⟩))
set_option maxRecDepth 65536 in
set_option maxHeartbeats 40000000 in
theorem comes_1 {Post : Tables → Env → Array Value → State → Outcome → State → Prop} (hpost : ∀ tb e args s v u, (limb_1_1.after args s (.returned v) u = true ∧ limb_1_2.after args s (.returned v) u = true ∧ True) → Jvm.D.FramedW s (.returned v) u (Jvm.fieldLocs frame_1_writes args s ++ Jvm.arrayLocs frame_1_arrays args s ++ Jvm.staticLocs frame_1_statics s) 24 2176 → Post tb e args s (.returned v) u) :
    ArmFor flags0 classFile x code maxLocals ret World_1 tables_1 room_1 Calls_1 rest_1 Pre_1 Post := by
  intro l hfl _ _ p e ha hc hk s m args below hf hA hF happ hP
  obtain ⟨hcalls, hrest, hpre⟩ := hP
  obtain ⟨-, -, -, hnamed, -, -, -, hat⟩ := (Spec.applies_iff hf).mp happ
  obtain ⟨hg, hn⟩ := and_e (Cond.before_iff.mp (show (Jvm.Cond.and given_1 narrow_1).before args s = true from hpre))
  obtain ⟨gc, gr0⟩ := and_e hg
  obtain ⟨ga0, gr1⟩ := and_e gr0
  obtain ⟨ga1, gr2⟩ := and_e gr1
  obtain ⟨ga2, gr3⟩ := and_e gr2
  obtain ⟨ga3, gr4⟩ := and_e gr3
  obtain ⟨w0, w1, w2, w3, w4, rfl⟩ : ∃ w0 w1 w2 w3 w4 : Value, args = #[w0, w1, w2, w3, w4] := by
    have hs : args.size = 5 := by simpa [Cond.value, given_1] using gc
    obtain ⟨L⟩ := args
    match L, hs with
    | [w0, w1, w2, w3, w4], _ => exact ⟨w0, w1, w2, w3, w4, rfl⟩
  have hw := fun d (hd : d ∈ tables_1) => atoms_spec (ws := Jvm.Cond.code x code maxLocals ret :: tables_1) hat d (List.mem_cons_of_mem _ hd)
  have hfit : Fit s := fun {y c} hc i hi => by
    obtain ⟨ha, rfl⟩ := Array.getElem?_eq_some_iff.mp hc
    have q := List.all_eq_true.mp ((Array.all_eq_true_iff_forall_mem.mp hF) _ (Array.getElem_mem ha)) i (List.mem_range.mpr hi)
    simpa [Array.getElem?_eq_getElem hi] using q
  obtain ⟨hsets, hown0⟩ := atoms_of _ (rest_1_c_eq ▸ (show rest_1_c.before _ s = true from hrest))
  obtain ⟨i0, ei0⟩ := is_v ga0
  obtain rfl : w0 = (.int i0) := Option.some.inj ei0
  obtain ⟨i1, ei1⟩ := is_v ga1
  obtain rfl : w1 = (.int i1) := Option.some.inj ei1
  obtain ⟨i2, ei2⟩ := is_v ga2
  obtain rfl : w2 = (.int i2) := Option.some.inj ei2
  obtain ⟨i3, ei3⟩ := is_v ga3
  obtain rfl : w3 = (.int i3) := Option.some.inj ei3
  obtain ⟨i4, ei4⟩ := is_v gr4
  obtain rfl : w4 = (.int i4) := Option.some.inj ei4
  have n5 := not_v (Cond.before_iff.mp (hsets _ (List.mem_of_getElem? (i := 2) rfl)))
  obtain ⟨zC, eC⟩ := is_v (Cond.before_iff.mp (hsets _ (List.mem_of_getElem? (i := 1) rfl)))
  have SC : Sta s s.heap "java/lang/String" "COMPACT_STRINGS" "Z" (.int zC) := Sta.start eC (Or.inl (hsets _ (List.mem_of_getElem? (i := 0) rfl)))
  have nC : ¬ (zC = (0 : Int32)) := gotF (Cond.eq_ints eC (Term.int_eval (0))) n5
  obtain ⟨vF, eF, rF⟩ := isR_v (Cond.before_iff.mp (hsets _ (List.mem_of_getElem? (i := 8) rfl)))
  have SF : Sta s s.heap "jdk/internal/util/Preconditions" "SIOOBE_FORMATTER" "Ljava/util/function/BiFunction;" vF := Sta.start eF (Or.inl (hsets _ (List.mem_of_getElem? (i := 7) rfl)))
  obtain ⟨n, o, h1, h2, h3, v, L, rfl, rfl, N, hE⟩ := (ok_law hw i0 i1 i2 i3 i4 SC nC SF rF) tables_1 p e ha hc hk s m _ below hf ((Spec.applies_iff_loose hf).mp happ).1 ⟨rfl, State.Warmed39.refl s, rfl, Old.start s, fun _ => by
    have hEW : EW s _ consts_1 := (EW.cons (wd19 hw) (by decide) (EW.cons (wd106 hw) (by decide) EW.nil))
    exact ⟨⟨_, hEW⟩, CHv.start hEW (fun p hp => hcalls.1 p hp) (hsets _ (List.mem_of_getElem? (i := 2) rfl)) (wd20 hw) (wd7 hw), fun x hx => nomatch hx⟩⟩ trivial
  have hq := (hE.2 rfl).1
  exact ⟨n, _, h1, h2, h3, hpost _ _ _ _ _ _ ⟨Cond.after_iff.mpr rfl, Cond.after_iff.mpr (eq_i res_at (Term.int_eval (1)) rfl), trivial⟩ ⟨hq.1, hq.2.1, hq.2.2.1, (hq.2.2.2.sift fun y hy => Or.inr (N y hy)).mono (by decide) (by decide)⟩⟩
theorem main_1_1 : Claimed_1_1 := comes_1 fun _ _ _ _ _ _ h hF => ⟨h.1, hF⟩
theorem main_1_2 : Claimed_1_2 := comes_1 fun _ _ _ _ _ _ h hF => ⟨h.2.1, hF⟩
end Jvm.Pilot.@@N@@
namespace Jvm.Pilot.@@N@@
open Jvm Jvm.ClassFile Sem Op Lib Jvm.Free Jvm.Stand Jvm.Pilot.@@N@@.Jvm.D
/-! MADE BY PROGRAM (witnessworld.py) out of the Statement's table words and the real class files: 23 classes; the members and pool entries that the words name. The judged class is class 1, her method 3. -/
namespace start1
open Jvm.ClassFile
def u (s : String) : CpInfo := .utf8 (stringToUtf16 s)
/-- a pool by its gaps: so many unusable entries, then the entry; so many at the end -/
def gap : Nat → List CpInfo → List CpInfo
  | 0, r => r
  | n + 1, r => .unusable :: gap n r
def poolList (es : List (Nat × CpInfo)) (last : Nat) : List CpInfo := es.foldr (fun e r => gap e.1 (e.2 :: r)) (gap last [])
def pool (es : List (Nat × CpInfo)) (last : Nat) : Array CpInfo := ⟨poolList es last⟩
def fileOf (pool : Array CpInfo) (this : Nat) (attrs : Array Attribute := #[]) (ms : Array MethodInfo := #[]) (fl : Nat := 33) (sup : Nat := 0) (ifs : Array Nat := #[]) (fds : Array FieldInfo := #[]) : ClassFile where
  minorVersion := 0
  majorVersion := 65
  constantPool := pool
  accessFlags := fl
  thisClass := this
  superClass := sup
  interfaces := ifs
  fields := fds
  methods := ms
  attributes := attrs
def plain (name : String) (sup : Option ClassId) : Class where
  name := name
  kind := .ordinary
  loader := none
  accessFlags := 33
  super := sup
  interfaces := #[]
  cf := none
  fields := #[]
  methods := #[]
  instanceTypes := #[]
  staticTypes := #[]
  resolved := #[]
  callSites := []
  init := .initialized
  statics := none
  mirror := none

def pool0 : Array CpInfo := pool [(5, u "<init>"), (0, u "()V"), (1, .class_ 10), (1, u "java/lang/Object")] 113

def k0c0 : Code := { maxStack := 0, maxLocals := 1, code := object_method_1_code, exceptionTable := #[], attributes := #[] }
def k0m0 : Method := { name := "<init>", desc := "()V", sig := { parameters := [], returnType := none }, accessFlags := 1, code := some k0c0 }
/-- java/lang/Object -/
def k0 : Class := { plain "java/lang/Object" none with
  accessFlags := 33
  interfaces := #[]
  cf := some (fileOf pool0 8 #[] #[{ accessFlags := 1, nameIndex := 5, descriptorIndex := 6, attributes := #[] }] 33 0 #[] #[])
  fields := #[]
  methods := #[k0m0]
  instanceTypes := #[]
  staticTypes := #[]
  resolved := Array.replicate 124 none
  statics := none }

def pool1 : Array CpInfo := pool [(2, .class_ 4), (1, u "java/lang/Object"), (0, u "<init>"), (0, u "()V"), (0, .integer 2147483647), (0, .methodref 9 10), (0, .class_ 11), (0, .nameAndType 12 13), (0, u "com/example/shomer/shomer/engine/NamesLocalNamePinLaw"), (0, u "draw"), (0, u "(I)C"), (0, .class_ 15), (0, u "java/lang/String"), (0, .methodref 14 17), (0, .nameAndType 5 18), (0, u "([C)V"), (0, .methodref 9 20), (0, .nameAndType 21 22), (0, u "isSep"), (0, u "(C)Z"), (0, .methodref 24 25), (0, .class_ 26), (0, .nameAndType 27 28), (0, u "com/example/shomer/shomer/engine/Names"), (0, u "localName"), (0, u "(Ljava/lang/String;)Ljava/lang/String;"), (0, .methodref 14 30), (0, .nameAndType 31 32), (0, u "length"), (0, u "()I"), (0, .methodref 14 34), (0, .nameAndType 35 13), (0, u "charAt"), (3, u "law"), (0, u "(IIIII)Z")] 4

def k1m0 : Method := { name := "<init>", desc := "()V", sig := { parameters := [], returnType := none }, accessFlags := 2, code := none }
def k1c1 : Code := { maxStack := 2, maxLocals := 2, code := method_2_code, exceptionTable := #[], attributes := #[] }
def k1m1 : Method := { name := "draw", desc := "(I)C", sig := { parameters := [.int], returnType := some .char }, accessFlags := 10, code := some k1c1 }
def k1c2 : Code := { maxStack := 2, maxLocals := 1, code := method_3_code, exceptionTable := #[], attributes := #[] }
def k1m2 : Method := { name := "isSep", desc := "(C)Z", sig := { parameters := [.char], returnType := some .boolean }, accessFlags := 10, code := some k1c2 }
def k1c3 : Code := { maxStack := 6, maxLocals := 16, code := code, exceptionTable := #[], attributes := #[] }
def k1m3 : Method := { name := "law", desc := "(IIIII)Z", sig := { parameters := [.int, .int, .int, .int, .int], returnType := some .boolean }, accessFlags := 9, code := some k1c3 }
/-- com/example/shomer/shomer/engine/NamesLocalNamePinLaw -/
def k1 : Class := { plain "com/example/shomer/shomer/engine/NamesLocalNamePinLaw" (some 0) with
  accessFlags := 49
  interfaces := #[]
  cf := some (fileOf pool1 9 #[] #[{ accessFlags := 2, nameIndex := 5, descriptorIndex := 6, attributes := #[] }, { accessFlags := 10, nameIndex := 12, descriptorIndex := 13, attributes := #[] }, { accessFlags := 10, nameIndex := 21, descriptorIndex := 22, attributes := #[] }, { accessFlags := 9, nameIndex := 39, descriptorIndex := 40, attributes := #[] }] 49 2 #[] #[])
  fields := #[]
  methods := #[k1m0, k1m1, k1m2, k1m3]
  instanceTypes := #[]
  staticTypes := #[]
  resolved := Array.replicate 45 none
  statics := none }

def pool2 : Array CpInfo := pool [(1, .class_ 2), (0, u "java/io/Serializable"), (0, .class_ 4), (0, u "java/lang/Object")] 2

/-- java/io/Serializable -/
def k2 : Class := { plain "java/io/Serializable" (some 0) with
  accessFlags := 1537
  interfaces := #[]
  cf := some (fileOf pool2 1 #[] #[] 1537 3 #[] #[])
  fields := #[]
  methods := #[]
  instanceTypes := #[]
  staticTypes := #[]
  resolved := Array.replicate 7 none
  statics := none }

def pool3 : Array CpInfo := pool [(1, .class_ 2), (0, u "java/lang/Comparable"), (0, .class_ 4), (0, u "java/lang/Object")] 7

/-- java/lang/Comparable -/
def k3 : Class := { plain "java/lang/Comparable" (some 0) with
  accessFlags := 1537
  interfaces := #[]
  cf := some (fileOf pool3 1 #[] #[] 1537 3 #[] #[])
  fields := #[]
  methods := #[]
  instanceTypes := #[]
  staticTypes := #[]
  resolved := Array.replicate 12 none
  statics := none }

def pool4 : Array CpInfo := pool [(2, .class_ 4), (1, u "java/lang/CharSequence"), (42, .class_ 48), (0, u "java/lang/CharSequence$1CodePointIterator"), (10, .class_ 60), (0, u "java/lang/CharSequence$1CharIterator"), (5, .class_ 67), (0, u "java/lang/Object")] 63

/-- java/lang/CharSequence -/
def k4 : Class := { plain "java/lang/CharSequence" (some 0) with
  accessFlags := 1537
  interfaces := #[]
  cf := some (fileOf pool4 2 #[.nestMembers #[47, 59]] #[] 1537 66 #[] #[])
  fields := #[]
  methods := #[]
  instanceTypes := #[]
  staticTypes := #[]
  resolved := Array.replicate 131 none
  statics := none }

def pool5 : Array CpInfo := pool [(1, .class_ 2), (0, u "java/lang/constant/Constable"), (0, .class_ 4), (0, u "java/lang/Object")] 6

/-- java/lang/constant/Constable -/
def k5 : Class := { plain "java/lang/constant/Constable" (some 0) with
  accessFlags := 1537
  interfaces := #[]
  cf := some (fileOf pool5 1 #[] #[] 1537 3 #[] #[])
  fields := #[]
  methods := #[]
  instanceTypes := #[]
  staticTypes := #[]
  resolved := Array.replicate 11 none
  statics := none }

def pool6 : Array CpInfo := pool [(1, .class_ 2), (0, u "java/lang/constant/ConstantDesc"), (0, .class_ 4), (0, u "java/lang/Object")] 32

/-- java/lang/constant/ConstantDesc -/
def k6 : Class := { plain "java/lang/constant/ConstantDesc" (some 0) with
  accessFlags := 1537
  interfaces := #[]
  cf := some (fileOf pool6 1 #[] #[] 1537 3 #[] #[])
  fields := #[]
  methods := #[]
  instanceTypes := #[]
  staticTypes := #[]
  resolved := Array.replicate 37 none
  statics := none }

def pool7 : Array CpInfo := pool [(1, .methodref 2 3), (0, .class_ 4), (0, .nameAndType 5 6), (0, u "java/lang/Object"), (0, u "<init>"), (0, u "()V"), (0, .string 8), (0, u ""), (0, .fieldref 10 11), (0, .class_ 12), (0, .nameAndType 13 14), (0, u "java/lang/String"), (0, u "value"), (0, u "[B"), (0, .fieldref 10 16), (0, .nameAndType 17 18), (0, u "coder"), (0, u "B"), (2, u "hash"), (0, u "I"), (2, u "hashIsZero"), (0, u "Z"), (0, .methodref 10 28), (0, .nameAndType 5 29), (0, u "([CIILjava/lang/Void;)V"), (8, .fieldref 10 39), (0, .nameAndType 40 26), (0, u "COMPACT_STRINGS"), (1, .class_ 44), (1, u "java/lang/StringUTF16"), (0, u "compress"), (1, .methodref 42 48), (0, .nameAndType 49 50), (0, u "coderFromArrayLen"), (0, u "([BI)B"), (46, u "([BII)I"), (9, .class_ 109), (1, u "java/lang/StringLatin1"), (32, u "()Z"), (34, .methodref 42 178), (0, .nameAndType 45 179), (0, u "([CII)[B"), (31, u "([BB)V"), (122, u "()I"), (0, .methodref 10 336), (0, .nameAndType 17 337), (0, u "()B"), (25, u "([BI)C"), (27, u "(II)V"), (35, u "(I)C"), (64, .methodref 10 493), (0, .nameAndType 494 142), (0, u "isLatin1"), (0, .methodref 107 496), (0, .nameAndType 497 363), (0, u "charAt"), (3, u "checkIndex"), (3, .methodref 10 506), (0, .nameAndType 507 334), (0, u "length"), (5, u "checkFromToIndex"), (7, .methodref 10 522), (0, .nameAndType 523 524), (0, u "checkBoundsBeginEnd"), (0, u "(III)V"), (50, .class_ 576), (0, u "java/lang/CharSequence"), (22, u "CASE_INSENSITIVE_ORDER"), (0, u "Ljava/util/Comparator;"), (35, u "(II)I"), (4, .methodref 10 642), (0, .nameAndType 643 636), (0, u "lastIndexOf"), (0, .methodref 107 645), (0, .nameAndType 643 97), (35, .methodref 10 682), (0, .nameAndType 683 684), (0, u "substring"), (0, u "(II)Ljava/lang/String;"), (0, .methodref 107 686), (0, .nameAndType 687 688), (0, u "newString"), (0, u "([BII)Ljava/lang/String;"), (76, u "(I)I"), (126, u "(I)Ljava/lang/String;"), (117, u "([C)V"), (42, .fieldref 1054 1055), (0, .class_ 1056), (0, .nameAndType 1057 1058), (0, u "jdk/internal/util/Preconditions"), (0, u "SIOOBE_FORMATTER"), (0, u "Ljava/util/function/BiFunction;"), (0, .methodref 1054 1060), (0, .nameAndType 501 1061), (0, u "(IILjava/util/function/BiFunction;)I"), (0, .methodref 1054 1063), (0, .nameAndType 513 1064), (0, u "(IIILjava/util/function/BiFunction;)I"), (36, u "serialPersistentFields"), (0, u "[Ljava/io/ObjectStreamField;"), (0, .class_ 1104), (0, u "java/lang/String$CaseInsensitiveComparator"), (1, .class_ 1107), (0, u "java/io/Serializable"), (0, .class_ 1109), (0, u "java/lang/Comparable"), (0, .class_ 1111), (0, u "java/lang/constant/Constable"), (0, .class_ 1113), (0, u "java/lang/constant/ConstantDesc"), (2, u "serialVersionUID"), (0, u "J"), (3, u "REPL"), (0, u "C"), (2, u "LATIN1"), (1, u "UTF16")] 323

def k7m0 : Method := { name := "<init>", desc := "()V", sig := { parameters := [], returnType := none }, accessFlags := 1, code := none }
def k7c1 : Code := { maxStack := 5, maxLocals := 2, code := jdk_42_method_3_code, exceptionTable := #[], attributes := #[] }
def k7m1 : Method := { name := "<init>", desc := "([C)V", sig := { parameters := [(.array .char)], returnType := none }, accessFlags := 1, code := some k7c1 }
def k7c2 : Code := { maxStack := 2, maxLocals := 1, code := jdk_42_method_54_code, exceptionTable := #[], attributes := #[] }
def k7m2 : Method := { name := "length", desc := "()I", sig := { parameters := [], returnType := some .int }, accessFlags := 1, code := some k7c2 }
def k7c3 : Code := { maxStack := 2, maxLocals := 2, code := jdk_42_method_56_code, exceptionTable := #[], attributes := #[] }
def k7m3 : Method := { name := "charAt", desc := "(I)C", sig := { parameters := [.int], returnType := some .char }, accessFlags := 1, code := some k7c3 }
def k7c4 : Code := { maxStack := 4, maxLocals := 2, code := jdk_42_method_82_code, exceptionTable := #[], attributes := #[] }
def k7m4 : Method := { name := "lastIndexOf", desc := "(I)I", sig := { parameters := [.int], returnType := some .int }, accessFlags := 1, code := some k7c4 }
def k7c5 : Code := { maxStack := 3, maxLocals := 3, code := jdk_42_method_83_code, exceptionTable := #[], attributes := #[] }
def k7m5 : Method := { name := "lastIndexOf", desc := "(II)I", sig := { parameters := [.int, .int], returnType := some .int }, accessFlags := 1, code := some k7c5 }
def k7c6 : Code := { maxStack := 3, maxLocals := 2, code := jdk_42_method_91_code, exceptionTable := #[], attributes := #[] }
def k7m6 : Method := { name := "substring", desc := "(I)Ljava/lang/String;", sig := { parameters := [.int], returnType := some (.object "java/lang/String") }, accessFlags := 1, code := some k7c6 }
def k7c7 : Code := { maxStack := 3, maxLocals := 5, code := jdk_42_method_92_code, exceptionTable := #[], attributes := #[] }
def k7m7 : Method := { name := "substring", desc := "(II)Ljava/lang/String;", sig := { parameters := [.int, .int], returnType := some (.object "java/lang/String") }, accessFlags := 1, code := some k7c7 }
def k7c8 : Code := { maxStack := 4, maxLocals := 6, code := jdk_42_method_149_code, exceptionTable := #[], attributes := #[] }
def k7m8 : Method := { name := "<init>", desc := "([CIILjava/lang/Void;)V", sig := { parameters := [(.array .char), .int, .int, (.object "java/lang/Void")], returnType := none }, accessFlags := 2, code := some k7c8 }
def k7c9 : Code := { maxStack := 2, maxLocals := 3, code := jdk_42_method_151_code, exceptionTable := #[], attributes := #[] }
def k7m9 : Method := { name := "<init>", desc := "([BB)V", sig := { parameters := [(.array .byte), .byte], returnType := none }, accessFlags := 0, code := some k7c9 }
def k7c10 : Code := { maxStack := 1, maxLocals := 1, code := jdk_42_method_152_code, exceptionTable := #[], attributes := #[] }
def k7m10 : Method := { name := "coder", desc := "()B", sig := { parameters := [], returnType := some .byte }, accessFlags := 0, code := some k7c10 }
def k7c11 : Code := { maxStack := 1, maxLocals := 1, code := jdk_42_method_154_code, exceptionTable := #[], attributes := #[] }
def k7m11 : Method := { name := "isLatin1", desc := "()Z", sig := { parameters := [], returnType := some .boolean }, accessFlags := 0, code := some k7c11 }
def k7c12 : Code := { maxStack := 3, maxLocals := 2, code := jdk_42_method_155_code, exceptionTable := #[], attributes := #[] }
def k7m12 : Method := { name := "checkIndex", desc := "(II)V", sig := { parameters := [.int, .int], returnType := none }, accessFlags := 8, code := some k7c12 }
def k7c13 : Code := { maxStack := 4, maxLocals := 3, code := jdk_42_method_158_code, exceptionTable := #[], attributes := #[] }
def k7m13 : Method := { name := "checkBoundsBeginEnd", desc := "(III)V", sig := { parameters := [.int, .int, .int], returnType := none }, accessFlags := 8, code := some k7c13 }
/-- java/lang/String -/
def k7 : Class := { plain "java/lang/String" (some 0) with
  accessFlags := 49
  interfaces := #[2, 3, 4, 5, 6]
  cf := some (fileOf pool7 10 #[.nestMembers #[1103]] #[{ accessFlags := 1, nameIndex := 5, descriptorIndex := 6, attributes := #[] }, { accessFlags := 1, nameIndex := 5, descriptorIndex := 1010, attributes := #[] }, { accessFlags := 1, nameIndex := 507, descriptorIndex := 334, attributes := #[] }, { accessFlags := 1, nameIndex := 497, descriptorIndex := 427, attributes := #[] }, { accessFlags := 1, nameIndex := 643, descriptorIndex := 765, attributes := #[] }, { accessFlags := 1, nameIndex := 643, descriptorIndex := 636, attributes := #[] }, { accessFlags := 1, nameIndex := 683, descriptorIndex := 892, attributes := #[] }, { accessFlags := 1, nameIndex := 683, descriptorIndex := 684, attributes := #[] }, { accessFlags := 2, nameIndex := 5, descriptorIndex := 29, attributes := #[] }, { accessFlags := 0, nameIndex := 5, descriptorIndex := 211, attributes := #[] }, { accessFlags := 0, nameIndex := 17, descriptorIndex := 337, attributes := #[] }, { accessFlags := 0, nameIndex := 494, descriptorIndex := 142, attributes := #[] }, { accessFlags := 8, nameIndex := 501, descriptorIndex := 391, attributes := #[] }, { accessFlags := 8, nameIndex := 523, descriptorIndex := 524, attributes := #[] }] 49 2 #[1106, 1108, 575, 1110, 1112] #[{ accessFlags := 18, nameIndex := 13, descriptorIndex := 14, attributes := #[] }, { accessFlags := 18, nameIndex := 17, descriptorIndex := 18, attributes := #[] }, { accessFlags := 2, nameIndex := 21, descriptorIndex := 22, attributes := #[] }, { accessFlags := 2, nameIndex := 25, descriptorIndex := 26, attributes := #[] }, { accessFlags := 26, nameIndex := 1116, descriptorIndex := 1117, attributes := #[] }, { accessFlags := 24, nameIndex := 40, descriptorIndex := 26, attributes := #[] }, { accessFlags := 26, nameIndex := 1101, descriptorIndex := 1102, attributes := #[] }, { accessFlags := 26, nameIndex := 1121, descriptorIndex := 1122, attributes := #[] }, { accessFlags := 25, nameIndex := 599, descriptorIndex := 600, attributes := #[] }, { accessFlags := 24, nameIndex := 1125, descriptorIndex := 18, attributes := #[] }, { accessFlags := 24, nameIndex := 1127, descriptorIndex := 18, attributes := #[] }])
  fields := #[{ name := "value", type := (.array .byte), accessFlags := 18, slot := 0, constantValue := 0 }, { name := "coder", type := .byte, accessFlags := 18, slot := 1, constantValue := 0 }, { name := "hash", type := .int, accessFlags := 2, slot := 2, constantValue := 0 }, { name := "hashIsZero", type := .boolean, accessFlags := 2, slot := 3, constantValue := 0 }, { name := "serialVersionUID", type := .long, accessFlags := 26, slot := 0, constantValue := 0 }, { name := "COMPACT_STRINGS", type := .boolean, accessFlags := 24, slot := 1, constantValue := 0 }, { name := "serialPersistentFields", type := (.array (.object "java/io/ObjectStreamField")), accessFlags := 26, slot := 2, constantValue := 0 }, { name := "REPL", type := .char, accessFlags := 26, slot := 3, constantValue := 0 }, { name := "CASE_INSENSITIVE_ORDER", type := (.object "java/util/Comparator"), accessFlags := 25, slot := 4, constantValue := 0 }, { name := "LATIN1", type := .byte, accessFlags := 24, slot := 5, constantValue := 0 }, { name := "UTF16", type := .byte, accessFlags := 24, slot := 6, constantValue := 0 }]
  methods := #[k7m0, k7m1, k7m2, k7m3, k7m4, k7m5, k7m6, k7m7, k7m8, k7m9, k7m10, k7m11, k7m12, k7m13]
  instanceTypes := #[(.array .byte), .byte, .int, .boolean]
  staticTypes := #[.long, .boolean, (.array (.object "java/io/ObjectStreamField")), .char, (.object "java/util/Comparator"), .byte, .byte]
  resolved := Array.replicate 1451 none
  statics := some 0 }

def pool8 : Array CpInfo := pool [(2, .class_ 4), (1, u "java/lang/Object"), (0, u "<init>"), (0, u "()V"), (0, .methodref 8 9), (0, .class_ 10), (0, .nameAndType 11 12), (0, u "java/lang/String"), (0, u "lastIndexOf"), (0, u "(I)I"), (0, .methodref 14 15), (0, .class_ 16), (0, .nameAndType 17 18), (0, u "java/lang/Math"), (0, u "max"), (0, u "(II)I"), (0, .methodref 8 20), (0, .nameAndType 21 22), (0, u "substring"), (0, u "(I)Ljava/lang/String;"), (66, .class_ 91), (1, u "com/example/shomer/shomer/engine/Names"), (0, u "BYTE_ORDER"), (0, u "Ljava/util/Comparator;"), (4, u "localName"), (0, u "(Ljava/lang/String;)Ljava/lang/String;")] 40

def k8m0 : Method := { name := "<init>", desc := "()V", sig := { parameters := [], returnType := none }, accessFlags := 2, code := none }
def k8c1 : Code := { maxStack := 3, maxLocals := 2, code := prog_7_method_2_code, exceptionTable := #[], attributes := #[] }
def k8m1 : Method := { name := "localName", desc := "(Ljava/lang/String;)Ljava/lang/String;", sig := { parameters := [(.object "java/lang/String")], returnType := some (.object "java/lang/String") }, accessFlags := 9, code := some k8c1 }
/-- com/example/shomer/shomer/engine/Names -/
def k8 : Class := { plain "com/example/shomer/shomer/engine/Names" (some 0) with
  accessFlags := 49
  interfaces := #[]
  cf := some (fileOf pool8 89 #[] #[{ accessFlags := 2, nameIndex := 5, descriptorIndex := 6, attributes := #[] }, { accessFlags := 9, nameIndex := 98, descriptorIndex := 99, attributes := #[] }] 49 2 #[] #[{ accessFlags := 25, nameIndex := 92, descriptorIndex := 93, attributes := #[] }])
  fields := #[{ name := "BYTE_ORDER", type := (.object "java/util/Comparator"), accessFlags := 25, slot := 0, constantValue := 0 }]
  methods := #[k8m0, k8m1]
  instanceTypes := #[]
  staticTypes := #[(.object "java/util/Comparator")]
  resolved := Array.replicate 140 none
  statics := none }

def pool9 : Array CpInfo := pool [(1, .class_ 2), (0, u "java/lang/String"), (1, .class_ 6), (1, u "java/lang/Object"), (0, u "<init>"), (0, u "()V"), (0, .methodref 1 10), (0, .nameAndType 11 12), (0, u "checkIndex"), (0, u "(II)V"), (1, .class_ 16), (1, u "java/lang/StringLatin1"), (21, .methodref 39 40), (0, .class_ 41), (0, .nameAndType 42 43), (0, u "java/lang/Math"), (0, u "min"), (0, u "(II)I"), (9, u "([BI)C"), (34, .methodref 14 89), (0, .nameAndType 90 91), (0, u "canEncode"), (0, u "(I)Z"), (20, .methodref 1 113), (0, .nameAndType 7 114), (0, u "([BB)V"), (6, u "$assertionsDisabled"), (0, u "Z"), (8, .class_ 133), (1, u "java/util/Arrays"), (17, .string 152), (0, u ""), (43, u "newString"), (0, u "([BII)Ljava/lang/String;"), (23, .class_ 223), (1, u "java/lang/StringLatin1$LinesSpliterator"), (8, .methodref 131 233), (0, .nameAndType 234 235), (0, u "copyOfRange"), (0, u "([BII)[B"), (16, u "charAt"), (8, u "([BII)I"), (47, u "lastIndexOf"), (80, .class_ 391), (0, u "java/lang/StringLatin1$CharsSpliterator")] 3

def k9m0 : Method := { name := "<init>", desc := "()V", sig := { parameters := [], returnType := none }, accessFlags := 0, code := none }
def k9c1 : Code := { maxStack := 2, maxLocals := 2, code := jdk_43_method_2_code, exceptionTable := #[], attributes := #[] }
def k9m1 : Method := { name := "charAt", desc := "([BI)C", sig := { parameters := [(.array .byte), .int], returnType := some .char }, accessFlags := 9, code := some k9c1 }
def k9c2 : Code := { maxStack := 2, maxLocals := 1, code := jdk_43_method_4_code, exceptionTable := #[], attributes := #[] }
def k9m2 : Method := { name := "canEncode", desc := "(I)Z", sig := { parameters := [.int], returnType := some .boolean }, accessFlags := 9, code := some k9c2 }
def k9c3 : Code := { maxStack := 3, maxLocals := 4, code := jdk_43_method_27_code, exceptionTable := #[], attributes := #[] }
def k9m3 : Method := { name := "lastIndexOf", desc := "([BII)I", sig := { parameters := [(.array .byte), .int, .int], returnType := some .int }, accessFlags := 9, code := some k9c3 }
def k9c4 : Code := { maxStack := 6, maxLocals := 3, code := jdk_43_method_47_code, exceptionTable := #[], attributes := #[] }
def k9m4 : Method := { name := "newString", desc := "([BII)Ljava/lang/String;", sig := { parameters := [(.array .byte), .int, .int], returnType := some (.object "java/lang/String") }, accessFlags := 9, code := some k9c4 }
/-- java/lang/StringLatin1 -/
def k9 : Class := { plain "java/lang/StringLatin1" (some 0) with
  accessFlags := 48
  interfaces := #[]
  cf := some (fileOf pool9 14 #[.nestMembers #[390, 221]] #[{ accessFlags := 0, nameIndex := 7, descriptorIndex := 8, attributes := #[] }, { accessFlags := 9, nameIndex := 252, descriptorIndex := 53, attributes := #[] }, { accessFlags := 9, nameIndex := 90, descriptorIndex := 91, attributes := #[] }, { accessFlags := 9, nameIndex := 309, descriptorIndex := 261, attributes := #[] }, { accessFlags := 9, nameIndex := 196, descriptorIndex := 197, attributes := #[] }] 48 4 #[] #[{ accessFlags := 4120, nameIndex := 121, descriptorIndex := 122, attributes := #[] }])
  fields := #[{ name := "$assertionsDisabled", type := .boolean, accessFlags := 4120, slot := 0, constantValue := 0 }]
  methods := #[k9m0, k9m1, k9m2, k9m3, k9m4]
  instanceTypes := #[]
  staticTypes := #[.boolean]
  resolved := Array.replicate 395 none
  statics := none }

def pool10 : Array CpInfo := pool [(1, .class_ 2), (0, u "java/lang/Math"), (1, .class_ 6), (1, u "java/lang/Object"), (0, u "<init>"), (0, u "()V"), (89, .class_ 100), (1, u "java/lang/Math$RandomNumberGeneratorHolder"), (71, u "negativeZeroFloatBits"), (0, u "J"), (2, u "negativeZeroDoubleBits"), (21, u "max"), (2, u "min"), (43, u "$assertionsDisabled"), (0, u "Z"), (88, u "(II)I"), (2, u "twoToTheDoubleScaleDown"), (0, u "D"), (4, u "twoToTheDoubleScaleUp"), (9, u "E"), (3, u "PI"), (2, u "TAU"), (2, u "DEGREES_TO_RADIANS"), (0, u "RADIANS_TO_DEGREES")] 94

def k10m0 : Method := { name := "<init>", desc := "()V", sig := { parameters := [], returnType := none }, accessFlags := 2, code := none }
def k10c1 : Code := { maxStack := 2, maxLocals := 2, code := jdk_29_method_65_code, exceptionTable := #[], attributes := #[] }
def k10m1 : Method := { name := "max", desc := "(II)I", sig := { parameters := [.int, .int], returnType := some .int }, accessFlags := 9, code := some k10c1 }
def k10c2 : Code := { maxStack := 2, maxLocals := 2, code := jdk_29_method_69_code, exceptionTable := #[], attributes := #[] }
def k10m2 : Method := { name := "min", desc := "(II)I", sig := { parameters := [.int, .int], returnType := some .int }, accessFlags := 9, code := some k10c2 }
/-- java/lang/Math -/
def k10 : Class := { plain "java/lang/Math" (some 0) with
  accessFlags := 49
  interfaces := #[]
  cf := some (fileOf pool10 1 #[.nestMembers #[98]] #[{ accessFlags := 2, nameIndex := 7, descriptorIndex := 8, attributes := #[] }, { accessFlags := 9, nameIndex := 198, descriptorIndex := 335, attributes := #[] }, { accessFlags := 9, nameIndex := 201, descriptorIndex := 335, attributes := #[] }] 49 4 #[] #[{ accessFlags := 25, nameIndex := 354, descriptorIndex := 339, attributes := #[] }, { accessFlags := 25, nameIndex := 358, descriptorIndex := 339, attributes := #[] }, { accessFlags := 25, nameIndex := 361, descriptorIndex := 339, attributes := #[] }, { accessFlags := 26, nameIndex := 364, descriptorIndex := 339, attributes := #[] }, { accessFlags := 26, nameIndex := 365, descriptorIndex := 339, attributes := #[] }, { accessFlags := 26, nameIndex := 172, descriptorIndex := 173, attributes := #[] }, { accessFlags := 26, nameIndex := 176, descriptorIndex := 173, attributes := #[] }, { accessFlags := 8, nameIndex := 344, descriptorIndex := 339, attributes := #[] }, { accessFlags := 8, nameIndex := 338, descriptorIndex := 339, attributes := #[] }, { accessFlags := 4120, nameIndex := 245, descriptorIndex := 246, attributes := #[] }])
  fields := #[{ name := "E", type := .double, accessFlags := 25, slot := 0, constantValue := 0 }, { name := "PI", type := .double, accessFlags := 25, slot := 1, constantValue := 0 }, { name := "TAU", type := .double, accessFlags := 25, slot := 2, constantValue := 0 }, { name := "DEGREES_TO_RADIANS", type := .double, accessFlags := 26, slot := 3, constantValue := 0 }, { name := "RADIANS_TO_DEGREES", type := .double, accessFlags := 26, slot := 4, constantValue := 0 }, { name := "negativeZeroFloatBits", type := .long, accessFlags := 26, slot := 5, constantValue := 0 }, { name := "negativeZeroDoubleBits", type := .long, accessFlags := 26, slot := 6, constantValue := 0 }, { name := "twoToTheDoubleScaleUp", type := .double, accessFlags := 8, slot := 7, constantValue := 0 }, { name := "twoToTheDoubleScaleDown", type := .double, accessFlags := 8, slot := 8, constantValue := 0 }, { name := "$assertionsDisabled", type := .boolean, accessFlags := 4120, slot := 9, constantValue := 0 }]
  methods := #[k10m0, k10m1, k10m2]
  instanceTypes := #[]
  staticTypes := #[.double, .double, .double, .double, .double, .long, .long, .double, .double, .boolean]
  resolved := Array.replicate 460 none
  statics := none }

def pool11 : Array CpInfo := pool [(2, .class_ 4), (1, u "java/lang/Object"), (0, u "<init>"), (0, u "()V"), (17, .class_ 26), (1, u "jdk/internal/util/Preconditions"), (6, u "checkIndex"), (13, u "checkFromToIndex"), (7, .class_ 56), (0, u "jdk/internal/util/Preconditions$4"), (57, .class_ 115), (0, u "jdk/internal/util/Preconditions$1"), (7, u "SIOOBE_FORMATTER"), (0, u "Ljava/util/function/BiFunction;"), (0, .class_ 126), (0, u "jdk/internal/util/Preconditions$2"), (3, u "AIOOBE_FORMATTER"), (0, .class_ 132), (0, u "jdk/internal/util/Preconditions$3"), (3, u "IOOBE_FORMATTER"), (41, u "(IILjava/util/function/BiFunction;)I"), (4, u "(IIILjava/util/function/BiFunction;)I")] 10

def k11m0 : Method := { name := "<init>", desc := "()V", sig := { parameters := [], returnType := none }, accessFlags := 1, code := none }
def k11c1 : Code := { maxStack := 3, maxLocals := 3, code := jdk_41_method_11_code, exceptionTable := #[], attributes := #[] }
def k11m1 : Method := { name := "checkIndex", desc := "(IILjava/util/function/BiFunction;)I", sig := { parameters := [.int, .int, (.object "java/util/function/BiFunction")], returnType := some .int }, accessFlags := 9, code := some k11c1 }
def k11c2 : Code := { maxStack := 4, maxLocals := 4, code := jdk_41_method_12_code, exceptionTable := #[], attributes := #[] }
def k11m2 : Method := { name := "checkFromToIndex", desc := "(IIILjava/util/function/BiFunction;)I", sig := { parameters := [.int, .int, .int, (.object "java/util/function/BiFunction")], returnType := some .int }, accessFlags := 9, code := some k11c2 }
/-- jdk/internal/util/Preconditions -/
def k11 : Class := { plain "jdk/internal/util/Preconditions" (some 0) with
  accessFlags := 33
  interfaces := #[]
  cf := some (fileOf pool11 24 #[.nestMembers #[55, 131, 125, 114]] #[{ accessFlags := 1, nameIndex := 5, descriptorIndex := 6, attributes := #[] }, { accessFlags := 9, nameIndex := 33, descriptorIndex := 178, attributes := #[] }, { accessFlags := 9, nameIndex := 47, descriptorIndex := 183, attributes := #[] }] 33 2 #[] #[{ accessFlags := 25, nameIndex := 123, descriptorIndex := 124, attributes := #[] }, { accessFlags := 25, nameIndex := 130, descriptorIndex := 124, attributes := #[] }, { accessFlags := 25, nameIndex := 136, descriptorIndex := 124, attributes := #[] }])
  fields := #[{ name := "SIOOBE_FORMATTER", type := (.object "java/util/function/BiFunction"), accessFlags := 25, slot := 0, constantValue := 0 }, { name := "AIOOBE_FORMATTER", type := (.object "java/util/function/BiFunction"), accessFlags := 25, slot := 1, constantValue := 0 }, { name := "IOOBE_FORMATTER", type := (.object "java/util/function/BiFunction"), accessFlags := 25, slot := 2, constantValue := 0 }]
  methods := #[k11m0, k11m1, k11m2]
  instanceTypes := #[]
  staticTypes := #[(.object "java/util/function/BiFunction"), (.object "java/util/function/BiFunction"), (.object "java/util/function/BiFunction")]
  resolved := Array.replicate 194 none
  statics := some 1 }

def pool12 : Array CpInfo := pool [(6, .class_ 8), (1, u "java/lang/Object"), (0, u "<init>"), (0, u "()V"), (1, .class_ 14), (1, u "java/lang/StringUTF16"), (31, u "$assertionsDisabled"), (0, u "Z"), (13, u "HI_BYTE_SHIFT"), (0, u "I"), (2, u "LO_BYTE_SHIFT"), (49, .methodref 12 116), (0, .nameAndType 117 118), (0, u "compress"), (0, u "([CI[BII)I"), (3, u "([CII)[B"), (138, u "coderFromArrayLen"), (0, u "([BI)B"), (106, .class_ 371), (1, u "java/lang/StringUTF16$LinesSpliterator"), (58, u "MAX_LENGTH"), (196, .class_ 628), (0, u "java/lang/StringUTF16$CodePointsSpliterator"), (0, .class_ 630), (0, u "java/lang/StringUTF16$CharsSpliterator")] 4

def k12m0 : Method := { name := "<init>", desc := "()V", sig := { parameters := [], returnType := none }, accessFlags := 0, code := none }
def k12c1 : Code := { maxStack := 2, maxLocals := 2, code := jdk_52_method_15_code, exceptionTable := #[], attributes := #[] }
def k12m1 : Method := { name := "coderFromArrayLen", desc := "([BI)B", sig := { parameters := [(.array .byte), .int], returnType := some .byte }, accessFlags := 8, code := some k12c1 }
def k12c2 : Code := { maxStack := 5, maxLocals := 6, code := jdk_52_method_16_code, exceptionTable := #[], attributes := #[] }
def k12m2 : Method := { name := "compress", desc := "([CII)[B", sig := { parameters := [(.array .char), .int, .int], returnType := some (.array .byte) }, accessFlags := 9, code := some k12c2 }
def k12c3 : Code := { maxStack := 3, maxLocals := 7, code := jdk_52_method_21_code, exceptionTable := #[], attributes := #[] }
def k12m3 : Method := { name := "compress", desc := "([CI[BII)I", sig := { parameters := [(.array .char), .int, (.array .byte), .int, .int], returnType := some .int }, accessFlags := 9, code := some k12c3 }
/-- java/lang/StringUTF16 -/
def k12 : Class := { plain "java/lang/StringUTF16" (some 0) with
  accessFlags := 48
  interfaces := #[]
  cf := some (fileOf pool12 12 #[.nestMembers #[627, 629, 369]] #[{ accessFlags := 0, nameIndex := 9, descriptorIndex := 10, attributes := #[] }, { accessFlags := 8, nameIndex := 261, descriptorIndex := 262, attributes := #[] }, { accessFlags := 9, nameIndex := 117, descriptorIndex := 122, attributes := #[] }, { accessFlags := 9, nameIndex := 117, descriptorIndex := 118, attributes := #[] }] 48 6 #[] #[{ accessFlags := 26, nameIndex := 61, descriptorIndex := 62, attributes := #[] }, { accessFlags := 26, nameIndex := 65, descriptorIndex := 62, attributes := #[] }, { accessFlags := 24, nameIndex := 430, descriptorIndex := 62, attributes := #[] }, { accessFlags := 4120, nameIndex := 46, descriptorIndex := 47, attributes := #[] }])
  fields := #[{ name := "HI_BYTE_SHIFT", type := .int, accessFlags := 26, slot := 0, constantValue := 0 }, { name := "LO_BYTE_SHIFT", type := .int, accessFlags := 26, slot := 1, constantValue := 0 }, { name := "MAX_LENGTH", type := .int, accessFlags := 24, slot := 2, constantValue := 0 }, { name := "$assertionsDisabled", type := .boolean, accessFlags := 4120, slot := 3, constantValue := 0 }]
  methods := #[k12m0, k12m1, k12m2, k12m3]
  instanceTypes := #[]
  staticTypes := #[.int, .int, .int, .boolean]
  resolved := Array.replicate 635 none
  statics := none }

def pool13 : Array CpInfo := pool [(2, .class_ 4), (1, u "java/lang/Object"), (0, u "<init>"), (0, u "()V"), (7, .class_ 16), (1, u "java/util/Arrays"), (57, .class_ 76), (1, u "java/util/Arrays$NaturalOrder"), (36, .class_ 115), (1, u "java/util/Arrays$LegacyMergeSort"), (1, u "Z"), (21, u "copyOfRange"), (10, .methodref 151 152), (0, .class_ 153), (0, .nameAndType 154 155), (0, u "java/lang/System"), (0, u "arraycopy"), (0, u "(Ljava/lang/Object;ILjava/lang/Object;II)V"), (148, .methodref 305 306), (0, .class_ 307), (0, .nameAndType 308 309), (0, u "java/lang/Math"), (0, u "min"), (0, u "(II)I"), (29, .methodref 14 340), (0, .nameAndType 341 342), (0, u "copyOfRangeByte"), (0, u "([BII)[B"), (0, .methodref 14 344), (0, .nameAndType 345 346), (0, u "checkLength"), (0, u "(II)V"), (28, .class_ 376), (0, u "java/util/Arrays$ArrayList"), (68, u "$assertionsDisabled"), (269, u "MIN_ARRAY_SORT_GRAN"), (0, u "I"), (2, u "INSERTIONSORT_THRESHOLD"), (255, .class_ 976), (0, u "java/util/Arrays$ArrayItr")] 52

def k13m0 : Method := { name := "<init>", desc := "()V", sig := { parameters := [], returnType := none }, accessFlags := 2, code := none }
def k13c1 : Code := { maxStack := 4, maxLocals := 2, code := jdk_65_method_131_code, exceptionTable := #[], attributes := #[] }
def k13m1 : Method := { name := "checkLength", desc := "(II)V", sig := { parameters := [.int, .int], returnType := none }, accessFlags := 10, code := some k13c1 }
def k13c2 : Code := { maxStack := 3, maxLocals := 3, code := jdk_65_method_132_code, exceptionTable := #[], attributes := #[] }
def k13m2 : Method := { name := "copyOfRange", desc := "([BII)[B", sig := { parameters := [(.array .byte), .int, .int], returnType := some (.array .byte) }, accessFlags := 9, code := some k13c2 }
def k13c3 : Code := { maxStack := 6, maxLocals := 5, code := jdk_65_method_133_code, exceptionTable := #[], attributes := #[] }
def k13m3 : Method := { name := "copyOfRangeByte", desc := "([BII)[B", sig := { parameters := [(.array .byte), .int, .int], returnType := some (.array .byte) }, accessFlags := 10, code := some k13c3 }
/-- java/util/Arrays -/
def k13 : Class := { plain "java/util/Arrays" (some 0) with
  accessFlags := 49
  interfaces := #[]
  cf := some (fileOf pool13 14 #[.nestMembers #[975, 375, 113, 74]] #[{ accessFlags := 2, nameIndex := 5, descriptorIndex := 6, attributes := #[] }, { accessFlags := 10, nameIndex := 345, descriptorIndex := 346, attributes := #[] }, { accessFlags := 9, nameIndex := 139, descriptorIndex := 342, attributes := #[] }, { accessFlags := 10, nameIndex := 341, descriptorIndex := 342, attributes := #[] }] 49 2 #[] #[{ accessFlags := 26, nameIndex := 715, descriptorIndex := 716, attributes := #[] }, { accessFlags := 26, nameIndex := 719, descriptorIndex := 716, attributes := #[] }, { accessFlags := 4120, nameIndex := 445, descriptorIndex := 117, attributes := #[] }])
  fields := #[{ name := "MIN_ARRAY_SORT_GRAN", type := .int, accessFlags := 26, slot := 0, constantValue := 0 }, { name := "INSERTIONSORT_THRESHOLD", type := .int, accessFlags := 26, slot := 1, constantValue := 0 }, { name := "$assertionsDisabled", type := .boolean, accessFlags := 4120, slot := 2, constantValue := 0 }]
  methods := #[k13m0, k13m1, k13m2, k13m3]
  instanceTypes := #[]
  staticTypes := #[.int, .int, .boolean]
  resolved := Array.replicate 1029 none
  statics := none }

def pool14 : Array CpInfo := pool [(2, .class_ 4), (1, u "java/lang/Object"), (0, u "<init>"), (0, u "()V"), (1, .class_ 10), (1, u "java/lang/System"), (0, u "allowSecurityManager"), (0, u "I"), (16, u "cons"), (0, u "Ljava/io/Console;"), (77, .class_ 110), (1, u "java/lang/System$CallersHolder"), (43, u "initialErrStream"), (0, u "Ljava/io/PrintStream;"), (19, u "security"), (0, u "Ljava/lang/SecurityManager;"), (31, .class_ 209), (0, u "java/lang/System$1"), (7, u "props"), (0, u "Ljava/util/Properties;"), (2, u "lineSeparator"), (0, u "Ljava/lang/String;"), (96, .class_ 321), (1, u "java/lang/System$LoggerFinder"), (5, .class_ 328), (0, u "java/lang/System$Logger"), (67, u "err"), (2, u "out"), (91, u "notSupportedJnuEncoding"), (15, u "in"), (17, u "initialIn"), (0, u "Ljava/io/InputStream;"), (35, u "bootLayer"), (0, u "Ljava/lang/ModuleLayer;"), (99, .class_ 664), (0, u "java/lang/System$2"), (9, u "NEVER"), (2, u "MAYBE"), (49, u "arraycopy"), (0, u "(Ljava/lang/Object;ILjava/lang/Object;II)V"), (72, .class_ 802), (0, u "java/lang/System$Logger$Level")] 31

def k14m0 : Method := { name := "<init>", desc := "()V", sig := { parameters := [], returnType := none }, accessFlags := 2, code := none }
def k14m1 : Method := { name := "arraycopy", desc := "(Ljava/lang/Object;ILjava/lang/Object;II)V", sig := { parameters := [(.object "java/lang/Object"), .int, (.object "java/lang/Object"), .int, .int], returnType := none }, accessFlags := 265, code := none }
/-- java/lang/System -/
def k14 : Class := { plain "java/lang/System" (some 0) with
  accessFlags := 49
  interfaces := #[]
  cf := some (fileOf pool14 8 #[.nestMembers #[319, 327, 801, 108, 663, 208]] #[{ accessFlags := 2, nameIndex := 5, descriptorIndex := 6, attributes := #[] }, { accessFlags := 265, nameIndex := 727, descriptorIndex := 728, attributes := #[] }] 49 2 #[] #[{ accessFlags := 25, nameIndex := 507, descriptorIndex := 526, attributes := #[] }, { accessFlags := 25, nameIndex := 399, descriptorIndex := 155, attributes := #[] }, { accessFlags := 25, nameIndex := 396, descriptorIndex := 155, attributes := #[] }, { accessFlags := 10, nameIndex := 525, descriptorIndex := 526, attributes := #[] }, { accessFlags := 26, nameIndex := 674, descriptorIndex := 12, attributes := #[] }, { accessFlags := 26, nameIndex := 677, descriptorIndex := 12, attributes := #[] }, { accessFlags := 10, nameIndex := 11, descriptorIndex := 12, attributes := #[] }, { accessFlags := 74, nameIndex := 175, descriptorIndex := 176, attributes := #[] }, { accessFlags := 10, nameIndex := 491, descriptorIndex := 222, attributes := #[] }, { accessFlags := 74, nameIndex := 29, descriptorIndex := 30, attributes := #[] }, { accessFlags := 74, nameIndex := 154, descriptorIndex := 155, attributes := #[] }, { accessFlags := 10, nameIndex := 217, descriptorIndex := 218, attributes := #[] }, { accessFlags := 10, nameIndex := 221, descriptorIndex := 222, attributes := #[] }, { accessFlags := 8, nameIndex := 562, descriptorIndex := 563, attributes := #[] }])
  fields := #[{ name := "in", type := (.object "java/io/InputStream"), accessFlags := 25, slot := 0, constantValue := 0 }, { name := "out", type := (.object "java/io/PrintStream"), accessFlags := 25, slot := 1, constantValue := 0 }, { name := "err", type := (.object "java/io/PrintStream"), accessFlags := 25, slot := 2, constantValue := 0 }, { name := "initialIn", type := (.object "java/io/InputStream"), accessFlags := 10, slot := 3, constantValue := 0 }, { name := "NEVER", type := .int, accessFlags := 26, slot := 4, constantValue := 0 }, { name := "MAYBE", type := .int, accessFlags := 26, slot := 5, constantValue := 0 }, { name := "allowSecurityManager", type := .int, accessFlags := 10, slot := 6, constantValue := 0 }, { name := "security", type := (.object "java/lang/SecurityManager"), accessFlags := 74, slot := 7, constantValue := 0 }, { name := "notSupportedJnuEncoding", type := (.object "java/lang/String"), accessFlags := 10, slot := 8, constantValue := 0 }, { name := "cons", type := (.object "java/io/Console"), accessFlags := 74, slot := 9, constantValue := 0 }, { name := "initialErrStream", type := (.object "java/io/PrintStream"), accessFlags := 74, slot := 10, constantValue := 0 }, { name := "props", type := (.object "java/util/Properties"), accessFlags := 10, slot := 11, constantValue := 0 }, { name := "lineSeparator", type := (.object "java/lang/String"), accessFlags := 10, slot := 12, constantValue := 0 }, { name := "bootLayer", type := (.object "java/lang/ModuleLayer"), accessFlags := 8, slot := 13, constantValue := 0 }]
  methods := #[k14m0, k14m1]
  instanceTypes := #[]
  staticTypes := #[(.object "java/io/InputStream"), (.object "java/io/PrintStream"), (.object "java/io/PrintStream"), (.object "java/io/InputStream"), .int, .int, .int, (.object "java/lang/SecurityManager"), (.object "java/lang/String"), (.object "java/io/Console"), (.object "java/io/PrintStream"), (.object "java/util/Properties"), (.object "java/lang/String"), (.object "java/lang/ModuleLayer")]
  resolved := Array.replicate 834 none
  statics := none }

def pool15 : Array CpInfo := pool [(9, u "<init>"), (6, .class_ 18), (1, u "java/lang/Object"), (0, u "()V"), (1, .class_ 23), (1, u "jdk/internal/util/ArraysSupport"), (0, u "LOG2_ARRAY_LONG_INDEX_SCALE"), (0, u "I"), (2, u "U"), (0, u "Ljdk/internal/misc/Unsafe;"), (8, u "BIG_ENDIAN"), (0, u "Z"), (8, u "LOG2_BYTE_BIT_SIZE"), (4, u "LOG2_ARRAY_INT_INDEX_SCALE"), (54, u "JLA"), (0, u "Ljdk/internal/access/JavaLangAccess;"), (11, u "LOG2_ARRAY_BOOLEAN_INDEX_SCALE"), (9, u "LOG2_ARRAY_BYTE_INDEX_SCALE"), (5, u "LOG2_ARRAY_CHAR_INDEX_SCALE"), (5, u "LOG2_ARRAY_SHORT_INDEX_SCALE"), (18, u "LOG2_ARRAY_FLOAT_INDEX_SCALE"), (24, u "LOG2_ARRAY_DOUBLE_INDEX_SCALE"), (89, u "T_BOOLEAN"), (2, u "T_CHAR"), (1, u "T_FLOAT"), (1, u "T_DOUBLE"), (1, u "T_BYTE"), (1, u "T_SHORT"), (1, u "T_INT"), (1, u "T_LONG"), (1, u "SOFT_MAX_ARRAY_LENGTH")] 83

def k15m0 : Method := { name := "<init>", desc := "()V", sig := { parameters := [], returnType := none }, accessFlags := 2, code := none }
/-- jdk/internal/util/ArraysSupport -/
def k15 : Class := { plain "jdk/internal/util/ArraysSupport" (some 0) with
  accessFlags := 33
  interfaces := #[]
  cf := some (fileOf pool15 21 #[] #[{ accessFlags := 2, nameIndex := 9, descriptorIndex := 19, attributes := #[] }] 33 16 #[] #[{ accessFlags := 24, nameIndex := 28, descriptorIndex := 29, attributes := #[] }, { accessFlags := 26, nameIndex := 38, descriptorIndex := 39, attributes := #[] }, { accessFlags := 25, nameIndex := 121, descriptorIndex := 25, attributes := #[] }, { accessFlags := 25, nameIndex := 131, descriptorIndex := 25, attributes := #[] }, { accessFlags := 25, nameIndex := 137, descriptorIndex := 25, attributes := #[] }, { accessFlags := 25, nameIndex := 143, descriptorIndex := 25, attributes := #[] }, { accessFlags := 25, nameIndex := 53, descriptorIndex := 25, attributes := #[] }, { accessFlags := 25, nameIndex := 24, descriptorIndex := 25, attributes := #[] }, { accessFlags := 25, nameIndex := 162, descriptorIndex := 25, attributes := #[] }, { accessFlags := 25, nameIndex := 187, descriptorIndex := 25, attributes := #[] }, { accessFlags := 26, nameIndex := 48, descriptorIndex := 25, attributes := #[] }, { accessFlags := 25, nameIndex := 277, descriptorIndex := 25, attributes := #[] }, { accessFlags := 25, nameIndex := 280, descriptorIndex := 25, attributes := #[] }, { accessFlags := 25, nameIndex := 282, descriptorIndex := 25, attributes := #[] }, { accessFlags := 25, nameIndex := 284, descriptorIndex := 25, attributes := #[] }, { accessFlags := 25, nameIndex := 286, descriptorIndex := 25, attributes := #[] }, { accessFlags := 25, nameIndex := 288, descriptorIndex := 25, attributes := #[] }, { accessFlags := 25, nameIndex := 290, descriptorIndex := 25, attributes := #[] }, { accessFlags := 25, nameIndex := 292, descriptorIndex := 25, attributes := #[] }, { accessFlags := 26, nameIndex := 108, descriptorIndex := 109, attributes := #[] }, { accessFlags := 25, nameIndex := 294, descriptorIndex := 25, attributes := #[] }])
  fields := #[{ name := "U", type := (.object "jdk/internal/misc/Unsafe"), accessFlags := 24, slot := 0, constantValue := 0 }, { name := "BIG_ENDIAN", type := .boolean, accessFlags := 26, slot := 1, constantValue := 0 }, { name := "LOG2_ARRAY_BOOLEAN_INDEX_SCALE", type := .int, accessFlags := 25, slot := 2, constantValue := 0 }, { name := "LOG2_ARRAY_BYTE_INDEX_SCALE", type := .int, accessFlags := 25, slot := 3, constantValue := 0 }, { name := "LOG2_ARRAY_CHAR_INDEX_SCALE", type := .int, accessFlags := 25, slot := 4, constantValue := 0 }, { name := "LOG2_ARRAY_SHORT_INDEX_SCALE", type := .int, accessFlags := 25, slot := 5, constantValue := 0 }, { name := "LOG2_ARRAY_INT_INDEX_SCALE", type := .int, accessFlags := 25, slot := 6, constantValue := 0 }, { name := "LOG2_ARRAY_LONG_INDEX_SCALE", type := .int, accessFlags := 25, slot := 7, constantValue := 0 }, { name := "LOG2_ARRAY_FLOAT_INDEX_SCALE", type := .int, accessFlags := 25, slot := 8, constantValue := 0 }, { name := "LOG2_ARRAY_DOUBLE_INDEX_SCALE", type := .int, accessFlags := 25, slot := 9, constantValue := 0 }, { name := "LOG2_BYTE_BIT_SIZE", type := .int, accessFlags := 26, slot := 10, constantValue := 0 }, { name := "T_BOOLEAN", type := .int, accessFlags := 25, slot := 11, constantValue := 0 }, { name := "T_CHAR", type := .int, accessFlags := 25, slot := 12, constantValue := 0 }, { name := "T_FLOAT", type := .int, accessFlags := 25, slot := 13, constantValue := 0 }, { name := "T_DOUBLE", type := .int, accessFlags := 25, slot := 14, constantValue := 0 }, { name := "T_BYTE", type := .int, accessFlags := 25, slot := 15, constantValue := 0 }, { name := "T_SHORT", type := .int, accessFlags := 25, slot := 16, constantValue := 0 }, { name := "T_INT", type := .int, accessFlags := 25, slot := 17, constantValue := 0 }, { name := "T_LONG", type := .int, accessFlags := 25, slot := 18, constantValue := 0 }, { name := "JLA", type := (.object "jdk/internal/access/JavaLangAccess"), accessFlags := 26, slot := 19, constantValue := 0 }, { name := "SOFT_MAX_ARRAY_LENGTH", type := .int, accessFlags := 25, slot := 20, constantValue := 0 }]
  methods := #[k15m0]
  instanceTypes := #[]
  staticTypes := #[(.object "jdk/internal/misc/Unsafe"), .boolean, .int, .int, .int, .int, .int, .int, .int, .int, .int, .int, .int, .int, .int, .int, .int, .int, .int, (.object "jdk/internal/access/JavaLangAccess"), .int]
  resolved := Array.replicate 378 none
  statics := none }

def pool16 : Array CpInfo := pool [(1, u "java/lang/Cloneable"), (0, .class_ 1), (0, u "java/lang/Object"), (0, .class_ 3)] 3

/-- java/lang/Cloneable -/
def k16 : Class := { plain "java/lang/Cloneable" (some 0) with
  accessFlags := 1537
  interfaces := #[]
  cf := some (fileOf pool16 2 #[] #[] 1537 4 #[] #[])
  fields := #[]
  methods := #[]
  instanceTypes := #[]
  staticTypes := #[]
  resolved := Array.replicate 8 none
  statics := none }

/-- the primitive byte -/
def k17 : Class := { plain "byte" none with kind := .primitive 'B', accessFlags := 0x411 }
/-- [B -/
def k18 : Class := { plain "[B" (some 0) with kind := .array 17 .byte, interfaces := #[16, 2], accessFlags := 1041 }

/-- the primitive char -/
def k19 : Class := { plain "char" none with kind := .primitive 'C', accessFlags := 0x411 }
/-- [C -/
def k20 : Class := { plain "[C" (some 0) with kind := .array 19 .char, interfaces := #[16, 2], accessFlags := 1041 }

/-- the primitive int -/
def k21 : Class := { plain "int" none with kind := .primitive 'I', accessFlags := 0x411 }
/-- [I -/
def k22 : Class := { plain "[I" (some 0) with kind := .array 21 .int, interfaces := #[16, 2], accessFlags := 1041 }

def heap : Heap := #[{ cls := 7, slots := #[.long 0, .int 1, .null, .int 0, .null, .int 0, .int 0], vm := .statics 7 },
  { cls := 11, slots := #[.null, .null, .null], vm := .statics 11 }]
def classes : Array Class := #[k0, k1, k2, k3, k4, k5, k6, k7, k8, k9, k10, k11, k12, k13, k14, k15, k16, k17, k18, k19, k20, k21, k22]
def interned : List (Array UInt16 × Addr) := []
def slotsUsed : Nat := 10
def theMethod : MethodId := ⟨1, 3⟩
def args0 : Array Value := #[.int 5, .int 7, .int 5, .int 1, .int 0]
def aboutOver (below : List Frame) : State where
  vm := { classes := classes, interned := interned.toArray }
  heap := heap
  slotsUsed := slotsUsed
  threads := #[{ frames := .invoking theMethod args0 :: below }]
def below0 : List Frame := [.native { method := ⟨0, 0⟩, args := #[] }]
def about1 : State := aboutOver below0
def p0 : Program := .bare "" "" ""
def e0 : Env := launch0.env 0 0 0
theorem w_frames : about1.frames = Frame.invoking theMethod args0 :: below0 := rfl
set_option maxRecDepth 65536 in
theorem w_args : argsFit about1.vm theMethod args0 = true := by decide +kernel
set_option maxRecDepth 65536 in
theorem w_heap : heapFits about1 = true := by decide +kernel
set_option maxRecDepth 65536 in
theorem w_runnable : about1.curStatus? = some .runnable := by decide +kernel
set_option maxRecDepth 65536 in
theorem w_alone : about1.alone = true := by decide +kernel
set_option maxRecDepth 65536 in
theorem w_named : about1.methodNamed? x = some theMethod := by decide +kernel
set_option maxRecDepth 65536 in
theorem w_hears : about1.hears theMethod below0 = true := by decide +kernel
set_option maxRecDepth 65536 in
theorem w_ripe : about1.ripe theMethod args0 below0 = true := by decide +kernel
theorem w_running : about1.status = .running := rfl
set_option maxRecDepth 65536 in
theorem w_room : about1.hasRoom e0.platform room_1 = true :=
  launch0.hasRoom_least _ room_1 (by decide +kernel) (by decide +kernel) (by decide +kernel) (by decide +kernel) (by decide +kernel) (by decide +kernel)
theorem allAtoms_all (ts : List Jvm.Cond) (a : Array Jvm.Value) (st : Jvm.State) : (allAtoms ts).before a st = ts.all (fun c => c.before a st) := by
  induction ts with
  | nil => rfl
  | cons c t ih =>
    show (Jvm.Cond.and c (allAtoms t)).before a st = _
    rw [Jvm.Cond.before_and, ih, List.all_cons]
def words1 : List Jvm.Cond := Jvm.Cond.code x code maxLocals ret :: tables_1
/-- a 'code' word, met by the world's own term for the bytes: nothing is compared byte by byte -/
theorem code_word {y : MethodName} {bytes : ByteArray} {mx : Nat} {rt : Option FieldType} {a : Array Value} {s : State} {m : MethodId} {meth : Method} {c : Code} (h1 : s.methodNamed? y = some m) (h2 : s.vm.method? m = some meth) (h3 : meth.code = some c) (h4 : c.code = bytes)
    (h5 : (c.maxLocals == mx && c.exceptionTable.isEmpty && decide (c.maxStack ≤ mostOperands) && decide (meth.sig.returnType = rt) && !meth.locks && decide (parseMethodDescriptor y.desc = some meth.sig)) = true) : (Jvm.Cond.code y bytes mx rt).before a s = true := by
  simp only [Bool.and_eq_true, beq_iff_eq, Bool.not_eq_true', decide_eq_true_eq] at h5
  obtain ⟨⟨⟨⟨⟨g1, g2⟩, g3⟩, g4⟩, g5⟩, g6⟩ := h5
  simp [Cond.before, Cond.holds, Cond.value, h1, h2, h3, h4, g1, g2, g3, g4, g5, g6]
def isCode : Jvm.Cond → Bool
  | .code _ _ _ _ => true
  | _ => false
theorem all_split {L : List Jvm.Cond} {P : Jvm.Cond → Bool} (h1 : L.all (fun c => isCode c || P c) = true) (h2 : ∀ c ∈ L.filter isCode, P c = true) : L.all P = true := by
  refine List.all_eq_true.mpr fun c hc => ?_
  have h := List.all_eq_true.mp h1 c hc
  rcases Bool.eq_false_or_eq_true (isCode c) with hi | hi
  · exact h2 c (List.mem_filter.mpr ⟨hc, hi⟩)
  · simpa [hi] using h
set_option maxRecDepth 65536 in
theorem w_c0 : (Jvm.Cond.code x code maxLocals ret).before args0 about1 = true := code_word (m := ⟨1, 3⟩) (meth := k1m3) (c := k1c3) (by decide +kernel) rfl rfl rfl (by decide +kernel)
set_option maxRecDepth 65536 in
theorem w_c1 : (Jvm.Cond.code ({ cls := "com/example/shomer/shomer/engine/NamesLocalNamePinLaw", name := "draw", desc := "(I)C" } : Jvm.MethodName) method_2_code (2 : Nat) (Option.some Jvm.ClassFile.FieldType.char)).before args0 about1 = true := code_word (m := ⟨1, 1⟩) (meth := k1m1) (c := k1c1) (by decide +kernel) rfl rfl rfl (by decide +kernel)
set_option maxRecDepth 65536 in
theorem w_c2 : (Jvm.Cond.code ({ cls := "java/lang/String", name := "<init>", desc := "([C)V" } : Jvm.MethodName) jdk_42_method_3_code (2 : Nat) (Option.none : Option Jvm.ClassFile.FieldType)).before args0 about1 = true := code_word (m := ⟨7, 1⟩) (meth := k7m1) (c := k7c1) (by decide +kernel) rfl rfl rfl (by decide +kernel)
set_option maxRecDepth 65536 in
theorem w_c3 : (Jvm.Cond.code ({ cls := "java/lang/String", name := "<init>", desc := "([CIILjava/lang/Void;)V" } : Jvm.MethodName) jdk_42_method_149_code (6 : Nat) (Option.none : Option Jvm.ClassFile.FieldType)).before args0 about1 = true := code_word (m := ⟨7, 8⟩) (meth := k7m8) (c := k7c8) (by decide +kernel) rfl rfl rfl (by decide +kernel)
set_option maxRecDepth 65536 in
theorem w_c4 : (Jvm.Cond.code ({ cls := "java/lang/Object", name := "<init>", desc := "()V" } : Jvm.MethodName) object_method_1_code (1 : Nat) (Option.none : Option Jvm.ClassFile.FieldType)).before args0 about1 = true := code_word (m := ⟨0, 0⟩) (meth := k0m0) (c := k0c0) (by decide +kernel) rfl rfl rfl (by decide +kernel)
set_option maxRecDepth 65536 in
theorem w_c5 : (Jvm.Cond.code ({ cls := "com/example/shomer/shomer/engine/Names", name := "localName", desc := "(Ljava/lang/String;)Ljava/lang/String;" } : Jvm.MethodName) prog_7_method_2_code (2 : Nat) (Option.some (Jvm.ClassFile.FieldType.object "java/lang/String"))).before args0 about1 = true := code_word (m := ⟨8, 1⟩) (meth := k8m1) (c := k8c1) (by decide +kernel) rfl rfl rfl (by decide +kernel)
set_option maxRecDepth 65536 in
theorem w_c6 : (Jvm.Cond.code ({ cls := "java/lang/String", name := "lastIndexOf", desc := "(I)I" } : Jvm.MethodName) jdk_42_method_82_code (2 : Nat) (Option.some Jvm.ClassFile.FieldType.int)).before args0 about1 = true := code_word (m := ⟨7, 4⟩) (meth := k7m4) (c := k7c4) (by decide +kernel) rfl rfl rfl (by decide +kernel)
set_option maxRecDepth 65536 in
theorem w_c7 : (Jvm.Cond.code ({ cls := "java/lang/String", name := "length", desc := "()I" } : Jvm.MethodName) jdk_42_method_54_code (1 : Nat) (Option.some Jvm.ClassFile.FieldType.int)).before args0 about1 = true := code_word (m := ⟨7, 2⟩) (meth := k7m2) (c := k7c2) (by decide +kernel) rfl rfl rfl (by decide +kernel)
set_option maxRecDepth 65536 in
theorem w_c8 : (Jvm.Cond.code ({ cls := "java/lang/String", name := "coder", desc := "()B" } : Jvm.MethodName) jdk_42_method_152_code (1 : Nat) (Option.some Jvm.ClassFile.FieldType.byte)).before args0 about1 = true := code_word (m := ⟨7, 10⟩) (meth := k7m10) (c := k7c10) (by decide +kernel) rfl rfl rfl (by decide +kernel)
set_option maxRecDepth 65536 in
theorem w_c9 : (Jvm.Cond.code ({ cls := "java/lang/String", name := "lastIndexOf", desc := "(II)I" } : Jvm.MethodName) jdk_42_method_83_code (3 : Nat) (Option.some Jvm.ClassFile.FieldType.int)).before args0 about1 = true := code_word (m := ⟨7, 5⟩) (meth := k7m5) (c := k7c5) (by decide +kernel) rfl rfl rfl (by decide +kernel)
set_option maxRecDepth 65536 in
theorem w_c10 : (Jvm.Cond.code ({ cls := "java/lang/String", name := "isLatin1", desc := "()Z" } : Jvm.MethodName) jdk_42_method_154_code (1 : Nat) (Option.some Jvm.ClassFile.FieldType.boolean)).before args0 about1 = true := code_word (m := ⟨7, 11⟩) (meth := k7m11) (c := k7c11) (by decide +kernel) rfl rfl rfl (by decide +kernel)
set_option maxRecDepth 65536 in
theorem w_c11 : (Jvm.Cond.code ({ cls := "java/lang/StringLatin1", name := "lastIndexOf", desc := "([BII)I" } : Jvm.MethodName) jdk_43_method_27_code (4 : Nat) (Option.some Jvm.ClassFile.FieldType.int)).before args0 about1 = true := code_word (m := ⟨9, 3⟩) (meth := k9m3) (c := k9c3) (by decide +kernel) rfl rfl rfl (by decide +kernel)
set_option maxRecDepth 65536 in
theorem w_c12 : (Jvm.Cond.code ({ cls := "java/lang/StringLatin1", name := "canEncode", desc := "(I)Z" } : Jvm.MethodName) jdk_43_method_4_code (1 : Nat) (Option.some Jvm.ClassFile.FieldType.boolean)).before args0 about1 = true := code_word (m := ⟨9, 2⟩) (meth := k9m2) (c := k9c2) (by decide +kernel) rfl rfl rfl (by decide +kernel)
set_option maxRecDepth 65536 in
theorem w_c13 : (Jvm.Cond.code ({ cls := "java/lang/Math", name := "min", desc := "(II)I" } : Jvm.MethodName) jdk_29_method_69_code (2 : Nat) (Option.some Jvm.ClassFile.FieldType.int)).before args0 about1 = true := code_word (m := ⟨10, 2⟩) (meth := k10m2) (c := k10c2) (by decide +kernel) rfl rfl rfl (by decide +kernel)
set_option maxRecDepth 65536 in
theorem w_c14 : (Jvm.Cond.code ({ cls := "java/lang/Math", name := "max", desc := "(II)I" } : Jvm.MethodName) jdk_29_method_65_code (2 : Nat) (Option.some Jvm.ClassFile.FieldType.int)).before args0 about1 = true := code_word (m := ⟨10, 1⟩) (meth := k10m1) (c := k10c1) (by decide +kernel) rfl rfl rfl (by decide +kernel)
set_option maxRecDepth 65536 in
theorem w_c15 : (Jvm.Cond.code ({ cls := "java/lang/String", name := "substring", desc := "(I)Ljava/lang/String;" } : Jvm.MethodName) jdk_42_method_91_code (2 : Nat) (Option.some (Jvm.ClassFile.FieldType.object "java/lang/String"))).before args0 about1 = true := code_word (m := ⟨7, 6⟩) (meth := k7m6) (c := k7c6) (by decide +kernel) rfl rfl rfl (by decide +kernel)
set_option maxRecDepth 65536 in
theorem w_c16 : (Jvm.Cond.code ({ cls := "java/lang/String", name := "substring", desc := "(II)Ljava/lang/String;" } : Jvm.MethodName) jdk_42_method_92_code (5 : Nat) (Option.some (Jvm.ClassFile.FieldType.object "java/lang/String"))).before args0 about1 = true := code_word (m := ⟨7, 7⟩) (meth := k7m7) (c := k7c7) (by decide +kernel) rfl rfl rfl (by decide +kernel)
set_option maxRecDepth 65536 in
theorem w_c17 : (Jvm.Cond.code ({ cls := "java/lang/String", name := "checkBoundsBeginEnd", desc := "(III)V" } : Jvm.MethodName) jdk_42_method_158_code (3 : Nat) (Option.none : Option Jvm.ClassFile.FieldType)).before args0 about1 = true := code_word (m := ⟨7, 13⟩) (meth := k7m13) (c := k7c13) (by decide +kernel) rfl rfl rfl (by decide +kernel)
set_option maxRecDepth 65536 in
theorem w_c18 : (Jvm.Cond.code ({ cls := "jdk/internal/util/Preconditions", name := "checkFromToIndex", desc := "(IIILjava/util/function/BiFunction;)I" } : Jvm.MethodName) jdk_41_method_12_code (4 : Nat) (Option.some Jvm.ClassFile.FieldType.int)).before args0 about1 = true := code_word (m := ⟨11, 2⟩) (meth := k11m2) (c := k11c2) (by decide +kernel) rfl rfl rfl (by decide +kernel)
set_option maxRecDepth 65536 in
theorem w_c19 : (Jvm.Cond.code ({ cls := "java/lang/StringUTF16", name := "compress", desc := "([CII)[B" } : Jvm.MethodName) jdk_52_method_16_code (6 : Nat) (Option.some (Jvm.ClassFile.FieldType.array Jvm.ClassFile.FieldType.byte))).before args0 about1 = true := code_word (m := ⟨12, 2⟩) (meth := k12m2) (c := k12c2) (by decide +kernel) rfl rfl rfl (by decide +kernel)
set_option maxRecDepth 65536 in
theorem w_c20 : (Jvm.Cond.code ({ cls := "java/lang/StringUTF16", name := "compress", desc := "([CI[BII)I" } : Jvm.MethodName) jdk_52_method_21_code (7 : Nat) (Option.some Jvm.ClassFile.FieldType.int)).before args0 about1 = true := code_word (m := ⟨12, 3⟩) (meth := k12m3) (c := k12c3) (by decide +kernel) rfl rfl rfl (by decide +kernel)
set_option maxRecDepth 65536 in
theorem w_c21 : (Jvm.Cond.code ({ cls := "java/lang/StringUTF16", name := "coderFromArrayLen", desc := "([BI)B" } : Jvm.MethodName) jdk_52_method_15_code (2 : Nat) (Option.some Jvm.ClassFile.FieldType.byte)).before args0 about1 = true := code_word (m := ⟨12, 1⟩) (meth := k12m1) (c := k12c1) (by decide +kernel) rfl rfl rfl (by decide +kernel)
set_option maxRecDepth 65536 in
theorem w_c22 : (Jvm.Cond.code ({ cls := "com/example/shomer/shomer/engine/NamesLocalNamePinLaw", name := "isSep", desc := "(C)Z" } : Jvm.MethodName) method_3_code (1 : Nat) (Option.some Jvm.ClassFile.FieldType.boolean)).before args0 about1 = true := code_word (m := ⟨1, 2⟩) (meth := k1m2) (c := k1c2) (by decide +kernel) rfl rfl rfl (by decide +kernel)
set_option maxRecDepth 65536 in
theorem w_c23 : (Jvm.Cond.code ({ cls := "java/lang/StringLatin1", name := "newString", desc := "([BII)Ljava/lang/String;" } : Jvm.MethodName) jdk_43_method_47_code (3 : Nat) (Option.some (Jvm.ClassFile.FieldType.object "java/lang/String"))).before args0 about1 = true := code_word (m := ⟨9, 4⟩) (meth := k9m4) (c := k9c4) (by decide +kernel) rfl rfl rfl (by decide +kernel)
set_option maxRecDepth 65536 in
theorem w_c24 : (Jvm.Cond.code ({ cls := "java/lang/String", name := "charAt", desc := "(I)C" } : Jvm.MethodName) jdk_42_method_56_code (2 : Nat) (Option.some Jvm.ClassFile.FieldType.char)).before args0 about1 = true := code_word (m := ⟨7, 3⟩) (meth := k7m3) (c := k7c3) (by decide +kernel) rfl rfl rfl (by decide +kernel)
set_option maxRecDepth 65536 in
theorem w_c25 : (Jvm.Cond.code ({ cls := "java/lang/StringLatin1", name := "charAt", desc := "([BI)C" } : Jvm.MethodName) jdk_43_method_2_code (2 : Nat) (Option.some Jvm.ClassFile.FieldType.char)).before args0 about1 = true := code_word (m := ⟨9, 1⟩) (meth := k9m1) (c := k9c1) (by decide +kernel) rfl rfl rfl (by decide +kernel)
set_option maxRecDepth 65536 in
theorem w_c26 : (Jvm.Cond.code ({ cls := "java/lang/String", name := "checkIndex", desc := "(II)V" } : Jvm.MethodName) jdk_42_method_155_code (2 : Nat) (Option.none : Option Jvm.ClassFile.FieldType)).before args0 about1 = true := code_word (m := ⟨7, 12⟩) (meth := k7m12) (c := k7c12) (by decide +kernel) rfl rfl rfl (by decide +kernel)
set_option maxRecDepth 65536 in
theorem w_c27 : (Jvm.Cond.code ({ cls := "jdk/internal/util/Preconditions", name := "checkIndex", desc := "(IILjava/util/function/BiFunction;)I" } : Jvm.MethodName) jdk_41_method_11_code (3 : Nat) (Option.some Jvm.ClassFile.FieldType.int)).before args0 about1 = true := code_word (m := ⟨11, 1⟩) (meth := k11m1) (c := k11c1) (by decide +kernel) rfl rfl rfl (by decide +kernel)
set_option maxRecDepth 65536 in
theorem w_c28 : (Jvm.Cond.code ({ cls := "java/util/Arrays", name := "copyOfRange", desc := "([BII)[B" } : Jvm.MethodName) jdk_65_method_132_code (3 : Nat) (Option.some (Jvm.ClassFile.FieldType.array Jvm.ClassFile.FieldType.byte))).before args0 about1 = true := code_word (m := ⟨13, 2⟩) (meth := k13m2) (c := k13c2) (by decide +kernel) rfl rfl rfl (by decide +kernel)
set_option maxRecDepth 65536 in
theorem w_c29 : (Jvm.Cond.code ({ cls := "java/util/Arrays", name := "copyOfRangeByte", desc := "([BII)[B" } : Jvm.MethodName) jdk_65_method_133_code (5 : Nat) (Option.some (Jvm.ClassFile.FieldType.array Jvm.ClassFile.FieldType.byte))).before args0 about1 = true := code_word (m := ⟨13, 3⟩) (meth := k13m3) (c := k13c3) (by decide +kernel) rfl rfl rfl (by decide +kernel)
set_option maxRecDepth 65536 in
theorem w_c30 : (Jvm.Cond.code ({ cls := "java/util/Arrays", name := "checkLength", desc := "(II)V" } : Jvm.MethodName) jdk_65_method_131_code (2 : Nat) (Option.none : Option Jvm.ClassFile.FieldType)).before args0 about1 = true := code_word (m := ⟨13, 1⟩) (meth := k13m1) (c := k13c1) (by decide +kernel) rfl rfl rfl (by decide +kernel)
set_option maxRecDepth 65536 in
theorem w_c31 : (Jvm.Cond.code ({ cls := "java/lang/String", name := "<init>", desc := "([BB)V" } : Jvm.MethodName) jdk_42_method_151_code (3 : Nat) (Option.none : Option Jvm.ClassFile.FieldType)).before args0 about1 = true := code_word (m := ⟨7, 9⟩) (meth := k7m9) (c := k7c9) (by decide +kernel) rfl rfl rfl (by decide +kernel)
def codes1 : List Jvm.Cond := [Jvm.Cond.code x code maxLocals ret, Jvm.Cond.code ({ cls := "com/example/shomer/shomer/engine/NamesLocalNamePinLaw", name := "draw", desc := "(I)C" } : Jvm.MethodName) method_2_code (2 : Nat) (Option.some Jvm.ClassFile.FieldType.char), Jvm.Cond.code ({ cls := "java/lang/String", name := "<init>", desc := "([C)V" } : Jvm.MethodName) jdk_42_method_3_code (2 : Nat) (Option.none : Option Jvm.ClassFile.FieldType), Jvm.Cond.code ({ cls := "java/lang/String", name := "<init>", desc := "([CIILjava/lang/Void;)V" } : Jvm.MethodName) jdk_42_method_149_code (6 : Nat) (Option.none : Option Jvm.ClassFile.FieldType), Jvm.Cond.code ({ cls := "java/lang/Object", name := "<init>", desc := "()V" } : Jvm.MethodName) object_method_1_code (1 : Nat) (Option.none : Option Jvm.ClassFile.FieldType), Jvm.Cond.code ({ cls := "com/example/shomer/shomer/engine/Names", name := "localName", desc := "(Ljava/lang/String;)Ljava/lang/String;" } : Jvm.MethodName) prog_7_method_2_code (2 : Nat) (Option.some (Jvm.ClassFile.FieldType.object "java/lang/String")), Jvm.Cond.code ({ cls := "java/lang/String", name := "lastIndexOf", desc := "(I)I" } : Jvm.MethodName) jdk_42_method_82_code (2 : Nat) (Option.some Jvm.ClassFile.FieldType.int), Jvm.Cond.code ({ cls := "java/lang/String", name := "length", desc := "()I" } : Jvm.MethodName) jdk_42_method_54_code (1 : Nat) (Option.some Jvm.ClassFile.FieldType.int), Jvm.Cond.code ({ cls := "java/lang/String", name := "coder", desc := "()B" } : Jvm.MethodName) jdk_42_method_152_code (1 : Nat) (Option.some Jvm.ClassFile.FieldType.byte), Jvm.Cond.code ({ cls := "java/lang/String", name := "lastIndexOf", desc := "(II)I" } : Jvm.MethodName) jdk_42_method_83_code (3 : Nat) (Option.some Jvm.ClassFile.FieldType.int), Jvm.Cond.code ({ cls := "java/lang/String", name := "isLatin1", desc := "()Z" } : Jvm.MethodName) jdk_42_method_154_code (1 : Nat) (Option.some Jvm.ClassFile.FieldType.boolean), Jvm.Cond.code ({ cls := "java/lang/StringLatin1", name := "lastIndexOf", desc := "([BII)I" } : Jvm.MethodName) jdk_43_method_27_code (4 : Nat) (Option.some Jvm.ClassFile.FieldType.int), Jvm.Cond.code ({ cls := "java/lang/StringLatin1", name := "canEncode", desc := "(I)Z" } : Jvm.MethodName) jdk_43_method_4_code (1 : Nat) (Option.some Jvm.ClassFile.FieldType.boolean), Jvm.Cond.code ({ cls := "java/lang/Math", name := "min", desc := "(II)I" } : Jvm.MethodName) jdk_29_method_69_code (2 : Nat) (Option.some Jvm.ClassFile.FieldType.int), Jvm.Cond.code ({ cls := "java/lang/Math", name := "max", desc := "(II)I" } : Jvm.MethodName) jdk_29_method_65_code (2 : Nat) (Option.some Jvm.ClassFile.FieldType.int), Jvm.Cond.code ({ cls := "java/lang/String", name := "substring", desc := "(I)Ljava/lang/String;" } : Jvm.MethodName) jdk_42_method_91_code (2 : Nat) (Option.some (Jvm.ClassFile.FieldType.object "java/lang/String")), Jvm.Cond.code ({ cls := "java/lang/String", name := "substring", desc := "(II)Ljava/lang/String;" } : Jvm.MethodName) jdk_42_method_92_code (5 : Nat) (Option.some (Jvm.ClassFile.FieldType.object "java/lang/String")), Jvm.Cond.code ({ cls := "java/lang/String", name := "checkBoundsBeginEnd", desc := "(III)V" } : Jvm.MethodName) jdk_42_method_158_code (3 : Nat) (Option.none : Option Jvm.ClassFile.FieldType), Jvm.Cond.code ({ cls := "jdk/internal/util/Preconditions", name := "checkFromToIndex", desc := "(IIILjava/util/function/BiFunction;)I" } : Jvm.MethodName) jdk_41_method_12_code (4 : Nat) (Option.some Jvm.ClassFile.FieldType.int), Jvm.Cond.code ({ cls := "java/lang/StringUTF16", name := "compress", desc := "([CII)[B" } : Jvm.MethodName) jdk_52_method_16_code (6 : Nat) (Option.some (Jvm.ClassFile.FieldType.array Jvm.ClassFile.FieldType.byte)), Jvm.Cond.code ({ cls := "java/lang/StringUTF16", name := "compress", desc := "([CI[BII)I" } : Jvm.MethodName) jdk_52_method_21_code (7 : Nat) (Option.some Jvm.ClassFile.FieldType.int), Jvm.Cond.code ({ cls := "java/lang/StringUTF16", name := "coderFromArrayLen", desc := "([BI)B" } : Jvm.MethodName) jdk_52_method_15_code (2 : Nat) (Option.some Jvm.ClassFile.FieldType.byte), Jvm.Cond.code ({ cls := "com/example/shomer/shomer/engine/NamesLocalNamePinLaw", name := "isSep", desc := "(C)Z" } : Jvm.MethodName) method_3_code (1 : Nat) (Option.some Jvm.ClassFile.FieldType.boolean), Jvm.Cond.code ({ cls := "java/lang/StringLatin1", name := "newString", desc := "([BII)Ljava/lang/String;" } : Jvm.MethodName) jdk_43_method_47_code (3 : Nat) (Option.some (Jvm.ClassFile.FieldType.object "java/lang/String")), Jvm.Cond.code ({ cls := "java/lang/String", name := "charAt", desc := "(I)C" } : Jvm.MethodName) jdk_42_method_56_code (2 : Nat) (Option.some Jvm.ClassFile.FieldType.char), Jvm.Cond.code ({ cls := "java/lang/StringLatin1", name := "charAt", desc := "([BI)C" } : Jvm.MethodName) jdk_43_method_2_code (2 : Nat) (Option.some Jvm.ClassFile.FieldType.char), Jvm.Cond.code ({ cls := "java/lang/String", name := "checkIndex", desc := "(II)V" } : Jvm.MethodName) jdk_42_method_155_code (2 : Nat) (Option.none : Option Jvm.ClassFile.FieldType), Jvm.Cond.code ({ cls := "jdk/internal/util/Preconditions", name := "checkIndex", desc := "(IILjava/util/function/BiFunction;)I" } : Jvm.MethodName) jdk_41_method_11_code (3 : Nat) (Option.some Jvm.ClassFile.FieldType.int), Jvm.Cond.code ({ cls := "java/util/Arrays", name := "copyOfRange", desc := "([BII)[B" } : Jvm.MethodName) jdk_65_method_132_code (3 : Nat) (Option.some (Jvm.ClassFile.FieldType.array Jvm.ClassFile.FieldType.byte)), Jvm.Cond.code ({ cls := "java/util/Arrays", name := "copyOfRangeByte", desc := "([BII)[B" } : Jvm.MethodName) jdk_65_method_133_code (5 : Nat) (Option.some (Jvm.ClassFile.FieldType.array Jvm.ClassFile.FieldType.byte)), Jvm.Cond.code ({ cls := "java/util/Arrays", name := "checkLength", desc := "(II)V" } : Jvm.MethodName) jdk_65_method_131_code (2 : Nat) (Option.none : Option Jvm.ClassFile.FieldType), Jvm.Cond.code ({ cls := "java/lang/String", name := "<init>", desc := "([BB)V" } : Jvm.MethodName) jdk_42_method_151_code (3 : Nat) (Option.none : Option Jvm.ClassFile.FieldType)]
set_option maxRecDepth 65536 in
theorem codes_eq : words1.filter isCode = codes1 := rfl
theorem w_codes : ∀ c ∈ words1.filter isCode, c.before args0 about1 = true := by
  rw [codes_eq]
  intro c hc
  simp only [codes1, List.mem_cons, List.not_mem_nil, or_false] at hc
  rcases hc with rfl | rfl | rfl | rfl | rfl | rfl | rfl | rfl | rfl | rfl | rfl | rfl | rfl | rfl | rfl | rfl | rfl | rfl | rfl | rfl | rfl | rfl | rfl | rfl | rfl | rfl | rfl | rfl | rfl | rfl | rfl | rfl
  · exact w_c0
  · exact w_c1
  · exact w_c2
  · exact w_c3
  · exact w_c4
  · exact w_c5
  · exact w_c6
  · exact w_c7
  · exact w_c8
  · exact w_c9
  · exact w_c10
  · exact w_c11
  · exact w_c12
  · exact w_c13
  · exact w_c14
  · exact w_c15
  · exact w_c16
  · exact w_c17
  · exact w_c18
  · exact w_c19
  · exact w_c20
  · exact w_c21
  · exact w_c22
  · exact w_c23
  · exact w_c24
  · exact w_c25
  · exact w_c26
  · exact w_c27
  · exact w_c28
  · exact w_c29
  · exact w_c30
  · exact w_c31
set_option maxRecDepth 65536 in
theorem w_t1 : (words1.take 24).all (fun c => isCode c || c.before args0 about1) = true := by decide +kernel
set_option maxRecDepth 65536 in
theorem w_t2 : ((words1.drop 24).take 24).all (fun c => isCode c || c.before args0 about1) = true := by decide +kernel
set_option maxRecDepth 65536 in
theorem w_t3 : (((words1.drop 24).drop 24).take 24).all (fun c => isCode c || c.before args0 about1) = true := by decide +kernel
set_option maxRecDepth 65536 in
theorem w_t4 : ((((words1.drop 24).drop 24).drop 24).take 24).all (fun c => isCode c || c.before args0 about1) = true := by decide +kernel
set_option maxRecDepth 65536 in
theorem w_t5 : (((((words1.drop 24).drop 24).drop 24).drop 24).take 24).all (fun c => isCode c || c.before args0 about1) = true := by decide +kernel
set_option maxRecDepth 65536 in
theorem w_t6 : (((((words1.drop 24).drop 24).drop 24).drop 24).drop 24).all (fun c => isCode c || c.before args0 about1) = true := by decide +kernel
theorem w_tables : (allAtoms (Jvm.Cond.code x code maxLocals ret :: tables_1)).before args0 about1 = true := by
  rw [allAtoms_all]
  show words1.all (fun c => c.before args0 about1) = true
  refine all_split ?_ w_codes
  rw [← List.take_append_drop 24 words1, List.all_append, w_t1, ← List.take_append_drop 24 (words1.drop 24), List.all_append, w_t2, ← List.take_append_drop 24 ((words1.drop 24).drop 24), List.all_append, w_t3, ← List.take_append_drop 24 (((words1.drop 24).drop 24).drop 24), List.all_append, w_t4, ← List.take_append_drop 24 ((((words1.drop 24).drop 24).drop 24).drop 24), List.all_append, w_t5, w_t6]
  rfl
set_option maxRecDepth 65536 in
theorem w_rest : rest_1_c.before args0 about1 = true := by decide +kernel
set_option maxRecDepth 65536 in
theorem w_case : (Jvm.Cond.and given_1 narrow_1).before args0 about1 = true := by decide +kernel
set_option maxRecDepth 65536 in
theorem w_consts : constsHeld consts_1 about1 := Jvm.Lit.constsHeldB_iff.mp (by decide +kernel)
theorem w_applies : (headSpec (Jvm.Cond.code x code maxLocals ret :: tables_1) room_1).applies x e0.platform about1 = true :=
  (Spec.applies_iff w_frames).mpr ⟨w_running, w_runnable, w_alone, w_named, w_hears, w_ripe, w_room, w_tables⟩
theorem atStart : AtStart classFile x code maxLocals ret World_1 tables_1 room_1 Calls_1 rest_1 Pre_1 launch0 p0 e0 about1 theMethod args0 below0 :=
  ⟨lists_1, trivial, launch0.admits_env _ _ _, launch0.least_env, fairChoices_fair.cas, fairChoices_fair.clock, w_frames, w_args, w_heap, w_applies, ⟨w_consts, trivial⟩, w_rest, w_case⟩
end start1
theorem witness_1 : WitnessClaimed_1 := ⟨start1.p0, start1.e0, start1.about1, start1.theMethod, start1.args0, start1.below0, start1.atStart⟩
end Jvm.Pilot.@@N@@
