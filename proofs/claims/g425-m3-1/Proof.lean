import JvmDerived
import JvmDerived.Pilot.@@N@@Statement
import JvmDerived.Pilot.@@N@@Code
set_option linter.unusedVariables false
set_option linter.unusedSimpArgs false
namespace Jvm.OwnKit
open Jvm Jvm.ClassFile Sem Op Lib Jvm.Free Jvm.Stand Jvm.LawKit Jvm.RoadKit Bundle
/-- what a walk keeps hidden: the old cells stand; narrow (w = false): the tables of the start; wide: since when, what is booked, and which cells are surely not booked -/
def Hid (w : Bool) (Z : State) (EL : List (String × Nat)) (n0 : Nat) (My : List Addr) (s : State) (vm : Vm) (h : Heap) : Prop :=
  Old Z n0 h ∧ (w = false → vm = s.vm) ∧ (w = true → (∃ a0, EW Z a0 EL) ∧ (∃ k0, s.Since vm k0 ∧ k0 ≤ h.size) ∧ CHr Z EL s.vm s.heap vm h ∧ ∀ x ∈ My, x < h.size ∧ Safe Z EL vm h x)
def EndW (w : Bool) (Z : State) (EL : List (String × Nat)) (Ny : List Addr) (R : Room) (s : State) (o : Outcome) (t : State) (L : List Loc) : Prop :=
  (w = false → FrameEnd s o t L R.cells R.slots) ∧ (w = true → ReturnedEndW s o t L R.cells R.slots ∧ CHr Z EL s.vm s.heap t.vm t.heap ∧ ∀ x ∈ Ny, x < t.heap.size ∧ Safe Z EL t.vm t.heap x)
/-- from here the method returns, with Q -/
def Run (w : Bool) (l : Launch) (Z : State) (EL : List (String × Nat)) (n0 : Nat) (own nm : String) (B : ByteArray) (ret : Option FieldType) (R : Room) (Q : Option Value → Heap → Prop) (Ny : Option Value → List Addr)
    (My : List Addr) (h : Heap) (cells slots pc : Nat) (ls : Array Slot) (st : List Value) : Prop :=
  ∀ (p : Program) (e : Env) (s : State) (m : MethodId) (args : Array Value) (below : List Frame) (meth : Method) (c : Code) (T : State) (locs : List Loc) (vm : Vm),
    p.tables.exec = Jvm.exec → c.code = B → c.maxLocals = ls.size → meth.sig.returnType = ret → meth.name = nm → meth.locks = false → Z.Warmed39 vm → vm.findClass own = some m.cls →
    Stand p l e R (s.setVm vm) m args below meth c T locs cells slots → T.heap = h → Fr n0 locs → Hid w Z EL n0 My s vm h →
    ∃ t o, Steps p.tables e below (T.setTop (mkF m pc ls st)) t ∧ t.status = .running ∧ Ended t below o ∧ ∃ v L, o = .returned v ∧ Q v t.heap ∧ Fr n0 L ∧ EndW w Z EL (Ny v) R s o t L
/-- the contract of a method at one start -/
def Ok (w : Bool) (l : Launch) (Z : State) (EL : List (String × Nat)) (n0 : Nat) (My : List Addr) (y : MethodName) (B : ByteArray) (maxL : Nat) (ret : Option FieldType) (rm : Room) (as : Array Value) (h : Heap) (Q : Option Value → Heap → Prop) (Ny : Option Value → List Addr) : Prop :=
  ∀ ws : List Jvm.Cond, MetFree l y (head1 (Jvm.Cond.code y B maxL ret :: ws) rm) (fun a U => a = as ∧ Z.Warmed39 U.vm ∧ U.heap = h ∧ Old Z n0 h ∧ (w = true → (∃ a0, EW Z a0 EL) ∧ CHv Z EL U.vm h ∧ ∀ x ∈ My, x < h.size ∧ Safe Z EL U.vm h x)) (fun _ _ _ _ _ => True)
    (fun _ U o U' => ∃ v L, o = .returned v ∧ Q v U'.heap ∧ Fr n0 L ∧ EndW w Z EL (Ny v) rm U o U' L)
/-- this cell may be written: it is no booked String and no booked String's array -/
def Sf (w : Bool) (Z : State) (h : Heap) (My : List Addr) (x : Addr) : Prop := w = false ∨ x ∈ My ∨ (∃ C, Exa Z h x C ∧ C ≠ "java/lang/String" ∧ C ≠ "[B") ∨ ∃ c ty, Arr Z h x c ty ∧ ty ≠ .byte
theorem setAt_size {l l' : Array Slot} {i : Nat} {x : Slot} (h : setAt l i x = some l') : l'.size = l.size := by
  change (if i < l.size then some (l.setIfInBounds i x) else none) = some l' at h
  split at h
  · cases h; simp
  · cases h
theorem storeSelf_size {l l' : Array Slot} {i : Nat} {v : Value} (h : storeSelf l i v = some l') : l'.size = l.size := by
  simp only [storeSelf, Option.bind_eq_bind, Option.bind_eq_some_iff] at h
  obtain ⟨l1, h1, h2⟩ := h
  have e1 := setAt_size h1
  split at h2
  · simp only [Option.bind_eq_some_iff] at h2
    obtain ⟨o, -, h3⟩ := h2
    split at h3
    · split at h3
      · simp only [Option.bind_eq_some_iff] at h3
        obtain ⟨l2, h4, h5⟩ := h3
        rw [setAt_size h5, setAt_size h4, e1]
      · rw [setAt_size h3, e1]
    · rw [setAt_size h3, e1]
  · cases h2; exact e1
theorem storeLocals_size {l l' : Array Slot} {i : Nat} {v : Value} (h : storeLocals l i v = some l') : l'.size = l.size := by
  simp only [storeLocals, Option.bind_eq_bind, Option.bind_eq_some_iff] at h
  obtain ⟨o, -, h2⟩ := h
  split at h2
  · simp only [Option.bind_eq_some_iff] at h2
    obtain ⟨l2, h3, h4⟩ := h2
    rw [storeSelf_size h4, setAt_size h3]
  · split at h2
    · simp only [Option.bind_eq_some_iff] at h2
      obtain ⟨l2, h3, h4⟩ := h2
      rw [storeSelf_size h4, setAt_size h3]
    · exact storeSelf_size h2
  · exact storeSelf_size h2
section Rules
variable {w : Bool} {l : Launch} {Z : State} {EL : List (String × Nat)} {n0 : Nat} {own nm : String} {B : ByteArray} {ret : Option FieldType} {R : Room} {Q : Option Value → Heap → Prop} {Ny : Option Value → List Addr} {My : List Addr} {h : Heap} {cells slots pc : Nat} {ls : Array Slot} {st : List Value} {a0 : Array Value}
theorem Run.cast {st' : List Value} (e : st = st') (r : Run w l Z EL n0 own nm B ret R Q Ny My h cells slots pc ls st') : Run w l Z EL n0 own nm B ret R Q Ny My h cells slots pc ls st := e ▸ r
theorem Run.castL {ls' : Array Slot} (e : ls = ls') (r : Run w l Z EL n0 own nm B ret R Q Ny My h cells slots pc ls' st) : Run w l Z EL n0 own nm B ret R Q Ny My h cells slots pc ls st := e ▸ r
theorem Run.join {α : Type} {pc' : Nat} (P : α → Prop) (ls' : α → Array Slot) (st' : α → List Value) (hJ : ∀ x, P x → Run w l Z EL n0 own nm B ret R Q Ny My h cells slots pc' (ls' x) (st' x)) (hK : (∀ x, P x → Run w l Z EL n0 own nm B ret R Q Ny My h cells slots pc' (ls' x) (st' x)) → Run w l Z EL n0 own nm B ret R Q Ny My h cells slots pc ls st) : Run w l Z EL n0 own nm B ret R Q Ny My h cells slots pc ls st := hK hJ
theorem Run.joinH {α : Type} {pc' cells' slots' : Nat} (P : α → Heap → Prop) (My' : α → List Addr) (ls' : α → Array Slot) (st' : α → List Value) (hJ : ∀ x h', P x h' → Run w l Z EL n0 own nm B ret R Q Ny (My' x) h' cells' slots' pc' (ls' x) (st' x)) (hK : (∀ x h', P x h' → Run w l Z EL n0 own nm B ret R Q Ny (My' x) h' cells' slots' pc' (ls' x) (st' x)) → Run w l Z EL n0 own nm B ret R Q Ny My h cells slots pc ls st) : Run w l Z EL n0 own nm B ret R Q Ny My h cells slots pc ls st := hK hJ
theorem Run.old (r : Old Z n0 h → Run w l Z EL n0 own nm B ret R Q Ny My h cells slots pc ls st) : Run w l Z EL n0 own nm B ret R Q Ny My h cells slots pc ls st :=
  fun p e s m args below meth c T locs vm hx hby hml hret hnm hlk hZ hown X eT N hH => r hH.1 p e s m args below meth c T locs vm hx hby hml hret hnm hlk hZ hown X eT N hH
theorem Run.pure {pc' : Nat} {ls' : Array Slot} {st' : List Value} (H : ∀ (p : Program) (e : Env) (below : List Frame) (T : State) (m : MethodId) (c : Code) (target : State), At T m c below → p.tables.exec = Jvm.exec → c.code = B → Steps p.tables e below (T.setTop (mkF m pc' ls' st')) target → Steps p.tables e below (T.setTop (mkF m pc ls st)) target)
    (hsz : ls'.size = ls.size) (hr : Run w l Z EL n0 own nm B ret R Q Ny My h cells slots pc' ls' st') : Run w l Z EL n0 own nm B ret R Q Ny My h cells slots pc ls st := by
  intro p e s m args below meth c T locs vm hx hby hml hret hnm hlk hZ hown X eT N hH
  obtain ⟨t, o, hs, r⟩ := hr p e s m args below meth c T locs vm hx hby (hml.trans hsz.symm) hret hnm hlk hZ hown X eT N hH
  exact ⟨t, o, H p e below T m c t X.here hx hby hs, r⟩
/-- a step that may warm the tables, over one heap -/
theorem Run.warm {pc' : Nat} {st' : List Value} (H : ∀ (p : Program) (e : Env) (s : State) (m : MethodId) (args : Array Value) (below : List Frame) (meth : Method) (c : Code) (T : State) (locs : List Loc), p.tables.exec = Jvm.exec → c.code = B → c.maxLocals = ls.size → meth.name = nm → Z.Warmed39 s.vm → s.vm.findClass own = some m.cls → Stand p l e R s m args below meth c T locs cells slots → T.heap = h → Old Z n0 h →
      ∃ T', Stand p l e R s m args below meth c T' locs cells slots ∧ T'.heap = h ∧ ∀ target, Steps p.tables e below (T'.setTop (mkF m pc' ls st')) target → Steps p.tables e below (T.setTop (mkF m pc ls st)) target)
    (hr : Run w l Z EL n0 own nm B ret R Q Ny My h cells slots pc' ls st') : Run w l Z EL n0 own nm B ret R Q Ny My h cells slots pc ls st := by
  intro p e s m args below meth c T locs vm hx hby hml hret hnm hlk hZ hown X eT N hH
  obtain ⟨T', X', e', stp⟩ := H p e (s.setVm vm) m args below meth c T locs hx hby hml hnm hZ hown X eT hH.1
  obtain ⟨t, o, hs, r⟩ := hr p e s m args below meth c T' locs vm hx hby hml hret hnm hlk hZ hown X' e' N hH
  exact ⟨t, o, stp t hs, r⟩
theorem Hid.ext {s : State} {vm : Vm} {h' : Heap} (H : Hid w Z EL n0 My s vm h) (E : Ext h h') : Hid w Z EL n0 My s vm h' :=
  ⟨H.1.ext E, H.2.1, fun q => by
    obtain ⟨hEW, ⟨k0, a, b⟩, c, d⟩ := H.2.2 q
    exact ⟨hEW, ⟨k0, a, Nat.le_trans b E.1⟩, c.trans (CHr.ext E c.1), fun x hx => ⟨Nat.lt_of_lt_of_le (d x hx).1 E.1, (d x hx).2.ext E c.1⟩⟩⟩
/-- what was just made is not booked -/
theorem Hid.extNew {s : State} {vm : Vm} {h' : Heap} (H : Hid w Z EL n0 My s vm h) (E : Ext h h') (hlt : h.size < h'.size) : Hid w Z EL n0 (h.size :: My) s vm h' :=
  ⟨H.1.ext E, H.2.1, fun q => by
    obtain ⟨hEW, ⟨k0, a, b⟩, c, d⟩ := H.2.2 q
    refine ⟨hEW, ⟨k0, a, Nat.le_trans b E.1⟩, c.trans (CHr.ext E c.1), fun x hx => ?_⟩
    rcases List.mem_cons.mp hx with rfl | hx
    · exact ⟨hlt, (Safe.new (Nat.le_refl _)).ext E c.1⟩
    · exact ⟨Nat.lt_of_lt_of_le (d x hx).1 E.1, (d x hx).2.ext E c.1⟩⟩
theorem Sf.safe {vm : Vm} {x : Addr} (S : Sf w Z h My x) (q : w = true) (hal : Z.vm.Alike vm) (d : ∀ x ∈ My, x < h.size ∧ Safe Z EL vm h x) : Safe Z EL vm h x := by
  rcases S with e | e | ⟨C, e, h1, h2⟩ | ⟨c, ty, e, h1⟩
  · rw [q] at e; cases e
  · exact (d x e).2
  · exact Safe.exa hal e h1 h2
  · exact Safe.arr hal e h1
theorem Hid.keep {s : State} {vm : Vm} {h' : Heap} {ws : List Addr} (H : Hid w Z EL n0 My s vm h) (hZ : Z.Warmed39 vm) (K : Keep h h' ws) (hs : ∀ x ∈ ws, n0 ≤ x ∧ Sf w Z h My x) : Hid w Z EL n0 My s vm h' :=
  ⟨H.1.keep K fun x hx => (hs x hx).1, H.2.1, fun q => by
    obtain ⟨hEW, ⟨k0, a, b⟩, c, d⟩ := H.2.2 q
    have sf : ∀ x ∈ ws, Safe Z EL vm h x := fun x hx => (hs x hx).2.safe q hZ.alike d
    exact ⟨hEW, ⟨k0, a, Nat.le_trans b K.1⟩, c.trans (CHr.keep K sf c.1), fun x hx => ⟨Nat.lt_of_lt_of_le (d x hx).1 K.1, (d x hx).2.keep K sf c.1⟩⟩⟩
theorem Run.forget {My' : List Addr} (hsub : ∀ x ∈ My', x ∈ My) (r : Run w l Z EL n0 own nm B ret R Q Ny My' h cells slots pc ls st) : Run w l Z EL n0 own nm B ret R Q Ny My h cells slots pc ls st :=
  fun p e s m args below meth c T locs vm hx hby hml hret hnm hlk hZ hown X eT N hH => r p e s m args below meth c T locs vm hx hby hml hret hnm hlk hZ hown X eT N ⟨hH.1, hH.2.1, fun q => ⟨(hH.2.2 q).1, (hH.2.2 q).2.1, (hH.2.2 q).2.2.1, fun x hx => (hH.2.2 q).2.2.2 x (hsub x hx)⟩⟩
/-- more room used than told -/
theorem Run.spend {cells' slots' : Nat} (h1 : cells ≤ cells') (h2 : slots ≤ slots') (r : Run w l Z EL n0 own nm B ret R Q Ny My h cells' slots' pc ls st) : Run w l Z EL n0 own nm B ret R Q Ny My h cells slots pc ls st :=
  fun p e s m args below meth c T locs vm hx hby hml hret hnm hlk hZ hown X eT N hH => r p e s m args below meth c T locs vm hx hby hml hret hnm hlk hZ hown (X.mono h1 h2) eT N hH
theorem Run.post {Q' : Option Value → Heap → Prop} {Ny' : Option Value → List Addr} (hQ : ∀ v h', Q' v h' → Q v h') (hN : ∀ v, ∀ x ∈ Ny v, x ∈ Ny' v) (r : Run w l Z EL n0 own nm B ret R Q' Ny' My h cells slots pc ls st) : Run w l Z EL n0 own nm B ret R Q Ny My h cells slots pc ls st := by
  intro p e s m args below meth c T locs vm hx hby hml hret hnm hlk hZ hown X eT N hH
  obtain ⟨t, o, hs, h1, h2, v, L, h3, h4, h5, h6, h7⟩ := r p e s m args below meth c T locs vm hx hby hml hret hnm hlk hZ hown X eT N hH
  exact ⟨t, o, hs, h1, h2, v, L, h3, hQ _ _ h4, h5, h6, fun q => ⟨(h7 q).1, (h7 q).2.1, fun x hx => (h7 q).2.2 x (hN v x hx)⟩⟩
theorem r_aloadN {pc' : Nat} {k : Fin 4} {v : Value} (hd : decode B pc = .ok (.aload_n k, 1)) (hp : pc + 1 = pc') (hl : ls[k.val]? = some (.val v)) (hv : v.isRef = true) (hr : Run w l Z EL n0 own nm B ret R Q Ny My h cells slots pc' ls (v :: st)) : Run w l Z EL n0 own nm B ret R Q Ny My h cells slots pc ls (st) :=
  Run.pure (fun p e below T m c target hA hx hby hs => XS.aloadN hA hx rfl (hb hby hd) hl hv (by subst hp; exact hs)) rfl hr
theorem r_aload {pc' : Nat} {k : Nat} {v : Value} (hd : decode B pc = .ok (.aload k, 2)) (hp : pc + 2 = pc') (hl : ls[k]? = some (.val v)) (hv : v.isRef = true) (hr : Run w l Z EL n0 own nm B ret R Q Ny My h cells slots pc' ls (v :: st)) : Run w l Z EL n0 own nm B ret R Q Ny My h cells slots pc ls (st) :=
  Run.pure (fun p e below T m c target hA hx hby hs => XS.aload hA hx rfl (hb hby hd) hl hv (by subst hp; exact hs)) rfl hr
theorem r_iloadN {pc' : Nat} {k : Fin 4} {v : Int32} (hd : decode B pc = .ok (.iload_n k, 1)) (hp : pc + 1 = pc') (hl : ls[k.val]? = some (.val (.int v))) (hr : Run w l Z EL n0 own nm B ret R Q Ny My h cells slots pc' ls (.int v :: st)) : Run w l Z EL n0 own nm B ret R Q Ny My h cells slots pc ls (st) :=
  Run.pure (fun p e below T m c target hA hx hby hs => XS.iloadN hA hx rfl (hb hby hd) hl (by subst hp; exact hs)) rfl hr
theorem r_iload {pc' : Nat} {k : Nat} {v : Int32} (hd : decode B pc = .ok (.iload k, 2)) (hp : pc + 2 = pc') (hl : ls[k]? = some (.val (.int v))) (hr : Run w l Z EL n0 own nm B ret R Q Ny My h cells slots pc' ls (.int v :: st)) : Run w l Z EL n0 own nm B ret R Q Ny My h cells slots pc ls (st) :=
  Run.pure (fun p e below T m c target hA hx hby hs => XS.iload hA hx rfl (hb hby hd) hl (by subst hp; exact hs)) rfl hr
theorem r_lloadN {pc' : Nat} {k : Fin 4} {v : Int64} (hd : decode B pc = .ok (.lload_n k, 1)) (hp : pc + 1 = pc') (hl : ls[k.val]? = some (.val (.long v))) (hr : Run w l Z EL n0 own nm B ret R Q Ny My h cells slots pc' ls (.long v :: st)) : Run w l Z EL n0 own nm B ret R Q Ny My h cells slots pc ls (st) :=
  Run.pure (fun p e below T m c target hA hx hby hs => XS.lloadN hA hx rfl (hb hby hd) hl (by subst hp; exact hs)) rfl hr
theorem r_lload {pc' : Nat} {k : Nat} {v : Int64} (hd : decode B pc = .ok (.lload k, 2)) (hp : pc + 2 = pc') (hl : ls[k]? = some (.val (.long v))) (hr : Run w l Z EL n0 own nm B ret R Q Ny My h cells slots pc' ls (.long v :: st)) : Run w l Z EL n0 own nm B ret R Q Ny My h cells slots pc ls (st) :=
  Run.pure (fun p e below T m c target hA hx hby hs => XS.lload hA hx rfl (hb hby hd) hl (by subst hp; exact hs)) rfl hr
theorem r_iconst {pc' : Nat} {i : Int} {v : Int32} (hd : decode B pc = .ok (.iconst i, 1)) (hp : pc + 1 = pc') (hv : Int32.ofInt i = v) (hr : Run w l Z EL n0 own nm B ret R Q Ny My h cells slots pc' ls (.int v :: st)) : Run w l Z EL n0 own nm B ret R Q Ny My h cells slots pc ls st :=
  Run.pure (fun p e below T m c target hA hx hby hs => XS.iconst hA hx rfl (hb hby hd) (by subst hp hv; exact hs)) rfl hr
theorem r_bipush {pc' : Nat} {i : Int} {v : Int32} (hd : decode B pc = .ok (.bipush i, 2)) (hp : pc + 2 = pc') (hv : (Int8.ofInt i).toInt32 = v) (hr : Run w l Z EL n0 own nm B ret R Q Ny My h cells slots pc' ls (.int v :: st)) : Run w l Z EL n0 own nm B ret R Q Ny My h cells slots pc ls st :=
  Run.pure (fun p e below T m c target hA hx hby hs => XS.bipush hA hx rfl (hb hby hd) (by subst hp hv; exact hs)) rfl hr
theorem r_sipush {pc' : Nat} {i : Int} {v : Int32} (hd : decode B pc = .ok (.sipush i, 3)) (hp : pc + 3 = pc') (hv : (Int16.ofInt i).toInt32 = v) (hr : Run w l Z EL n0 own nm B ret R Q Ny My h cells slots pc' ls (.int v :: st)) : Run w l Z EL n0 own nm B ret R Q Ny My h cells slots pc ls st :=
  Run.pure (fun p e below T m c target hA hx hby hs => XS.sipush hA hx rfl (hb hby hd) (by subst hp hv; exact hs)) rfl hr
theorem r_lconst {pc' : Nat} {k : Fin 2} {v : Int64} (hd : decode B pc = .ok (.lconst k, 1)) (hp : pc + 1 = pc') (hv : Int64.ofNat k = v) (hr : Run w l Z EL n0 own nm B ret R Q Ny My h cells slots pc' ls (.long v :: st)) : Run w l Z EL n0 own nm B ret R Q Ny My h cells slots pc ls st :=
  Run.pure (fun p e below T m c target hA hx hby hs => XS.lconst hA hx rfl (hb hby hd) (by subst hp hv; exact hs)) rfl hr
theorem r_aconst {pc' : Nat} (hd : decode B pc = .ok (.aconst_null, 1)) (hp : pc + 1 = pc') (hr : Run w l Z EL n0 own nm B ret R Q Ny My h cells slots pc' ls (.null :: st)) : Run w l Z EL n0 own nm B ret R Q Ny My h cells slots pc ls (st) :=
  Run.pure (fun p e below T m c target hA hx hby hs => XS.aconstNull hA hx rfl (hb hby hd) (by subst hp; exact hs)) rfl hr
theorem r_iadd {pc' : Nat} {x y : Int32} (hd : decode B pc = .ok (.iadd, 1)) (hp : pc + 1 = pc') (hr : Run w l Z EL n0 own nm B ret R Q Ny My h cells slots pc' ls (.int (x + y) :: st)) : Run w l Z EL n0 own nm B ret R Q Ny My h cells slots pc ls (.int y :: .int x :: st) :=
  Run.pure (fun p e below T m c target hA hx hby hs => XS.iadd hA hx rfl (hb hby hd) rfl (by subst hp; exact hs)) rfl hr
theorem r_isub {pc' : Nat} {x y : Int32} (hd : decode B pc = .ok (.isub, 1)) (hp : pc + 1 = pc') (hr : Run w l Z EL n0 own nm B ret R Q Ny My h cells slots pc' ls (.int (x - y) :: st)) : Run w l Z EL n0 own nm B ret R Q Ny My h cells slots pc ls (.int y :: .int x :: st) :=
  Run.pure (fun p e below T m c target hA hx hby hs => XS.isub hA hx rfl (hb hby hd) rfl (by subst hp; exact hs)) rfl hr
theorem r_imul {pc' : Nat} {x y : Int32} (hd : decode B pc = .ok (.imul, 1)) (hp : pc + 1 = pc') (hr : Run w l Z EL n0 own nm B ret R Q Ny My h cells slots pc' ls (.int (x * y) :: st)) : Run w l Z EL n0 own nm B ret R Q Ny My h cells slots pc ls (.int y :: .int x :: st) :=
  Run.pure (fun p e below T m c target hA hx hby hs => XS.imul hA hx rfl (hb hby hd) rfl (by subst hp; exact hs)) rfl hr
theorem r_iand {pc' : Nat} {x y : Int32} (hd : decode B pc = .ok (.iand, 1)) (hp : pc + 1 = pc') (hr : Run w l Z EL n0 own nm B ret R Q Ny My h cells slots pc' ls (.int (x &&& y) :: st)) : Run w l Z EL n0 own nm B ret R Q Ny My h cells slots pc ls (.int y :: .int x :: st) :=
  Run.pure (fun p e below T m c target hA hx hby hs => XS.iand hA hx rfl (hb hby hd) rfl (by subst hp; exact hs)) rfl hr
theorem r_ior {pc' : Nat} {x y : Int32} (hd : decode B pc = .ok (.ior, 1)) (hp : pc + 1 = pc') (hr : Run w l Z EL n0 own nm B ret R Q Ny My h cells slots pc' ls (.int (x ||| y) :: st)) : Run w l Z EL n0 own nm B ret R Q Ny My h cells slots pc ls (.int y :: .int x :: st) :=
  Run.pure (fun p e below T m c target hA hx hby hs => XS.ior hA hx rfl (hb hby hd) rfl (by subst hp; exact hs)) rfl hr
theorem r_ixor {pc' : Nat} {x y : Int32} (hd : decode B pc = .ok (.ixor, 1)) (hp : pc + 1 = pc') (hr : Run w l Z EL n0 own nm B ret R Q Ny My h cells slots pc' ls (.int (x ^^^ y) :: st)) : Run w l Z EL n0 own nm B ret R Q Ny My h cells slots pc ls (.int y :: .int x :: st) :=
  Run.pure (fun p e below T m c target hA hx hby hs => XS.ixor hA hx rfl (hb hby hd) rfl (by subst hp; exact hs)) rfl hr
theorem r_ishl {pc' : Nat} {x y : Int32} (hd : decode B pc = .ok (.ishl, 1)) (hp : pc + 1 = pc') (hr : Run w l Z EL n0 own nm B ret R Q Ny My h cells slots pc' ls (.int (x <<< (y &&& 31)) :: st)) : Run w l Z EL n0 own nm B ret R Q Ny My h cells slots pc ls (.int y :: .int x :: st) :=
  Run.pure (fun p e below T m c target hA hx hby hs => XS.ishl hA hx rfl (hb hby hd) rfl (by subst hp; exact hs)) rfl hr
theorem r_ishr {pc' : Nat} {x y : Int32} (hd : decode B pc = .ok (.ishr, 1)) (hp : pc + 1 = pc') (hr : Run w l Z EL n0 own nm B ret R Q Ny My h cells slots pc' ls (.int (x >>> (y &&& 31)) :: st)) : Run w l Z EL n0 own nm B ret R Q Ny My h cells slots pc ls (.int y :: .int x :: st) :=
  Run.pure (fun p e below T m c target hA hx hby hs => XS.ishr hA hx rfl (hb hby hd) rfl (by subst hp; exact hs)) rfl hr
theorem r_iushr {pc' : Nat} {x y : Int32} (hd : decode B pc = .ok (.iushr, 1)) (hp : pc + 1 = pc') (hr : Run w l Z EL n0 own nm B ret R Q Ny My h cells slots pc' ls (.int ((x.toUInt32 >>> (y &&& 31).toUInt32).toInt32) :: st)) : Run w l Z EL n0 own nm B ret R Q Ny My h cells slots pc ls (.int y :: .int x :: st) :=
  Run.pure (fun p e below T m c target hA hx hby hs => XS.iushr hA hx rfl (hb hby hd) rfl (by subst hp; exact hs)) rfl hr
theorem r_ladd {pc' : Nat} {x y : Int64} (hd : decode B pc = .ok (.ladd, 1)) (hp : pc + 1 = pc') (hr : Run w l Z EL n0 own nm B ret R Q Ny My h cells slots pc' ls (.long (x + y) :: st)) : Run w l Z EL n0 own nm B ret R Q Ny My h cells slots pc ls (.long y :: .long x :: st) :=
  Run.pure (fun p e below T m c target hA hx hby hs => XS.ladd hA hx rfl (hb hby hd) rfl (by subst hp; exact hs)) rfl hr
theorem r_lsub {pc' : Nat} {x y : Int64} (hd : decode B pc = .ok (.lsub, 1)) (hp : pc + 1 = pc') (hr : Run w l Z EL n0 own nm B ret R Q Ny My h cells slots pc' ls (.long (x - y) :: st)) : Run w l Z EL n0 own nm B ret R Q Ny My h cells slots pc ls (.long y :: .long x :: st) :=
  Run.pure (fun p e below T m c target hA hx hby hs => XS.lsub hA hx rfl (hb hby hd) rfl (by subst hp; exact hs)) rfl hr
theorem r_lmul {pc' : Nat} {x y : Int64} (hd : decode B pc = .ok (.lmul, 1)) (hp : pc + 1 = pc') (hr : Run w l Z EL n0 own nm B ret R Q Ny My h cells slots pc' ls (.long (x * y) :: st)) : Run w l Z EL n0 own nm B ret R Q Ny My h cells slots pc ls (.long y :: .long x :: st) :=
  Run.pure (fun p e below T m c target hA hx hby hs => XS.lmul hA hx rfl (hb hby hd) rfl (by subst hp; exact hs)) rfl hr
theorem r_land {pc' : Nat} {x y : Int64} (hd : decode B pc = .ok (.land, 1)) (hp : pc + 1 = pc') (hr : Run w l Z EL n0 own nm B ret R Q Ny My h cells slots pc' ls (.long (x &&& y) :: st)) : Run w l Z EL n0 own nm B ret R Q Ny My h cells slots pc ls (.long y :: .long x :: st) :=
  Run.pure (fun p e below T m c target hA hx hby hs => XS.land hA hx rfl (hb hby hd) rfl (by subst hp; exact hs)) rfl hr
theorem r_lor {pc' : Nat} {x y : Int64} (hd : decode B pc = .ok (.lor, 1)) (hp : pc + 1 = pc') (hr : Run w l Z EL n0 own nm B ret R Q Ny My h cells slots pc' ls (.long (x ||| y) :: st)) : Run w l Z EL n0 own nm B ret R Q Ny My h cells slots pc ls (.long y :: .long x :: st) :=
  Run.pure (fun p e below T m c target hA hx hby hs => XS.lor hA hx rfl (hb hby hd) rfl (by subst hp; exact hs)) rfl hr
theorem r_lxor {pc' : Nat} {x y : Int64} (hd : decode B pc = .ok (.lxor, 1)) (hp : pc + 1 = pc') (hr : Run w l Z EL n0 own nm B ret R Q Ny My h cells slots pc' ls (.long (x ^^^ y) :: st)) : Run w l Z EL n0 own nm B ret R Q Ny My h cells slots pc ls (.long y :: .long x :: st) :=
  Run.pure (fun p e below T m c target hA hx hby hs => XS.lxor hA hx rfl (hb hby hd) rfl (by subst hp; exact hs)) rfl hr
theorem r_idiv {pc' : Nat} {x y : Int32} (hd : decode B pc = .ok (.idiv, 1)) (hp : pc + 1 = pc') (hy : y ≠ 0) (hr : Run w l Z EL n0 own nm B ret R Q Ny My h cells slots pc' ls (.int (x / y) :: st)) : Run w l Z EL n0 own nm B ret R Q Ny My h cells slots pc ls (.int y :: .int x :: st) :=
  Run.pure (fun p e below T m c target hA hx hby hs => XS.idiv hA hx rfl (hb hby hd) rfl hy (by subst hp; exact hs)) rfl hr
theorem r_ldiv {pc' : Nat} {x y : Int64} (hd : decode B pc = .ok (.ldiv, 1)) (hp : pc + 1 = pc') (hy : y ≠ 0) (hr : Run w l Z EL n0 own nm B ret R Q Ny My h cells slots pc' ls (.long (x / y) :: st)) : Run w l Z EL n0 own nm B ret R Q Ny My h cells slots pc ls (.long y :: .long x :: st) :=
  Run.pure (fun p e below T m c target hA hx hby hs => XS.ldiv hA hx rfl (hb hby hd) rfl hy (by subst hp; exact hs)) rfl hr
theorem r_ineg {pc' : Nat} {x : Int32} (hd : decode B pc = .ok (.ineg, 1)) (hp : pc + 1 = pc') (hr : Run w l Z EL n0 own nm B ret R Q Ny My h cells slots pc' ls (.int (-x) :: st)) : Run w l Z EL n0 own nm B ret R Q Ny My h cells slots pc ls (.int x :: st) :=
  Run.pure (fun p e below T m c target hA hx hby hs => XS.ineg hA hx rfl (hb hby hd) rfl (by subst hp; exact hs)) rfl hr
theorem r_i2b {pc' : Nat} {x : Int32} (hd : decode B pc = .ok (.i2b, 1)) (hp : pc + 1 = pc') (hr : Run w l Z EL n0 own nm B ret R Q Ny My h cells slots pc' ls (.int (x.toInt8.toInt32) :: st)) : Run w l Z EL n0 own nm B ret R Q Ny My h cells slots pc ls (.int x :: st) :=
  Run.pure (fun p e below T m c target hA hx hby hs => XS.i2b hA hx rfl (hb hby hd) rfl (by subst hp; exact hs)) rfl hr
theorem r_i2c {pc' : Nat} {x : Int32} (hd : decode B pc = .ok (.i2c, 1)) (hp : pc + 1 = pc') (hr : Run w l Z EL n0 own nm B ret R Q Ny My h cells slots pc' ls (.int (x.toUInt32.toUInt16.toUInt32.toInt32) :: st)) : Run w l Z EL n0 own nm B ret R Q Ny My h cells slots pc ls (.int x :: st) :=
  Run.pure (fun p e below T m c target hA hx hby hs => XS.i2c hA hx rfl (hb hby hd) rfl (by subst hp; exact hs)) rfl hr
theorem r_i2s {pc' : Nat} {x : Int32} (hd : decode B pc = .ok (.i2s, 1)) (hp : pc + 1 = pc') (hr : Run w l Z EL n0 own nm B ret R Q Ny My h cells slots pc' ls (.int (x.toInt16.toInt32) :: st)) : Run w l Z EL n0 own nm B ret R Q Ny My h cells slots pc ls (.int x :: st) :=
  Run.pure (fun p e below T m c target hA hx hby hs => XS.i2s hA hx rfl (hb hby hd) rfl (by subst hp; exact hs)) rfl hr
theorem r_i2l {pc' : Nat} {x : Int32} (hd : decode B pc = .ok (.i2l, 1)) (hp : pc + 1 = pc') (hr : Run w l Z EL n0 own nm B ret R Q Ny My h cells slots pc' ls (.long (x.toInt64) :: st)) : Run w l Z EL n0 own nm B ret R Q Ny My h cells slots pc ls (.int x :: st) :=
  Run.pure (fun p e below T m c target hA hx hby hs => XS.i2l hA hx rfl (hb hby hd) rfl (by subst hp; exact hs)) rfl hr
theorem r_l2i {pc' : Nat} {x : Int64} (hd : decode B pc = .ok (.l2i, 1)) (hp : pc + 1 = pc') (hr : Run w l Z EL n0 own nm B ret R Q Ny My h cells slots pc' ls (.int (x.toInt32) :: st)) : Run w l Z EL n0 own nm B ret R Q Ny My h cells slots pc ls (.long x :: st) :=
  Run.pure (fun p e below T m c target hA hx hby hs => XS.l2i hA hx rfl (hb hby hd) rfl (by subst hp; exact hs)) rfl hr
theorem r_lneg {pc' : Nat} {x : Int64} (hd : decode B pc = .ok (.lneg, 1)) (hp : pc + 1 = pc') (hr : Run w l Z EL n0 own nm B ret R Q Ny My h cells slots pc' ls (.long (-x) :: st)) : Run w l Z EL n0 own nm B ret R Q Ny My h cells slots pc ls (.long x :: st) :=
  Run.pure (fun p e below T m c target hA hx hby hs => XS.lneg hA hx rfl (hb hby hd) rfl (by subst hp; exact hs)) rfl hr
theorem r_lcmp {pc' : Nat} {x y : Int64} (hd : decode B pc = .ok (.lcmp, 1)) (hp : pc + 1 = pc') (hr : Run w l Z EL n0 own nm B ret R Q Ny My h cells slots pc' ls (.int (lcmpW x y) :: st)) : Run w l Z EL n0 own nm B ret R Q Ny My h cells slots pc ls (.long y :: .long x :: st) :=
  Run.pure (fun p e below T m c target hA hx hby hs => XS.lcmp hA hx rfl (hb hby hd) rfl (by subst hp; exact hs)) rfl hr
theorem r_pop {pc' : Nat} {x : Value} (hd : decode B pc = .ok (.pop, 1)) (hp : pc + 1 = pc') (hc : x.category = 1) (hr : Run w l Z EL n0 own nm B ret R Q Ny My h cells slots pc' ls (st)) : Run w l Z EL n0 own nm B ret R Q Ny My h cells slots pc ls (x :: st) :=
  Run.pure (fun p e below T m c target hA hx hby hs => XS.pop hA hx rfl (hb hby hd) rfl hc (by subst hp; exact hs)) rfl hr
theorem r_dup {pc' : Nat} {x : Value} (hd : decode B pc = .ok (.dup, 1)) (hp : pc + 1 = pc') (hc : x.category = 1) (hr : Run w l Z EL n0 own nm B ret R Q Ny My h cells slots pc' ls (x :: x :: st)) : Run w l Z EL n0 own nm B ret R Q Ny My h cells slots pc ls (x :: st) :=
  Run.pure (fun p e below T m c target hA hx hby hs => XS.dup hA hx rfl (hb hby hd) rfl hc (by subst hp; exact hs)) rfl hr
theorem r_swap {pc' : Nat} {x y : Value} (hd : decode B pc = .ok (.swap, 1)) (hp : pc + 1 = pc') (hc : x.category = 1) (hc2 : y.category = 1) (hr : Run w l Z EL n0 own nm B ret R Q Ny My h cells slots pc' ls (y :: x :: st)) : Run w l Z EL n0 own nm B ret R Q Ny My h cells slots pc ls (x :: y :: st) :=
  Run.pure (fun p e below T m c target hA hx hby hs => XS.swap hA hx rfl (hb hby hd) rfl hc hc2 (by subst hp; exact hs)) rfl hr
theorem r_dupX1 {pc' : Nat} {x y : Value} (hd : decode B pc = .ok (.dup_x1, 1)) (hp : pc + 1 = pc') (hc : x.category = 1) (hc2 : y.category = 1) (hr : Run w l Z EL n0 own nm B ret R Q Ny My h cells slots pc' ls (x :: y :: x :: st)) : Run w l Z EL n0 own nm B ret R Q Ny My h cells slots pc ls (x :: y :: st) :=
  Run.pure (fun p e below T m c target hA hx hby hs => XS.dupX1 hA hx rfl (hb hby hd) rfl hc hc2 (by subst hp; exact hs)) rfl hr
theorem r_dup2 {pc' : Nat} {x y : Value} (hd : decode B pc = .ok (.dup2, 1)) (hp : pc + 1 = pc') (hc : x.category = 1) (hc2 : y.category = 1) (hr : Run w l Z EL n0 own nm B ret R Q Ny My h cells slots pc' ls (x :: y :: x :: y :: st)) : Run w l Z EL n0 own nm B ret R Q Ny My h cells slots pc ls (x :: y :: st) :=
  Run.pure (fun p e below T m c target hA hx hby hs => XT.dup2 hA hx rfl (hb hby hd) rfl hc hc2 (by subst hp; exact hs)) rfl hr
theorem r_istoreN {pc' : Nat} {k : Fin 4} {x : Int32} {l' : Array Slot} (hd : decode B pc = .ok (.istore_n k, 1)) (hp : pc + 1 = pc') (hl : storeLocals ls k.val (.int x) = some l') (hr : Run w l Z EL n0 own nm B ret R Q Ny My h cells slots pc' l' (st)) : Run w l Z EL n0 own nm B ret R Q Ny My h cells slots pc ls (.int x :: st) :=
  Run.pure (fun p e below T m c target hA hx hby hs => XS.istoreN hA hx rfl (hb hby hd) rfl hl (by subst hp; exact hs)) (storeLocals_size hl) hr
theorem r_istore {pc' : Nat} {k : Nat} {x : Int32} {l' : Array Slot} (hd : decode B pc = .ok (.istore k, 2)) (hp : pc + 2 = pc') (hl : storeLocals ls k (.int x) = some l') (hr : Run w l Z EL n0 own nm B ret R Q Ny My h cells slots pc' l' (st)) : Run w l Z EL n0 own nm B ret R Q Ny My h cells slots pc ls (.int x :: st) :=
  Run.pure (fun p e below T m c target hA hx hby hs => XS.istore hA hx rfl (hb hby hd) rfl hl (by subst hp; exact hs)) (storeLocals_size hl) hr
theorem r_lstoreN {pc' : Nat} {k : Fin 4} {x : Int64} {l' : Array Slot} (hd : decode B pc = .ok (.lstore_n k, 1)) (hp : pc + 1 = pc') (hl : storeLocals ls k.val (.long x) = some l') (hr : Run w l Z EL n0 own nm B ret R Q Ny My h cells slots pc' l' (st)) : Run w l Z EL n0 own nm B ret R Q Ny My h cells slots pc ls (.long x :: st) :=
  Run.pure (fun p e below T m c target hA hx hby hs => XS.lstoreN hA hx rfl (hb hby hd) rfl hl (by subst hp; exact hs)) (storeLocals_size hl) hr
theorem r_lstore {pc' : Nat} {k : Nat} {x : Int64} {l' : Array Slot} (hd : decode B pc = .ok (.lstore k, 2)) (hp : pc + 2 = pc') (hl : storeLocals ls k (.long x) = some l') (hr : Run w l Z EL n0 own nm B ret R Q Ny My h cells slots pc' l' (st)) : Run w l Z EL n0 own nm B ret R Q Ny My h cells slots pc ls (.long x :: st) :=
  Run.pure (fun p e below T m c target hA hx hby hs => XS.lstore hA hx rfl (hb hby hd) rfl hl (by subst hp; exact hs)) (storeLocals_size hl) hr
theorem r_astoreN {pc' : Nat} {k : Fin 4} {x : Value} {l' : Array Slot} (hd : decode B pc = .ok (.astore_n k, 1)) (hp : pc + 1 = pc') (hv : x.isRef = true) (hl : storeLocals ls k.val x = some l') (hr : Run w l Z EL n0 own nm B ret R Q Ny My h cells slots pc' l' (st)) : Run w l Z EL n0 own nm B ret R Q Ny My h cells slots pc ls (x :: st) :=
  Run.pure (fun p e below T m c target hA hx hby hs => XS.astoreN hA hx rfl (hb hby hd) rfl hv hl (by subst hp; exact hs)) (storeLocals_size hl) hr
theorem r_astore {pc' : Nat} {k : Nat} {x : Value} {l' : Array Slot} (hd : decode B pc = .ok (.astore k, 2)) (hp : pc + 2 = pc') (hv : x.isRef = true) (hl : storeLocals ls k x = some l') (hr : Run w l Z EL n0 own nm B ret R Q Ny My h cells slots pc' l' (st)) : Run w l Z EL n0 own nm B ret R Q Ny My h cells slots pc ls (x :: st) :=
  Run.pure (fun p e below T m c target hA hx hby hs => XS.astore hA hx rfl (hb hby hd) rfl hv hl (by subst hp; exact hs)) (storeLocals_size hl) hr
theorem r_iinc {pc' : Nat} {k : Nat} {cst : Int} {x : Int32} {l' : Array Slot} (hd : decode B pc = .ok (.iinc k cst, 3)) (hp : pc + 3 = pc') (hl : ls[k]? = some (.val (.int x))) (hl' : storeLocals ls k (.int (x + Int32.ofInt cst)) = some l') (hr : Run w l Z EL n0 own nm B ret R Q Ny My h cells slots pc' l' (st)) : Run w l Z EL n0 own nm B ret R Q Ny My h cells slots pc ls (st) :=
  Run.pure (fun p e below T m c target hA hx hby hs => XS.iinc hA hx rfl (hb hby hd) hl hl' (by subst hp; exact hs)) (storeLocals_size hl') hr
theorem r_goto {pc' : Nat} {o : Int} (hd : decode B pc = .ok (.goto o, 3)) (hp : (pc : Int) + o = (pc' : Int)) (hr : Run w l Z EL n0 own nm B ret R Q Ny My h cells slots pc' ls st) : Run w l Z EL n0 own nm B ret R Q Ny My h cells slots pc ls st :=
  Run.pure (fun p e below T m c target hA hx hby hs => XS.goto hA hx rfl (pc0 := pc) (pc' := pc') rfl (hb hby hd) (by omega) (by omega) hs) rfl hr
theorem r_if {pc' pc2 : Nat} {cd : ClassFile.Cond} {o : Int} {x : Int32} (hd : decode B pc = .ok (.ifCond cd o, 3)) (hp : pc + 3 = pc') (hq : (pc : Int) + o = (pc2 : Int)) (h1 : if_icmp.holds cd x 0 = true → Run w l Z EL n0 own nm B ret R Q Ny My h cells slots pc2 ls st) (h2 : if_icmp.holds cd x 0 = false → Run w l Z EL n0 own nm B ret R Q Ny My h cells slots pc' ls st) : Run w l Z EL n0 own nm B ret R Q Ny My h cells slots pc ls (.int x :: st) := by
  cases hb0 : if_icmp.holds cd x 0 with
  | true => exact Run.pure (fun p e below T m c target hA hx hby hs => XS.ifYes hA hx rfl (pc0 := pc) (pc' := pc2) rfl (hb hby hd) rfl ((if0 _ _).trans hb0) (by omega) (by omega) hs) rfl (h1 hb0)
  | false => exact Run.pure (fun p e below T m c target hA hx hby hs => XS.ifNo hA hx rfl (hb hby hd) rfl ((if0 _ _).trans hb0) (by subst hp; exact hs)) rfl (h2 hb0)
theorem r_icmp {pc' pc2 : Nat} {cd : ClassFile.Cond} {o : Int} {x y : Int32} (hd : decode B pc = .ok (.if_icmp cd o, 3)) (hp : pc + 3 = pc') (hq : (pc : Int) + o = (pc2 : Int)) (h1 : if_icmp.holds cd x y = true → Run w l Z EL n0 own nm B ret R Q Ny My h cells slots pc2 ls st) (h2 : if_icmp.holds cd x y = false → Run w l Z EL n0 own nm B ret R Q Ny My h cells slots pc' ls st) : Run w l Z EL n0 own nm B ret R Q Ny My h cells slots pc ls (.int y :: .int x :: st) := by
  cases hb0 : if_icmp.holds cd x y with
  | true => exact Run.pure (fun p e below T m c target hA hx hby hs => XS.icmpYes hA hx rfl (pc0 := pc) (pc' := pc2) rfl (hb hby hd) rfl hb0 (by omega) (by omega) hs) rfl (h1 hb0)
  | false => exact Run.pure (fun p e below T m c target hA hx hby hs => XS.icmpNo hA hx rfl (hb hby hd) rfl hb0 (by subst hp; exact hs)) rfl (h2 hb0)
theorem h_eq {x y : Int32} : (if_icmp.holds .eq x y = true → x = y) ∧ (if_icmp.holds .eq x y = false → ¬ x = y) := ⟨fun q => Classical.byContradiction fun e => (by rw [(feq e).1] at q; cases q), fun q e => (by rw [(teq e).1] at q; cases q)⟩
theorem h_ne {x y : Int32} : (if_icmp.holds .ne x y = true → ¬ x = y) ∧ (if_icmp.holds .ne x y = false → x = y) := ⟨fun q e => (by rw [(teq e).2] at q; cases q), fun q => Classical.byContradiction fun e => (by rw [(feq e).2] at q; cases q)⟩
theorem h_lt {x y : Int32} : (if_icmp.holds .lt x y = true → x < y) ∧ (if_icmp.holds .lt x y = false → ¬ x < y) := ⟨fun q => Classical.byContradiction fun e => (by rw [(flt e).1] at q; cases q), fun q e => (by rw [(tlt e).1] at q; cases q)⟩
theorem h_ge {x y : Int32} : (if_icmp.holds .ge x y = true → ¬ x < y) ∧ (if_icmp.holds .ge x y = false → x < y) := ⟨fun q e => (by rw [(tlt e).2.1] at q; cases q), fun q => Classical.byContradiction fun e => (by rw [(flt e).2.1] at q; cases q)⟩
theorem h_gt {x y : Int32} : (if_icmp.holds .gt x y = true → y < x) ∧ (if_icmp.holds .gt x y = false → ¬ y < x) := ⟨fun q => Classical.byContradiction fun e => (by rw [(flt e).2.2.1] at q; cases q), fun q e => (by rw [(tlt e).2.2.1] at q; cases q)⟩
theorem h_le {x y : Int32} : (if_icmp.holds .le x y = true → ¬ y < x) ∧ (if_icmp.holds .le x y = false → y < x) := ⟨fun q e => (by rw [(tlt e).2.2.2] at q; cases q), fun q => Classical.byContradiction fun e => (by rw [(flt e).2.2.2] at q; cases q)⟩
theorem r_ifeq {pc' pc2 : Nat} {o : Int} {x : Int32} (hd : decode B pc = .ok (.ifCond .eq o, 3)) (hp : pc + 3 = pc') (hq : (pc : Int) + o = (pc2 : Int)) (h1 : x = (0 : Int32) → Run w l Z EL n0 own nm B ret R Q Ny My h cells slots pc2 ls st) (h2 : ¬ x = (0 : Int32) → Run w l Z EL n0 own nm B ret R Q Ny My h cells slots pc' ls st) : Run w l Z EL n0 own nm B ret R Q Ny My h cells slots pc ls (.int x :: st) := r_if hd hp hq (fun q => h1 (h_eq.1 q)) (fun q => h2 (h_eq.2 q))
theorem r_icmpeq {pc' pc2 : Nat} {o : Int} {x y : Int32} (hd : decode B pc = .ok (.if_icmp .eq o, 3)) (hp : pc + 3 = pc') (hq : (pc : Int) + o = (pc2 : Int)) (h1 : x = y → Run w l Z EL n0 own nm B ret R Q Ny My h cells slots pc2 ls st) (h2 : ¬ x = y → Run w l Z EL n0 own nm B ret R Q Ny My h cells slots pc' ls st) : Run w l Z EL n0 own nm B ret R Q Ny My h cells slots pc ls (.int y :: .int x :: st) := r_icmp hd hp hq (fun q => h1 (h_eq.1 q)) (fun q => h2 (h_eq.2 q))
theorem r_ifne {pc' pc2 : Nat} {o : Int} {x : Int32} (hd : decode B pc = .ok (.ifCond .ne o, 3)) (hp : pc + 3 = pc') (hq : (pc : Int) + o = (pc2 : Int)) (h1 : ¬ x = (0 : Int32) → Run w l Z EL n0 own nm B ret R Q Ny My h cells slots pc2 ls st) (h2 : x = (0 : Int32) → Run w l Z EL n0 own nm B ret R Q Ny My h cells slots pc' ls st) : Run w l Z EL n0 own nm B ret R Q Ny My h cells slots pc ls (.int x :: st) := r_if hd hp hq (fun q => h1 (h_ne.1 q)) (fun q => h2 (h_ne.2 q))
theorem r_icmpne {pc' pc2 : Nat} {o : Int} {x y : Int32} (hd : decode B pc = .ok (.if_icmp .ne o, 3)) (hp : pc + 3 = pc') (hq : (pc : Int) + o = (pc2 : Int)) (h1 : ¬ x = y → Run w l Z EL n0 own nm B ret R Q Ny My h cells slots pc2 ls st) (h2 : x = y → Run w l Z EL n0 own nm B ret R Q Ny My h cells slots pc' ls st) : Run w l Z EL n0 own nm B ret R Q Ny My h cells slots pc ls (.int y :: .int x :: st) := r_icmp hd hp hq (fun q => h1 (h_ne.1 q)) (fun q => h2 (h_ne.2 q))
theorem r_iflt {pc' pc2 : Nat} {o : Int} {x : Int32} (hd : decode B pc = .ok (.ifCond .lt o, 3)) (hp : pc + 3 = pc') (hq : (pc : Int) + o = (pc2 : Int)) (h1 : x < (0 : Int32) → Run w l Z EL n0 own nm B ret R Q Ny My h cells slots pc2 ls st) (h2 : ¬ x < (0 : Int32) → Run w l Z EL n0 own nm B ret R Q Ny My h cells slots pc' ls st) : Run w l Z EL n0 own nm B ret R Q Ny My h cells slots pc ls (.int x :: st) := r_if hd hp hq (fun q => h1 (h_lt.1 q)) (fun q => h2 (h_lt.2 q))
theorem r_icmplt {pc' pc2 : Nat} {o : Int} {x y : Int32} (hd : decode B pc = .ok (.if_icmp .lt o, 3)) (hp : pc + 3 = pc') (hq : (pc : Int) + o = (pc2 : Int)) (h1 : x < y → Run w l Z EL n0 own nm B ret R Q Ny My h cells slots pc2 ls st) (h2 : ¬ x < y → Run w l Z EL n0 own nm B ret R Q Ny My h cells slots pc' ls st) : Run w l Z EL n0 own nm B ret R Q Ny My h cells slots pc ls (.int y :: .int x :: st) := r_icmp hd hp hq (fun q => h1 (h_lt.1 q)) (fun q => h2 (h_lt.2 q))
theorem r_ifge {pc' pc2 : Nat} {o : Int} {x : Int32} (hd : decode B pc = .ok (.ifCond .ge o, 3)) (hp : pc + 3 = pc') (hq : (pc : Int) + o = (pc2 : Int)) (h1 : ¬ x < (0 : Int32) → Run w l Z EL n0 own nm B ret R Q Ny My h cells slots pc2 ls st) (h2 : x < (0 : Int32) → Run w l Z EL n0 own nm B ret R Q Ny My h cells slots pc' ls st) : Run w l Z EL n0 own nm B ret R Q Ny My h cells slots pc ls (.int x :: st) := r_if hd hp hq (fun q => h1 (h_ge.1 q)) (fun q => h2 (h_ge.2 q))
theorem r_icmpge {pc' pc2 : Nat} {o : Int} {x y : Int32} (hd : decode B pc = .ok (.if_icmp .ge o, 3)) (hp : pc + 3 = pc') (hq : (pc : Int) + o = (pc2 : Int)) (h1 : ¬ x < y → Run w l Z EL n0 own nm B ret R Q Ny My h cells slots pc2 ls st) (h2 : x < y → Run w l Z EL n0 own nm B ret R Q Ny My h cells slots pc' ls st) : Run w l Z EL n0 own nm B ret R Q Ny My h cells slots pc ls (.int y :: .int x :: st) := r_icmp hd hp hq (fun q => h1 (h_ge.1 q)) (fun q => h2 (h_ge.2 q))
theorem r_ifgt {pc' pc2 : Nat} {o : Int} {x : Int32} (hd : decode B pc = .ok (.ifCond .gt o, 3)) (hp : pc + 3 = pc') (hq : (pc : Int) + o = (pc2 : Int)) (h1 : (0 : Int32) < x → Run w l Z EL n0 own nm B ret R Q Ny My h cells slots pc2 ls st) (h2 : ¬ (0 : Int32) < x → Run w l Z EL n0 own nm B ret R Q Ny My h cells slots pc' ls st) : Run w l Z EL n0 own nm B ret R Q Ny My h cells slots pc ls (.int x :: st) := r_if hd hp hq (fun q => h1 (h_gt.1 q)) (fun q => h2 (h_gt.2 q))
theorem r_icmpgt {pc' pc2 : Nat} {o : Int} {x y : Int32} (hd : decode B pc = .ok (.if_icmp .gt o, 3)) (hp : pc + 3 = pc') (hq : (pc : Int) + o = (pc2 : Int)) (h1 : y < x → Run w l Z EL n0 own nm B ret R Q Ny My h cells slots pc2 ls st) (h2 : ¬ y < x → Run w l Z EL n0 own nm B ret R Q Ny My h cells slots pc' ls st) : Run w l Z EL n0 own nm B ret R Q Ny My h cells slots pc ls (.int y :: .int x :: st) := r_icmp hd hp hq (fun q => h1 (h_gt.1 q)) (fun q => h2 (h_gt.2 q))
theorem r_ifle {pc' pc2 : Nat} {o : Int} {x : Int32} (hd : decode B pc = .ok (.ifCond .le o, 3)) (hp : pc + 3 = pc') (hq : (pc : Int) + o = (pc2 : Int)) (h1 : ¬ (0 : Int32) < x → Run w l Z EL n0 own nm B ret R Q Ny My h cells slots pc2 ls st) (h2 : (0 : Int32) < x → Run w l Z EL n0 own nm B ret R Q Ny My h cells slots pc' ls st) : Run w l Z EL n0 own nm B ret R Q Ny My h cells slots pc ls (.int x :: st) := r_if hd hp hq (fun q => h1 (h_le.1 q)) (fun q => h2 (h_le.2 q))
theorem r_icmple {pc' pc2 : Nat} {o : Int} {x y : Int32} (hd : decode B pc = .ok (.if_icmp .le o, 3)) (hp : pc + 3 = pc') (hq : (pc : Int) + o = (pc2 : Int)) (h1 : ¬ y < x → Run w l Z EL n0 own nm B ret R Q Ny My h cells slots pc2 ls st) (h2 : y < x → Run w l Z EL n0 own nm B ret R Q Ny My h cells slots pc' ls st) : Run w l Z EL n0 own nm B ret R Q Ny My h cells slots pc ls (.int y :: .int x :: st) := r_icmp hd hp hq (fun q => h1 (h_le.1 q)) (fun q => h2 (h_le.2 q))
theorem r_ifnullY {pc2 : Nat} {o : Int} (hd : decode B pc = .ok (.ifnull o, 3)) (hq : (pc : Int) + o = (pc2 : Int)) (hr : Run w l Z EL n0 own nm B ret R Q Ny My h cells slots pc2 ls st) : Run w l Z EL n0 own nm B ret R Q Ny My h cells slots pc ls (.null :: st) :=
  Run.pure (fun p e below T m c target hA hx hby hs => XS.ifnullYes hA hx rfl (pc0 := pc) (pc' := pc2) rfl (hb hby hd) rfl (by omega) (by omega) hs) rfl hr
theorem r_ifnullN {pc' : Nat} {o : Int} {b : Addr} (hd : decode B pc = .ok (.ifnull o, 3)) (hp : pc + 3 = pc') (hr : Run w l Z EL n0 own nm B ret R Q Ny My h cells slots pc' ls st) : Run w l Z EL n0 own nm B ret R Q Ny My h cells slots pc ls (.ref b :: st) :=
  Run.pure (fun p e below T m c target hA hx hby hs => XS.ifnullNo hA hx rfl (hb hby hd) rfl (by subst hp; exact hs)) rfl hr
theorem r_ifnonnullY {pc2 : Nat} {o : Int} {b : Addr} (hd : decode B pc = .ok (.ifnonnull o, 3)) (hq : (pc : Int) + o = (pc2 : Int)) (hr : Run w l Z EL n0 own nm B ret R Q Ny My h cells slots pc2 ls st) : Run w l Z EL n0 own nm B ret R Q Ny My h cells slots pc ls (.ref b :: st) :=
  Run.pure (fun p e below T m c target hA hx hby hs => XS.ifnonnullYes hA hx rfl (pc0 := pc) (pc' := pc2) rfl (hb hby hd) rfl (by omega) (by omega) hs) rfl hr
theorem r_ifnonnullN {pc' : Nat} {o : Int} (hd : decode B pc = .ok (.ifnonnull o, 3)) (hp : pc + 3 = pc') (hr : Run w l Z EL n0 own nm B ret R Q Ny My h cells slots pc' ls st) : Run w l Z EL n0 own nm B ret R Q Ny My h cells slots pc ls (.null :: st) :=
  Run.pure (fun p e below T m c target hA hx hby hs => XS.ifnonnullNo hA hx rfl (hb hby hd) rfl (by subst hp; exact hs)) rfl hr
theorem r_acmp {pc' pc2 : Nat} {cd : ClassFile.ACond} {o : Int} {x y : Value} (hx1 : x.isRef = true) (hy1 : y.isRef = true) (hd : decode B pc = .ok (.if_acmp cd o, 3)) (hp : pc + 3 = pc') (hq : (pc : Int) + o = (pc2 : Int)) (h1 : XT.acmp cd x y = true → Run w l Z EL n0 own nm B ret R Q Ny My h cells slots pc2 ls st) (h2 : XT.acmp cd x y = false → Run w l Z EL n0 own nm B ret R Q Ny My h cells slots pc' ls st) : Run w l Z EL n0 own nm B ret R Q Ny My h cells slots pc ls (y :: x :: st) := by
  cases hb0 : XT.acmp cd x y with
  | true => exact Run.pure (fun p e below T m c target hA hx hby hs => XT.acmpYes hA hx rfl (pc0 := pc) (pc' := pc2) rfl (hb hby hd) rfl hx1 hy1 hb0 (by omega) (by omega) hs) rfl (h1 hb0)
  | false => exact Run.pure (fun p e below T m c target hA hx hby hs => XT.acmpNo hA hx rfl (hb hby hd) rfl hx1 hy1 hb0 (by subst hp; exact hs)) rfl (h2 hb0)
theorem r_istoreS {pc' k : Nat} {x : Int32} {l' : Array Slot} {o : Slot} (hd : decode B pc = .ok (.istore k, 2)) (hp : pc + 2 = pc') (hold : ls[k]? = some o) (ho : One o) (hl : ls.setIfInBounds k (.val (.int x)) = l') (hr : Run w l Z EL n0 own nm B ret R Q Ny My h cells slots pc' l' st) : Run w l Z EL n0 own nm B ret R Q Ny My h cells slots pc ls (.int x :: st) :=
  Run.pure (fun p e below T m c target hA hx hby hs => XS.istoreS hA hx rfl (hb hby hd) rfl hold ho (by subst hp hl; exact hs)) (by subst hl; simp) hr
theorem r_istoreNS {pc' : Nat} {k : Fin 4} {x : Int32} {l' : Array Slot} {o : Slot} (hd : decode B pc = .ok (.istore_n k, 1)) (hp : pc + 1 = pc') (hold : ls[k.val]? = some o) (ho : One o) (hl : ls.setIfInBounds k.val (.val (.int x)) = l') (hr : Run w l Z EL n0 own nm B ret R Q Ny My h cells slots pc' l' st) : Run w l Z EL n0 own nm B ret R Q Ny My h cells slots pc ls (.int x :: st) :=
  Run.pure (fun p e below T m c target hA hx hby hs => XS.istoreNS hA hx rfl (hb hby hd) rfl hold ho (by subst hp hl; exact hs)) (by subst hl; simp) hr
theorem r_irem {pc' : Nat} {x y : Int32} (hd : decode B pc = .ok (.irem, 1)) (hp : pc + 1 = pc') (hy : y ≠ 0) (hr : Run w l Z EL n0 own nm B ret R Q Ny My h cells slots pc' ls (.int (x % y) :: st)) : Run w l Z EL n0 own nm B ret R Q Ny My h cells slots pc ls (.int y :: .int x :: st) :=
  Run.warm (fun p e s m args below meth c T locs hx hby hml hnm hZ hown X eT hO => ⟨T, X, eT, fun t k => iremM X hx (g := mkF m pc ls (.int y :: .int x :: st)) rfl (hb hby hd) rfl hy (by subst hp; exact k)⟩) hr
theorem r_getfield {pc' : Nat} {R0 O n d host : String} {index : Nat} {a : Addr} {v : Value} (hd : decode B pc = .ok (.getfield index, 3)) (hp : pc + 3 = pc') (wl : (Jvm.Cond.fieldLink own index R0 n d).before a0 Z = true ∨ (Jvm.Cond.fieldLinkNest own index R0 n d host).before a0 Z = true) (via : Via Z R0 O n d) (F : Fld Z h a O n d v) (hr : Run w l Z EL n0 own nm B ret R Q Ny My h cells slots pc' ls (v :: st)) : Run w l Z EL n0 own nm B ret R Q Ny My h cells slots pc ls (.ref a :: st) :=
  Run.warm (fun p e s m args below meth c T locs hx hby hml hnm hZ hown X eT hO => by
    obtain ⟨T', X', e', stp⟩ := getF X hx hZ hown wl via eT F (g := mkF m pc ls (.ref a :: st)) rfl rfl (hb hby hd)
    exact ⟨T', X', e', fun t k => stp t (by subst hp; exact k)⟩) hr
theorem r_getstatic {pc' : Nat} {R0 O n d host : String} {index : Nat} {v : Value} (hd : decode B pc = .ok (.getstatic index, 3)) (hp : pc + 3 = pc') (wl : (Jvm.Cond.fieldLink own index R0 n d).before a0 Z = true ∨ (Jvm.Cond.fieldLinkNest own index R0 n d host).before a0 Z = true) (via : Via Z R0 O n d) (F : Sta Z Z.heap O n d v) (hr : Run w l Z EL n0 own nm B ret R Q Ny My h cells slots pc' ls (v :: st)) : Run w l Z EL n0 own nm B ret R Q Ny My h cells slots pc ls st :=
  Run.warm (fun p e s m args below meth c T locs hx hby hml hnm hZ hown X eT hO => by
    obtain ⟨T', X', e', stp⟩ := getS2 X hx hZ hown wl via eT (F.ext hO.2) (g := mkF m pc ls st) rfl (hb hby hd)
    exact ⟨T', X', e', fun t k => stp t (by subst hp; exact k)⟩) hr
theorem r_castY {pc' : Nat} {K : String} {index : Nat} {a : Addr} (hd : decode B pc = .ok (.checkcast index, 3)) (hp : pc + 3 = pc') (wl : (Jvm.Cond.classLink own index K).before a0 Z = true) (F : Ins Z h a K true) (hr : Run w l Z EL n0 own nm B ret R Q Ny My h cells slots pc' ls (.ref a :: st)) : Run w l Z EL n0 own nm B ret R Q Ny My h cells slots pc ls (.ref a :: st) :=
  Run.warm (fun p e s m args below meth c T locs hx hby hml hnm hZ hown X eT hO => by
    obtain ⟨T', X', e', stp⟩ := castY X hx hZ hown wl eT F (g := mkF m pc ls (.ref a :: st)) rfl rfl (hb hby hd)
    exact ⟨T', X', e', fun t k => stp t (by subst hp; exact k)⟩) hr
theorem r_instY {pc' : Nat} {K : String} {index : Nat} {a : Addr} (hd : decode B pc = .ok (.instanceof index, 3)) (hp : pc + 3 = pc') (wl : (Jvm.Cond.classLink own index K).before a0 Z = true) (F : Ins Z h a K true) (hr : Run w l Z EL n0 own nm B ret R Q Ny My h cells slots pc' ls (.int 1 :: st)) : Run w l Z EL n0 own nm B ret R Q Ny My h cells slots pc ls (.ref a :: st) :=
  Run.warm (fun p e s m args below meth c T locs hx hby hml hnm hZ hown X eT hO => by
    obtain ⟨T', X', e', stp⟩ := instY X hx hZ hown wl eT F (g := mkF m pc ls (.ref a :: st)) rfl rfl (hb hby hd)
    exact ⟨T', X', e', fun t k => stp t (by subst hp; exact k)⟩) hr
theorem r_instNo {pc' : Nat} {K C : String} {index : Nat} {a : Addr} (hd : decode B pc = .ok (.instanceof index, 3)) (hp : pc + 3 = pc') (wl : (Jvm.Cond.classLink own index K).before a0 Z = true) (E : Exa Z h a C) (F : ∃ c t, Z.vm.findClass C = some c ∧ Z.vm.findClass K = some t ∧ Z.vm.assignable c t = false) (hr : Run w l Z EL n0 own nm B ret R Q Ny My h cells slots pc' ls (.int 0 :: st)) : Run w l Z EL n0 own nm B ret R Q Ny My h cells slots pc ls (.ref a :: st) :=
  Run.warm (fun p e s m args below meth c T locs hx hby hml hnm hZ hown X eT hO => by
    obtain ⟨T', X', e', stp⟩ := instNo X hx hZ hown wl eT E F (g := mkF m pc ls (.ref a :: st)) rfl rfl (hb hby hd)
    exact ⟨T', X', e', fun t k => stp t (by subst hp; exact k)⟩) hr
theorem r_instNull {pc' : Nat} {index : Nat} (hd : decode B pc = .ok (.instanceof index, 3)) (hp : pc + 3 = pc') (hr : Run w l Z EL n0 own nm B ret R Q Ny My h cells slots pc' ls (.int 0 :: st)) : Run w l Z EL n0 own nm B ret R Q Ny My h cells slots pc ls (.null :: st) :=
  Run.warm (fun p e s m args below meth c T locs hx hby hml hnm hZ hown X eT hO => ⟨T, X, eT, fun t k => X.instanceofNull hx (g := mkF m pc ls (.null :: st)) rfl rfl (hb hby hd) t (by subst hp; exact k)⟩) hr
theorem r_castNull {pc' : Nat} {index : Nat} (hd : decode B pc = .ok (.checkcast index, 3)) (hp : pc + 3 = pc') (hr : Run w l Z EL n0 own nm B ret R Q Ny My h cells slots pc' ls (.null :: st)) : Run w l Z EL n0 own nm B ret R Q Ny My h cells slots pc ls (.null :: st) :=
  Run.warm (fun p e s m args below meth c T locs hx hby hml hnm hZ hown X eT hO => ⟨T, X, eT, fun t k => X.checkcastNull hx (g := mkF m pc ls (.null :: st)) rfl rfl (hb hby hd) t (by subst hp; exact k)⟩) hr
theorem r_initO {pc' : Nat} {index : Nat} {a : Addr} {W : Nat} (hd : decode B pc = .ok (.invokespecial index, 3)) (hp : pc + 3 = pc') (w1 : (Jvm.Cond.methodLink own index Lib.objectInit).before a0 Z = true) (w2 : (Jvm.Cond.instanceMethod Lib.objectInit).before a0 Z = true) (w3 : (Jvm.Cond.code Lib.objectInit ⟨#[0xb1]⟩ 1 none).before a0 Z = true)
    (hf : 1 ≤ R.frames) (hW : (st.map fun v => v.category).sum ≤ W) (hl : W + 12 ≤ R.locals) (hr : Run w l Z EL n0 own nm B ret R Q Ny My h cells slots pc' ls st) : Run w l Z EL n0 own nm B ret R Q Ny My h cells slots pc ls (.ref a :: st) :=
  Run.warm (fun p e s m args below meth c T locs hx hby hml hnm hZ hown X eT hO => by
    obtain ⟨T', X', e', stp⟩ := initO X hx hZ hown w1 w2 w3 eT (g := mkF m pc ls (.ref a :: st)) rfl hml.symm rfl (hb hby hd) hf (W := W) (by show 2 * 0 + _ ≤ _; omega) hl
    exact ⟨T', X', e', fun t k => stp t (by subst hp; exact k)⟩) hr
theorem r_ldcI {pc' : Nat} {index : Nat} {v : Int32} (hd : decode B pc = .ok (.ldc index, 2)) (hp : pc + 2 = pc') (wl : (Jvm.Cond.constant own index v).before a0 Z = true) (hr : Run w l Z EL n0 own nm B ret R Q Ny My h cells slots pc' ls (.int v :: st)) : Run w l Z EL n0 own nm B ret R Q Ny My h cells slots pc ls st :=
  Run.warm (fun p e s m args below meth c T locs hx hby hml hnm hZ hown X eT hO => ⟨T, X, eT, fun t k => X.ldcInt hx hown (mvT hZ wl) (g := mkF m pc ls st) rfl (hb hby hd) t (by subst hp; exact k)⟩) hr
theorem r_ldcwI {pc' : Nat} {index : Nat} {v : Int32} (hd : decode B pc = .ok (.ldc_w index, 3)) (hp : pc + 3 = pc') (wl : (Jvm.Cond.constant own index v).before a0 Z = true) (hr : Run w l Z EL n0 own nm B ret R Q Ny My h cells slots pc' ls (.int v :: st)) : Run w l Z EL n0 own nm B ret R Q Ny My h cells slots pc ls st :=
  Run.warm (fun p e s m args below meth c T locs hx hby hml hnm hZ hown X eT hO => ⟨T, X, eT, fun t k => X.ldcwInt hx hown (mvT hZ wl) (g := mkF m pc ls st) rfl (hb hby hd) t (by subst hp; exact k)⟩) hr
theorem r_lookHit {pc2 len : Nat} {k : Int32} {dflt a off : Int} {pairs : Array (Int × Int)} (hd : decode B pc = .ok (.lookupswitch dflt pairs, len)) (hs : (pairs.toList.zip (pairs.toList.drop 1)).all (fun (a, next) => a.1 < next.1) = true) (hf : pairs.find? (·.1 == k.toInt) = some (a, off)) (hq : (pc : Int) + off = (pc2 : Int)) (hr : Run w l Z EL n0 own nm B ret R Q Ny My h cells slots pc2 ls st) : Run w l Z EL n0 own nm B ret R Q Ny My h cells slots pc ls (.int k :: st) :=
  Run.warm (fun p ee s m args below meth c T locs hx hby hml hnm hZ hown X eT hO => ⟨T, X, eT, fun t kk => X.lookupswitchHit hx (g := mkF m pc ls (.int k :: st)) rfl rfl (hb hby hd) hs hf (by show 0 ≤ (pc : Int) + off; omega) t (by
    have e : ((pc : Int) + off).toNat = pc2 := by omega
    show Steps p.tables ee below (T.setTop (mkF m ((pc : Int) + off).toNat ls st)) t
    rw [e]; exact kk)⟩) hr
theorem r_lookMiss {pc2 len : Nat} {k : Int32} {dflt : Int} {pairs : Array (Int × Int)} (hd : decode B pc = .ok (.lookupswitch dflt pairs, len)) (hs : (pairs.toList.zip (pairs.toList.drop 1)).all (fun (a, next) => a.1 < next.1) = true) (hf : pairs.find? (·.1 == k.toInt) = none) (hq : (pc : Int) + dflt = (pc2 : Int)) (hr : Run w l Z EL n0 own nm B ret R Q Ny My h cells slots pc2 ls st) : Run w l Z EL n0 own nm B ret R Q Ny My h cells slots pc ls (.int k :: st) :=
  Run.warm (fun p ee s m args below meth c T locs hx hby hml hnm hZ hown X eT hO => ⟨T, X, eT, fun t kk => X.lookupswitchMiss hx (g := mkF m pc ls (.int k :: st)) rfl rfl (hb hby hd) hs hf (by show 0 ≤ (pc : Int) + dflt; omega) t (by
    have e : ((pc : Int) + dflt).toNat = pc2 := by omega
    show Steps p.tables ee below (T.setTop (mkF m ((pc : Int) + dflt).toNat ls st)) t
    rw [e]; exact kk)⟩) hr
theorem r_tabIn {pc2 len : Nat} {k : Int32} {dflt low high off : Int} {offs : Array Int} (hd : decode B pc = .ok (.tableswitch dflt low high offs, len)) (hin : ¬ (k.toInt < low ∨ k.toInt > high)) (ho : offs[(k.toInt - low).toNat]? = some off) (hq : (pc : Int) + off = (pc2 : Int)) (hr : Run w l Z EL n0 own nm B ret R Q Ny My h cells slots pc2 ls st) : Run w l Z EL n0 own nm B ret R Q Ny My h cells slots pc ls (.int k :: st) :=
  Run.pure (fun p e below T m c target hA hx hby hs => XS.tswIn hA hx rfl (pc0 := pc) (pc' := pc2) rfl (hb hby hd) rfl hin ho (by omega) (by omega) hs) rfl hr
theorem r_tabOut {pc2 len : Nat} {k : Int32} {dflt low high : Int} {offs : Array Int} (hd : decode B pc = .ok (.tableswitch dflt low high offs, len)) (hout : k.toInt < low ∨ k.toInt > high) (hq : (pc : Int) + dflt = (pc2 : Int)) (hr : Run w l Z EL n0 own nm B ret R Q Ny My h cells slots pc2 ls st) : Run w l Z EL n0 own nm B ret R Q Ny My h cells slots pc ls (.int k :: st) :=
  Run.pure (fun p e below T m c target hA hx hby hs => XS.tswOut hA hx rfl (pc0 := pc) (pc' := pc2) rfl (hb hby hd) rfl hout (by omega) (by omega) hs) rfl hr
theorem r_ldc2L {pc' : Nat} {index : Nat} {v : Int64} (hd : decode B pc = .ok (.ldc2_w index, 3)) (hp : pc + 3 = pc') (wl : (Jvm.Cond.constantLong own index v).before a0 Z = true) (hr : Run w l Z EL n0 own nm B ret R Q Ny My h cells slots pc' ls (.long v :: st)) : Run w l Z EL n0 own nm B ret R Q Ny My h cells slots pc ls st :=
  Run.warm (fun p e s m args below meth c T locs hx hby hml hnm hZ hown X eT hO => ⟨T, X, eT, fun t k => X.ldc2Long hx hown (mvT hZ wl) (g := mkF m pc ls st) rfl (hb hby hd) t (by subst hp; exact k)⟩) hr
theorem r_arraylength {pc' : Nat} {a : Addr} {k : ClassId} {ty : FieldType} {z : Int32} {vs : List Value} {dv : Value} (hd : decode B pc = .ok (.arraylength, 1)) (hp : pc + 1 = pc') (A : Arv Z h a k ty z vs dv) (hr : Run w l Z EL n0 own nm B ret R Q Ny My h cells slots pc' ls (.int z :: st)) : Run w l Z EL n0 own nm B ret R Q Ny My h cells slots pc ls (.ref a :: st) :=
  Run.warm (fun p e s m args below meth c T locs hx hby hml hnm hZ hown X eT hO => by
    obtain ⟨cl, A1, -, S1, N1, -, -⟩ := A
    refine ⟨T, X, eT, fun t k => X.arraylength hx (by rw [eT]; exact A1.1) (State.isArrayOf_alike hZ.alike A1.2.1) (g := mkF m pc ls (.ref a :: st)) rfl rfl (hb hby hd) t ?_⟩
    rw [len_of S1 N1]; subst hp; exact k) hr
theorem arv_at {Z : State} {h : Heap} {a : Addr} {k : ClassId} {ty : FieldType} {z j : Int32} {vs : List Value} {dv v : Value} (A : Arv Z h a k ty z vs dv) (hj : ¬ j < 0 ∧ j < z) (hv : vs.getD j.toNatClampNeg dv = v) :
    ∃ c, Arr Z h a c ty ∧ ¬ (j < 0 ∨ c.slots.size ≤ j.toNatClampNeg) ∧ c.slots[j.toNatClampNeg]? = some v := by
  obtain ⟨cl, A1, -, S1, N1, H1, -⟩ := A
  exact ⟨cl, A1, inb_of S1 hj, H1.at (inb_of S1 hj) hv⟩
theorem r_caload {pc' : Nat} {a : Addr} {k : ClassId} {z j : Int32} {vs : List Value} {dv v : Value} (hd : decode B pc = .ok (.caload, 1)) (hp : pc + 1 = pc') (A : Arv Z h a k .char z vs dv) (hj : ¬ j < 0 ∧ j < z) (hv : vs.getD j.toNatClampNeg dv = v) (hr : Run w l Z EL n0 own nm B ret R Q Ny My h cells slots pc' ls (v :: st)) : Run w l Z EL n0 own nm B ret R Q Ny My h cells slots pc ls (.int j :: .ref a :: st) :=
  Run.warm (fun p e s m args below meth c T locs hx hby hml hnm hZ hown X eT hO => by
    obtain ⟨cl, A1, b1, g1⟩ := arv_at A hj hv
    exact ⟨T, X, eT, fun t k => X.caload hx (by rw [eT]; exact A1.1) (State.isArrayOf_alike hZ.alike A1.2.1) A1.2.2 b1 g1 (g := mkF m pc ls (.int j :: .ref a :: st)) rfl rfl (hb hby hd) t (by subst hp; exact k)⟩) hr
theorem r_iaload {pc' : Nat} {a : Addr} {k : ClassId} {z j : Int32} {vs : List Value} {dv v : Value} (hd : decode B pc = .ok (.iaload, 1)) (hp : pc + 1 = pc') (A : Arv Z h a k .int z vs dv) (hj : ¬ j < 0 ∧ j < z) (hv : vs.getD j.toNatClampNeg dv = v) (hr : Run w l Z EL n0 own nm B ret R Q Ny My h cells slots pc' ls (v :: st)) : Run w l Z EL n0 own nm B ret R Q Ny My h cells slots pc ls (.int j :: .ref a :: st) :=
  Run.warm (fun p e s m args below meth c T locs hx hby hml hnm hZ hown X eT hO => by
    obtain ⟨cl, A1, b1, g1⟩ := arv_at A hj hv
    exact ⟨T, X, eT, fun t k => X.iaload hx (by rw [eT]; exact A1.1) (State.isArrayOf_alike hZ.alike A1.2.1) A1.2.2 b1 g1 (g := mkF m pc ls (.int j :: .ref a :: st)) rfl rfl (hb hby hd) t (by subst hp; exact k)⟩) hr
theorem r_baload {pc' : Nat} {a : Addr} {k : ClassId} {z j : Int32} {vs : List Value} {dv v : Value} (hd : decode B pc = .ok (.baload, 1)) (hp : pc + 1 = pc') (A : Arv Z h a k .byte z vs dv) (hj : ¬ j < 0 ∧ j < z) (hv : vs.getD j.toNatClampNeg dv = v) (hr : Run w l Z EL n0 own nm B ret R Q Ny My h cells slots pc' ls (v :: st)) : Run w l Z EL n0 own nm B ret R Q Ny My h cells slots pc ls (.int j :: .ref a :: st) :=
  Run.warm (fun p e s m args below meth c T locs hx hby hml hnm hZ hown X eT hO => by
    obtain ⟨cl, A1, b1, g1⟩ := arv_at A hj hv
    exact ⟨T, X, eT, fun t k => X.baloadBytes hx (by rw [eT]; exact A1.1) (State.isArrayOf_alike hZ.alike A1.2.1) A1.2.2 b1 g1 (g := mkF m pc ls (.int j :: .ref a :: st)) rfl rfl (hb hby hd) t (by subst hp; exact k)⟩) hr
theorem r_aaload {pc' : Nat} {a : Addr} {k : ClassId} {ty : FieldType} {z j : Int32} {vs : List Value} {dv v : Value} (hd : decode B pc = .ok (.aaload, 1)) (hp : pc + 1 = pc') (A : Arv Z h a k ty z vs dv) (hty : ty.isReference = true) (hj : ¬ j < 0 ∧ j < z) (hv : vs.getD j.toNatClampNeg dv = v) (hr : Run w l Z EL n0 own nm B ret R Q Ny My h cells slots pc' ls (v :: st)) : Run w l Z EL n0 own nm B ret R Q Ny My h cells slots pc ls (.int j :: .ref a :: st) :=
  Run.warm (fun p e s m args below meth c T locs hx hby hml hnm hZ hown X eT hO => by
    obtain ⟨cl, A1, b1, g1⟩ := arv_at A hj hv
    exact ⟨T, X, eT, fun t k => X.aaload hx (by rw [eT]; exact A1.1) (State.isArrayOf_alike hZ.alike A1.2.1) hty A1.2.2 b1 g1 (g := mkF m pc ls (.int j :: .ref a :: st)) rfl rfl (hb hby hd) t (by subst hp; exact k)⟩) hr
/-- a step that makes or writes -/
theorem Run.heap {pc' cells' slots' : Nat} {st' : List Value} {h' : Heap} {My' : List Addr} (H : ∀ (p : Program) (e : Env) (s : State) (m : MethodId) (args : Array Value) (below : List Frame) (meth : Method) (c : Code) (T : State) (locs : List Loc) (vm : Vm), p.tables.exec = Jvm.exec → c.code = B → c.maxLocals = ls.size → meth.name = nm → Z.Warmed39 vm → vm.findClass own = some m.cls → Stand p l e R (s.setVm vm) m args below meth c T locs cells slots → T.heap = h → Fr n0 locs → Hid w Z EL n0 My s vm h →
      ∃ T' locs', Stand p l e R (s.setVm vm) m args below meth c T' locs' cells' slots' ∧ T'.heap = h' ∧ Fr n0 locs' ∧ Hid w Z EL n0 My' s vm h' ∧ ∀ target, Steps p.tables e below (T'.setTop (mkF m pc' ls st')) target → Steps p.tables e below (T.setTop (mkF m pc ls st)) target)
    (hr : Run w l Z EL n0 own nm B ret R Q Ny My' h' cells' slots' pc' ls st') : Run w l Z EL n0 own nm B ret R Q Ny My h cells slots pc ls st := by
  intro p e s m args below meth c T locs vm hx hby hml hret hnm hlk hZ hown X eT N hH
  obtain ⟨T', locs', X', e', N', hH', stp⟩ := H p e s m args below meth c T locs vm hx hby hml hnm hZ hown X eT N hH
  obtain ⟨t, o, hs, r⟩ := hr p e s m args below meth c T' locs' vm hx hby hml hret hnm hlk hZ hown X' e' N' hH'
  exact ⟨t, o, stp t hs, r⟩
theorem r_new {pc' : Nat} {C : String} {index n : Nat} (hd : decode B pc = .ok (.new index, 3)) (hp : pc + 3 = pc') (wl : (Jvm.Cond.classLink own index C).before a0 Z = true) (wi : (Jvm.Cond.instantiable C n).before a0 Z = true) (wz : (Jvm.Cond.initialized C).before a0 Z = true) (hc : cells + 1 ≤ R.cells) (hl : slots + n ≤ R.slots)
    (K : ∀ (h' : Heap) (b : Nat), b = h.size → h.size < h'.size → Ext h h' → Exa Z h' b C → (∀ {O nm d : String} {ty : FieldType}, Laid Z a0 C O nm d → parseFieldDescriptor d = some ty → Fld Z h' b O nm d (defaultValue ty)) → Unt h' b → Run w l Z EL n0 own nm B ret R Q Ny (b :: My) h' (cells + 1) (slots + n) pc' ls (.ref b :: st)) : Run w l Z EL n0 own nm B ret R Q Ny My h cells slots pc ls st := by
  intro p e s m args below meth c T locs vm hx hby hml hret hnm hlk hZ hown X eT N hH
  obtain ⟨T', h', X', e', E', A', D', U', stp⟩ := newO X hx hZ hown wl wi wz eT (g := mkF m pc ls st) rfl (hb hby hd) hc hl
  have hlt : h.size < h'.size := A'.lt
  obtain ⟨t, o, hs, r⟩ := K h' h.size rfl hlt E' A' D' U' p e s m args below meth c T' locs vm hx hby hml hret hnm hlk hZ hown X' e' N (hH.extNew E' hlt)
  exact ⟨t, o, stp t (by subst hp; exact hs), r⟩
theorem r_newP {pc' : Nat} {aty : ArrayType} {n : Int32} {cap : Nat} {ad : String} (hd : decode B pc = .ok (.newarray aty, 2)) (hp : pc + 2 = pc') (wa : (Jvm.Cond.arrayClass (newarray.typeOf aty)).before a0 Z = true) (hn : ¬ n < 0) (hcap : n.toNatClampNeg ≤ cap) (hbig : cap * 8 ≤ 536870912) (hc : cells + 1 ≤ R.cells) (hl : slots + cap ≤ R.slots) (had : "[" ++ (newarray.typeOf aty).toString = ad)
    (K : ∀ (h' : Heap) (b : Nat) (k : ClassId), b = h.size → h.size < h'.size → Ext h h' → Exa Z h' b ad → Arv Z h' b k (newarray.typeOf aty) n [] (defaultValue (newarray.typeOf aty)) → Run w l Z EL n0 own nm B ret R Q Ny (b :: My) h' (cells + 1) (slots + cap) pc' ls (.ref b :: st)) : Run w l Z EL n0 own nm B ret R Q Ny My h cells slots pc ls (.int n :: st) := by
  intro p e s m args below meth c T locs vm hx hby hml hret hnm hlk hZ hown X eT N hH
  obtain ⟨T', h', cA, X', e', E', A', D', stp⟩ := newPE X hx hZ wa eT (g := mkF m pc ls (.int n :: st)) rfl (hb hby hd) rfl hn hcap hbig hc hl had
  have hlt : h.size < h'.size := D'.lt
  obtain ⟨t, o, hs, r⟩ := K h' h.size cA rfl hlt E' D' (Arv.new A' hn) p e s m args below meth c T' locs vm hx hby hml hret hnm hlk hZ hown X' e' N (hH.extNew E' hlt)
  exact ⟨t, o, stp t (by subst hp; exact hs), r⟩
theorem r_newR {pc' : Nat} {C : String} {index : Nat} {n : Int32} {cap : Nat} {ad : String} (hd : decode B pc = .ok (.anewarray index, 3)) (hp : pc + 3 = pc') (w1 : (Jvm.Cond.classLink own index C).before a0 Z = true) (w2 : (Jvm.Cond.arrayOver (.object C)).before a0 Z = true) (hn : ¬ n < 0) (hcap : n.toNatClampNeg ≤ cap) (hbig : cap * 8 ≤ 536870912) (hc : cells + 1 ≤ R.cells) (hl : slots + cap ≤ R.slots) (had : "[" ++ (FieldType.object C).toString = ad)
    (K : ∀ (h' : Heap) (b : Nat) (k : ClassId), b = h.size → h.size < h'.size → Ext h h' → Exa Z h' b ad → Ovr Z k C → Arv Z h' b k (.object C) n [] .null → Run w l Z EL n0 own nm B ret R Q Ny (b :: My) h' (cells + 1) (slots + cap) pc' ls (.ref b :: st)) : Run w l Z EL n0 own nm B ret R Q Ny My h cells slots pc ls (.int n :: st) := by
  intro p e s m args below meth c T locs vm hx hby hml hret hnm hlk hZ hown X eT N hH
  obtain ⟨T', h', cA, X', e', E', A', D', O', stp⟩ := newRE X hx hZ hown w1 w2 eT (g := mkF m pc ls (.int n :: st)) rfl (hb hby hd) rfl hn hcap hbig hc hl had
  have hlt : h.size < h'.size := D'.lt
  obtain ⟨t, o, hs, r⟩ := K h' h.size cA rfl hlt E' D' O' (Arv.new A' hn) p e s m args below meth c T' locs vm hx hby hml hret hnm hlk hZ hown X' e' N (hH.extNew E' hlt)
  exact ⟨t, o, stp t (by subst hp; exact hs), r⟩
theorem r_putfield {pc' : Nat} {R0 O n d C : String} {index kk : Nat} {ty : FieldType} {a : Addr} {v v' old : Value} (hd : decode B pc = .ok (.putfield index, 3)) (hp : pc + 3 = pc') (wl : (Jvm.Cond.fieldLink own index R0 n d).before a0 Z = true) (via : Via Z R0 O n d) (F : Fld Z h a O n d old) (E : Exa Z h a C)
    (L : (Jvm.Cond.lays C O n d).before a0 Z = true ∨ ((Jvm.Cond.laysFinal C O n d).before a0 Z = true ∧ own = O ∧ nm = "<init>")) (wi : (Jvm.Cond.instantiable C kk).before a0 Z = true) (hty : parseFieldDescriptor d = some ty) (hn : narrow ty v = v') (hf : fits ty v' = true) (ge : n0 ≤ a) (S : Sf w Z h My a)
    (K : ∀ h' : Heap, Wr h h' a (Jvm.RoadKit.slotOf Z O n d) v' → Run w l Z EL n0 own nm B ret R Q Ny My h' cells slots pc' ls st) : Run w l Z EL n0 own nm B ret R Q Ny My h cells slots pc ls (v :: .ref a :: st) := by
  intro p e s m args below meth c T locs vm hx hby hml hret hnm hlk hZ hown X eT N hH
  obtain ⟨T', h', X', e', W', stp⟩ := putFN X hx hZ hown wl via eT F E (L.imp id fun q => ⟨q.1, q.2.1, hnm.trans q.2.2⟩) wi hty hn hf (g := mkF m pc ls (v :: .ref a :: st)) rfl rfl (hb hby hd)
  obtain ⟨t, o, hs, r⟩ := K h' W' p e s m args below meth c T' _ vm hx hby hml hret hnm hlk hZ hown X' e' (Fr.snoc X' N ge) (hH.keep hZ (Keep.of_wr W') (allS ⟨ge, S⟩ all0))
  exact ⟨t, o, stp t (by subst hp; exact hs), r⟩
theorem Sf.arv {w : Bool} {Z : State} {h : Heap} {My : List Addr} {a : Addr} {k : ClassId} {ty : FieldType} {z : Int32} {vs : List Value} {dv : Value} (A : Arv Z h a k ty z vs dv) (ht : ty ≠ .byte) : Sf w Z h My a := by
  obtain ⟨cl, A1, -⟩ := A
  exact Or.inr (Or.inr (Or.inr ⟨cl, ty, A1, ht⟩))
theorem Sf.exa {w : Bool} {Z : State} {h : Heap} {My : List Addr} {a : Addr} {C : String} (E : Exa Z h a C) (h1 : C ≠ "java/lang/String") (h2 : C ≠ "[B") : Sf w Z h My a := Or.inr (Or.inr (Or.inl ⟨C, E, h1, h2⟩))
theorem Sf.my {w : Bool} {Z : State} {h : Heap} {My : List Addr} {a : Addr} (q : a ∈ My) : Sf w Z h My a := Or.inr (Or.inl q)
theorem r_castore {pc' : Nat} {a : Addr} {k : ClassId} {z j x : Int32} {vs : List Value} {dv : Value} (i : Nat) (hd : decode B pc = .ok (.castore, 1)) (hp : pc + 1 = pc') (A : Arv Z h a k .char z vs dv) (hj : ¬ j < 0 ∧ j < z) (hi : j.toNatClampNeg = i) (hlen : i < vs.length) (ge : n0 ≤ a) 
    (K : ∀ h' : Heap, Wr h h' a i (.int (nar .char x)) → Arv Z h' a k .char z (vs.set i (.int (nar .char x))) dv → Run w l Z EL n0 own nm B ret R Q Ny My h' cells slots pc' ls st) : Run w l Z EL n0 own nm B ret R Q Ny My h cells slots pc ls (.int x :: .int j :: .ref a :: st) := by
  intro p e s m args below meth c T locs vm hx hby hml hret hnm hlk hZ hown X eT N hH
  obtain ⟨cl, A1, q1, S1, N1, H1, G1⟩ := id A
  obtain ⟨T', h', X', e', W', stp⟩ := stC X hx hZ eT A1 (inb_of S1 hj) (g := mkF m pc ls (.int x :: .int j :: .ref a :: st)) rfl rfl (hb hby hd)
  have S : Sf w Z h My a := Sf.arv A (by decide)
  obtain ⟨t, o, hs, r⟩ := K h' (hi ▸ W') (Arv.set A1 q1 S1 N1 H1 G1 (fits_nar_char _) W' i hi hlen) p e s m args below meth c T' _ vm hx hby hml hret hnm hlk hZ hown X' e' (Fr.snoc X' N ge) (hH.keep hZ (Keep.of_wr W') (allS ⟨ge, S⟩ all0))
  exact ⟨t, o, stp t (by subst hp; exact hs), r⟩
theorem r_bastore {pc' : Nat} {a : Addr} {k : ClassId} {z j x : Int32} {vs : List Value} {dv : Value} (i : Nat) (hd : decode B pc = .ok (.bastore, 1)) (hp : pc + 1 = pc') (A : Arv Z h a k .byte z vs dv) (hj : ¬ j < 0 ∧ j < z) (hi : j.toNatClampNeg = i) (hlen : i < vs.length) (ge : n0 ≤ a) (S : Sf w Z h My a) 
    (K : ∀ h' : Heap, Wr h h' a i (.int (nar .byte x)) → Arv Z h' a k .byte z (vs.set i (.int (nar .byte x))) dv → Run w l Z EL n0 own nm B ret R Q Ny My h' cells slots pc' ls st) : Run w l Z EL n0 own nm B ret R Q Ny My h cells slots pc ls (.int x :: .int j :: .ref a :: st) := by
  intro p e s m args below meth c T locs vm hx hby hml hret hnm hlk hZ hown X eT N hH
  obtain ⟨cl, A1, q1, S1, N1, H1, G1⟩ := id A
  obtain ⟨T', h', X', e', W', stp⟩ := stB X hx hZ eT A1 (inb_of S1 hj) (g := mkF m pc ls (.int x :: .int j :: .ref a :: st)) rfl rfl (hb hby hd)
  obtain ⟨t, o, hs, r⟩ := K h' (hi ▸ W') (Arv.set A1 q1 S1 N1 H1 G1 (fits_nar_byte _) W' i hi hlen) p e s m args below meth c T' _ vm hx hby hml hret hnm hlk hZ hown X' e' (Fr.snoc X' N ge) (hH.keep hZ (Keep.of_wr W') (allS ⟨ge, S⟩ all0))
  exact ⟨t, o, stp t (by subst hp; exact hs), r⟩
theorem r_sastore {pc' : Nat} {a : Addr} {k : ClassId} {z j x : Int32} {vs : List Value} {dv : Value} (i : Nat) (hd : decode B pc = .ok (.sastore, 1)) (hp : pc + 1 = pc') (A : Arv Z h a k .short z vs dv) (hj : ¬ j < 0 ∧ j < z) (hi : j.toNatClampNeg = i) (hlen : i < vs.length) (ge : n0 ≤ a) 
    (K : ∀ h' : Heap, Wr h h' a i (.int (nar .short x)) → Arv Z h' a k .short z (vs.set i (.int (nar .short x))) dv → Run w l Z EL n0 own nm B ret R Q Ny My h' cells slots pc' ls st) : Run w l Z EL n0 own nm B ret R Q Ny My h cells slots pc ls (.int x :: .int j :: .ref a :: st) := by
  intro p e s m args below meth c T locs vm hx hby hml hret hnm hlk hZ hown X eT N hH
  obtain ⟨cl, A1, q1, S1, N1, H1, G1⟩ := id A
  obtain ⟨T', h', X', e', W', stp⟩ := stS X hx hZ eT A1 (inb_of S1 hj) (g := mkF m pc ls (.int x :: .int j :: .ref a :: st)) rfl rfl (hb hby hd)
  have S : Sf w Z h My a := Sf.arv A (by decide)
  obtain ⟨t, o, hs, r⟩ := K h' (hi ▸ W') (Arv.set A1 q1 S1 N1 H1 G1 (fits_nar_short _) W' i hi hlen) p e s m args below meth c T' _ vm hx hby hml hret hnm hlk hZ hown X' e' (Fr.snoc X' N ge) (hH.keep hZ (Keep.of_wr W') (allS ⟨ge, S⟩ all0))
  exact ⟨t, o, stp t (by subst hp; exact hs), r⟩
theorem r_bastoreZ {pc' : Nat} {a : Addr} {k : ClassId} {z j x : Int32} {vs : List Value} {dv : Value} (i : Nat) (hd : decode B pc = .ok (.bastore, 1)) (hp : pc + 1 = pc') (A : Arv Z h a k .boolean z vs dv) (hj : ¬ j < 0 ∧ j < z) (hi : j.toNatClampNeg = i) (hlen : i < vs.length) (ge : n0 ≤ a) 
    (K : ∀ h' : Heap, Wr h h' a i (.int (nar .boolean x)) → Arv Z h' a k .boolean z (vs.set i (.int (nar .boolean x))) dv → Run w l Z EL n0 own nm B ret R Q Ny My h' cells slots pc' ls st) : Run w l Z EL n0 own nm B ret R Q Ny My h cells slots pc ls (.int x :: .int j :: .ref a :: st) := by
  intro p e s m args below meth c T locs vm hx hby hml hret hnm hlk hZ hown X eT N hH
  obtain ⟨cl, A1, q1, S1, N1, H1, G1⟩ := id A
  obtain ⟨T', h', X', e', W', stp⟩ := stZ X hx hZ eT A1 (inb_of S1 hj) (g := mkF m pc ls (.int x :: .int j :: .ref a :: st)) rfl rfl (hb hby hd)
  have S : Sf w Z h My a := Sf.arv A (by decide)
  obtain ⟨t, o, hs, r⟩ := K h' (hi ▸ W') (Arv.set A1 q1 S1 N1 H1 G1 (fits_nar_bool _) W' i hi hlen) p e s m args below meth c T' _ vm hx hby hml hret hnm hlk hZ hown X' e' (Fr.snoc X' N ge) (hH.keep hZ (Keep.of_wr W') (allS ⟨ge, S⟩ all0))
  exact ⟨t, o, stp t (by subst hp; exact hs), r⟩
theorem r_iastore {pc' : Nat} {a : Addr} {k : ClassId} {z j x : Int32} {vs : List Value} {dv : Value} (i : Nat) (hd : decode B pc = .ok (.iastore, 1)) (hp : pc + 1 = pc') (A : Arv Z h a k .int z vs dv) (hj : ¬ j < 0 ∧ j < z) (hi : j.toNatClampNeg = i) (hlen : i < vs.length) (ge : n0 ≤ a) 
    (K : ∀ h' : Heap, Wr h h' a i (.int x) → Arv Z h' a k .int z (vs.set i (.int x)) dv → Run w l Z EL n0 own nm B ret R Q Ny My h' cells slots pc' ls st) : Run w l Z EL n0 own nm B ret R Q Ny My h cells slots pc ls (.int x :: .int j :: .ref a :: st) := by
  intro p e s m args below meth c T locs vm hx hby hml hret hnm hlk hZ hown X eT N hH
  obtain ⟨cl, A1, q1, S1, N1, H1, G1⟩ := id A
  obtain ⟨T', h', X', e', W', stp⟩ := stI X hx hZ eT A1 (inb_of S1 hj) (g := mkF m pc ls (.int x :: .int j :: .ref a :: st)) rfl rfl (hb hby hd)
  have S : Sf w Z h My a := Sf.arv A (by decide)
  obtain ⟨t, o, hs, r⟩ := K h' (hi ▸ W') (Arv.set A1 q1 S1 N1 H1 G1 (rfl) W' i hi hlen) p e s m args below meth c T' _ vm hx hby hml hret hnm hlk hZ hown X' e' (Fr.snoc X' N ge) (hH.keep hZ (Keep.of_wr W') (allS ⟨ge, S⟩ all0))
  exact ⟨t, o, stp t (by subst hp; exact hs), r⟩
theorem r_aastore {pc' : Nat} {a : Addr} {k : ClassId} {ty : FieldType} {z j : Int32} {vs : List Value} {dv v : Value} (i : Nat) (hd : decode B pc = .ok (.aastore, 1)) (hp : pc + 1 = pc') (A : Arv Z h a k ty z vs dv) (hty : ty.isReference = true) (hj : ¬ j < 0 ∧ j < z) (hi : j.toNatClampNeg = i) (hlen : i < vs.length) (F : Sto Z h a v) (hv : fits ty v = true) (ge : n0 ≤ a)
    (K : ∀ h' : Heap, Wr h h' a i v → Arv Z h' a k ty z (vs.set i v) dv → Run w l Z EL n0 own nm B ret R Q Ny My h' cells slots pc' ls st) : Run w l Z EL n0 own nm B ret R Q Ny My h cells slots pc ls (v :: .int j :: .ref a :: st) := by
  intro p e s m args below meth c T locs vm hx hby hml hret hnm hlk hZ hown X eT N hH
  obtain ⟨cl, A1, q1, S1, N1, H1, G1⟩ := id A
  obtain ⟨T', h', X', e', W', stp⟩ := stR X hx hZ eT A1 (inb_of S1 hj) hty F (g := mkF m pc ls (v :: .int j :: .ref a :: st)) rfl rfl (hb hby hd)
  have S : Sf w Z h My a := Sf.arv A (fun q => by rw [q] at hty; cases hty)
  obtain ⟨t, o, hs, r⟩ := K h' (hi ▸ W') (Arv.set A1 q1 S1 N1 H1 G1 hv W' i hi hlen) p e s m args below meth c T' _ vm hx hby hml hret hnm hlk hZ hown X' e' (Fr.snoc X' N ge) (hH.keep hZ (Keep.of_wr W') (allS ⟨ge, S⟩ all0))
  exact ⟨t, o, stp t (by subst hp; exact hs), r⟩
theorem r_arraycopy {pc' index : Nat} {a b : Addr} {k k' : ClassId} {ty ty' : FieldType} {z z' sp dp nn : Int32} {vs vd us : List Value} {dv dd : Value} {W : Nat} (hd : decode B pc = .ok (.invokestatic index, 3)) (hp : pc + 3 = pc')
    (w1 : (Jvm.Cond.methodLink own index Jvm.Stand.acN).before a0 Z = true) (w2 : (Jvm.Cond.native Jvm.Stand.acN).before a0 Z = true) (w3 : (Jvm.Cond.static Jvm.Stand.acN).before a0 Z = true) (w4 : (Jvm.Cond.initialized "java/lang/System").before a0 Z = true)
    (A : Arv Z h a k ty z vs dv) (B' : Arv Z h b k' ty' z' vd dd) (hty : (ty = ty' ∧ refKind ty = false) ∨ (refKind ty = true ∧ refKind ty' = true ∧ StoL Z h b us)) (h1 : ¬ sp < 0) (h2 : ¬ dp < 0) (h3 : ¬ nn < 0) (h4 : sp.toNatClampNeg + nn.toNatClampNeg ≤ z.toNatClampNeg) (h5 : dp.toNatClampNeg + nn.toNatClampNeg ≤ z'.toNatClampNeg)
    (hus : us = (List.range nn.toNatClampNeg).map fun i => vs.getD (sp.toNatClampNeg + i) dv) (hlv : dp.toNatClampNeg + nn.toNatClampNeg ≤ vd.length) (ge : n0 ≤ b) (S : Sf w Z h My b) (hf : 1 ≤ R.frames) (hW : (st.map fun v => v.category).sum ≤ W) (hlo : W + (nativeFrameWords "java/lang/System" "arraycopy" 5 + 11) ≤ R.locals)
    (K : ∀ h' : Heap, Keep h h' [b] → Arv Z h' b k' ty' z' (vd.take dp.toNatClampNeg ++ us ++ vd.drop (dp.toNatClampNeg + nn.toNatClampNeg)) dd → Run w l Z EL n0 own nm B ret R Q Ny My h' cells slots pc' ls st) : Run w l Z EL n0 own nm B ret R Q Ny My h cells slots pc ls (.int nn :: .int dp :: .ref b :: .int sp :: .ref a :: st) := by
  intro p e s m args below meth c T locs vm hx hby hml hret hnm hlk hZ hown X eT N hH
  obtain ⟨T', h', L', X', e', N', K', A', stp⟩ := cpA X hx hZ hown w1 w2 w3 w4 eT A B' hty h1 h2 h3 h4 h5 hus hlv N ge (g := mkF m pc ls (.int nn :: .int dp :: .ref b :: .int sp :: .ref a :: st)) rfl hml.symm rfl (hb hby hd) hf (W := W) (by show 2 * 0 + _ ≤ _; omega) hlo
  obtain ⟨t, o, hs, r⟩ := K h' K' A' p e s m args below meth c T' L' vm hx hby hml hret hnm hlk hZ hown X' e' N' (hH.keep hZ K' (allS ⟨ge, S⟩ all0))
  exact ⟨t, o, stp t (by subst hp; exact hs), r⟩
/-- the end of a walk -/
theorem Run.leave {v : Option Value} (hv : ret = none → v = none) (hQ : Q v h) (hS : ∀ x ∈ Ny v, x ∈ My) (hc : cells ≤ R.cells) (hl : slots ≤ R.slots)
    (H : ∀ (p : Program) (e : Env) (s : State) (m : MethodId) (args : Array Value) (below : List Frame) (meth : Method) (c : Code) (T : State) (locs : List Loc) (fs : List Frame), p.tables.exec = Jvm.exec → c.code = B → meth.sig.returnType = ret → Stand p l e R s m args below meth c T locs cells slots →
      (∀ (f : JFrame) (acts : List Action), f.method = m → f.locked = none → f.entered = [] → (doReturn e (T.setTop f) acts v).1 = T.setFrames fs) → Steps p.tables e below (T.setTop (mkF m pc ls st)) (T.setFrames fs)) : Run w l Z EL n0 own nm B ret R Q Ny My h cells slots pc ls st := by
  intro p e s m args below meth c T locs vm hx hby hml hret hnm hlk hZ hown X eT N hH
  cases w with
  | false =>
    obtain rfl := hH.2.1 rfl
    obtain ⟨fs, hr, hrun, hended, hW, hsame⟩ := X.leave (v := v) (fun q => hv (hret ▸ q)) hlk
    exact ⟨_, _, H p e _ m args below meth c T locs fs hx hby hret X hr, hrun, hended, v, locs, rfl, (by show Q v T.heap; rw [eT]; exact hQ), N, fun _ => ⟨⟨v, rfl⟩, hW, hsame.mono hc hl⟩, fun q => (by cases q)⟩
  | true =>
    obtain ⟨hEW0, ⟨k0, hS0, hk0⟩, hC, hMy⟩ := hH.2.2 rfl
    obtain ⟨fs, hr, hrun, hended, hE⟩ := X.leaveW hS0 (by rw [eT]; exact hk0) (v := v) (fun q => hv (hret ▸ q)) hlk
    have hZT : Z.Warmed39 T.vm := wtrans (s := s.setVm vm) hZ X.warmed
    have hA : CHr Z EL vm h T.vm h := by obtain ⟨a1, hEW⟩ := hEW0; exact CHv.at X hZ hEW hC.1
    exact ⟨_, _, H p e _ m args below meth c T locs fs hx hby hret X hr, hrun, hended, v, locs, rfl, (by show Q v T.heap; rw [eT]; exact hQ), N, fun q => (by cases q), fun _ => ⟨⟨hE.1, hE.2.1, hE.2.2.1, hE.2.2.2.mono hc hl⟩, by
      show CHr Z EL s.vm s.heap T.vm T.heap
      rw [eT]; exact hC.trans hA, fun x hx => by
      show x < T.heap.size ∧ Safe Z EL T.vm T.heap x
      rw [eT]
      exact ⟨(hMy x (hS x hx)).1, hA.safe (hMy x (hS x hx)).1 (hMy x (hS x hx)).2⟩⟩⟩
theorem r_ireturn {z : Int32} (hd : decode B pc = .ok (.ireturn, 1)) (hret : ret = some .int) (hQ : Q (some (.int z)) h) (hS : ∀ x ∈ Ny (some (.int z)), x ∈ My) (hc : cells ≤ R.cells) (hl : slots ≤ R.slots) : Run w l Z EL n0 own nm B ret R Q Ny My h cells slots pc ls (.int z :: st) :=
  Run.leave (v := some (.int z)) (fun q => by rw [hret] at q; cases q) hQ hS hc hl fun p e s m args below meth c T locs fs hx hby hr X hl => retOut X hx (hr.trans hret) rfl (Or.inl ⟨rfl, Or.inl rfl, z, rfl⟩) (hb hby hd) hl
theorem r_ireturnN {z : Int32} {t : FieldType} (hd : decode B pc = .ok (.ireturn, 1)) (hret : ret = some t) (ht : t = .boolean ∨ t = .byte ∨ t = .char ∨ t = .short) (hQ : Q (some (.int (nar t z))) h) (hS : ∀ x ∈ Ny (some (.int (nar t z))), x ∈ My) (hc : cells ≤ R.cells) (hl : slots ≤ R.slots) : Run w l Z EL n0 own nm B ret R Q Ny My h cells slots pc ls (.int z :: st) :=
  Run.leave (v := some (.int (nar t z))) (fun q => by rw [hret] at q; cases q) hQ hS hc hl fun p e s m args below meth c T locs fs hx hby hr X hl => retN X hx (hr.trans hret) ht (hb hby hd) hl
theorem r_lreturn {z : Int64} (hd : decode B pc = .ok (.lreturn, 1)) (hret : ret = some .long) (hQ : Q (some (.long z)) h) (hS : ∀ x ∈ Ny (some (.long z)), x ∈ My) (hc : cells ≤ R.cells) (hl : slots ≤ R.slots) : Run w l Z EL n0 own nm B ret R Q Ny My h cells slots pc ls (.long z :: st) :=
  Run.leave (v := some (.long z)) (fun q => by rw [hret] at q; cases q) hQ hS hc hl fun p e s m args below meth c T locs fs hx hby hr X hl => retOut X hx (hr.trans hret) rfl (Or.inr (Or.inl ⟨rfl, rfl, z, rfl⟩)) (hb hby hd) hl
theorem r_areturn {v : Value} {t : FieldType} (hd : decode B pc = .ok (.areturn, 1)) (hret : ret = some t) (ht : t.isReference = true) (hv : v.isRef = true) (hn : narrow t v = v) (hQ : Q (some v) h) (hS : ∀ x ∈ Ny (some v), x ∈ My) (hc : cells ≤ R.cells) (hl : slots ≤ R.slots) : Run w l Z EL n0 own nm B ret R Q Ny My h cells slots pc ls (v :: st) :=
  Run.leave (v := some v) (fun q => by rw [hret] at q; cases q) hQ hS hc hl fun p e s m args below meth c T locs fs hx hby hr X hl => retOut X hx (hr.trans hret) hn (Or.inr (Or.inr (Or.inr (Or.inr ⟨rfl, ht, hv⟩)))) (hb hby hd) hl
theorem r_return (hd : decode B pc = .ok (.return_, 1)) (hret : ret = none) (hQ : Q none h) (hS : ∀ x ∈ Ny none, x ∈ My) (hc : cells ≤ R.cells) (hl : slots ≤ R.slots) : Run w l Z EL n0 own nm B ret R Q Ny My h cells slots pc ls [] :=
  Run.leave (v := none) (fun _ => rfl) hQ hS hc hl fun p e s m args below meth c T locs fs hx hby hr X hl => X.returnOut hx (hr.trans hret) (hb hby hd) hl
end Rules
/-- who pays a call, tables not widened -/
def Pays (l : Launch) (Z : State) (n0 : Nat) (R : Room) (y : MethodName) (len W : Nat) (as : Array Value) (h : Heap) (kc ks : Nat) (Q : Option Value → Heap → Prop) : Prop :=
  Old Z n0 h → ∀ (p : Program) (e : Env) (below : List Frame) (s : State) (args : Array Value), Z.Warmed39 s.vm →
    Back l R p e below s args y len W (fun A a => a = as ∧ A.U.heap = h ∧ A.cells + kc ≤ R.cells ∧ A.slots + ks ≤ R.slots) (fun A _ v B => ∃ L, (Q v B.U.heap ∧ Fr n0 L) ∧ B.locs = A.locs ++ L ∧ B.cells = A.cells + kc ∧ B.slots = A.slots + ks)
/-- who pays a call that may intern -/
def PaysW (l : Launch) (Z : State) (EL : List (String × Nat)) (n0 : Nat) (My : List Addr) (R : Room) (y : MethodName) (len W : Nat) (as : Array Value) (h : Heap) (kc ks : Nat) (Q : Option Value → Heap → Prop) (Ny : Option Value → List Addr) : Prop :=
  Old Z n0 h → ∀ (p : Program) (e : Env) (below : List Frame) (s : State) (args : Array Value) (vm : Vm), Z.Warmed39 vm → (∃ a0, EW Z a0 EL) → CHv Z EL vm h → (∀ x ∈ My, x < h.size ∧ Safe Z EL vm h x) →
    BackS l R p e below (s.setVm vm) args y len W (fun A a => a = as ∧ A.U.heap = h ∧ A.cells + kc ≤ R.cells ∧ A.slots + ks ≤ R.slots) (fun A _ v B => ∃ L, (Q v B.U.heap ∧ Fr n0 L) ∧ B.locs = A.locs ++ L ∧ B.cells = A.cells + kc ∧ B.slots = A.slots + ks ∧ CHr Z EL vm h B.U.vm B.U.heap ∧ ∀ x ∈ Ny v, x < B.U.heap.size ∧ Safe Z EL B.U.vm B.U.heap x)
section Calls
variable {w : Bool} {l : Launch} {Z : State} {EL : List (String × Nat)} {n0 : Nat} {own nm : String} {B : ByteArray} {ret : Option FieldType} {R : Room} {Q : Option Value → Heap → Prop} {Ny : Option Value → List Addr} {My : List Addr} {h : Heap} {cells slots pc : Nat} {ls : Array Slot} {st : List Value} {a0 : Array Value}
theorem Ok.pays {y : MethodName} {bytes : ByteArray} {maxL : Nat} {rt : Option FieldType} {rm : Room} {as : Array Value} {Qc : Option Value → Heap → Prop} {Nc : Option Value → List Addr} {len W : Nat} (O : Ok false l Z EL n0 My y bytes maxL rt rm as h Qc Nc) (wc : (Jvm.Cond.code y bytes maxL rt).before a0 Z = true) (wz : (Jvm.Cond.initialized y.cls).before a0 Z = true) (hf : rm.frames + 1 ≤ R.frames) (hl : W + (maxL + 11) + rm.locals ≤ R.locals) :
    Pays l Z n0 R y len W as h rm.cells rm.slots Qc := fun hO p e below s args hZ => by
  have hM : MetFree l y (head1 [Jvm.Cond.code y bytes maxL rt] rm) (fun a U => a = as ∧ Z.Warmed39 U.vm ∧ U.heap = h) (fun _ _ _ _ _ => True) (fun _ U o U' => ∃ v L, o = .returned v ∧ (Qc v U'.heap ∧ Fr n0 L) ∧ FrameEnd U o U' L rm.cells rm.slots) := by
    intro p e ha hc hk s m args below hf happ hP hK
    obtain ⟨n, o, h1, h2, h3, v, L, h4, h5, h6, h7, -⟩ := O [] p e ha hc hk s m args below hf happ ⟨hP.1, hP.2.1, hP.2.2, hO, fun q => by cases q⟩ hK
    exact ⟨n, o, h1, h2, h3, v, L, h4, ⟨h5, h6⟩, h7 rfl⟩
  exact backOf (Q := fun v h' L => Qc v h' ∧ Fr n0 L) hM hZ wc wz hf hl
theorem Ok.paysW {y : MethodName} {bytes : ByteArray} {maxL : Nat} {rt : Option FieldType} {rm : Room} {as : Array Value} {Qc : Option Value → Heap → Prop} {Nc : Option Value → List Addr} {len W : Nat} (O : Ok true l Z EL n0 My y bytes maxL rt rm as h Qc Nc) (wc : (Jvm.Cond.code y bytes maxL rt).before a0 Z = true) (wz : (Jvm.Cond.initialized y.cls).before a0 Z = true) (hf : rm.frames + 1 ≤ R.frames) (hl : W + (maxL + 11) + rm.locals ≤ R.locals) :
    PaysW l Z EL n0 My R y len W as h rm.cells rm.slots Qc Nc := fun hO p e below s args vm0 hZ hEL H hMy => by
  obtain ⟨a1, hEW⟩ := id hEL
  exact BackS.of_freeW (bytes := bytes) (maxL := maxL) (ret := rt) (E := fun _ first o t L k n => k = rm.cells ∧ n = rm.slots ∧ (∃ v, o = .returned v ∧ (Qc v t.heap ∧ Fr n0 L) ∧ ∀ x ∈ Nc v, x < t.heap.size ∧ Safe Z EL t.vm t.heap x) ∧ CHr Z EL first.vm first.heap t.vm t.heap) (O []) hf hl
    (fun m meth c A a Y hp => have hU : Z.Warmed39 A.U.vm := wtrans (s := s.setVm vm0) hZ Y.warmed
      ⟨by show (Cond.and _ .tt).before a A.U = true; rw [Cond.before_and, mv hU wc]; rfl, mv hU wc, mv hU wz, hp.2.2.1, hp.2.2.2⟩)
    (fun m meth c A a g mk Y hp => ⟨hp.1, wtrans (s := s.setVm vm0) hZ Y.warmed, hp.2.1, hO, fun _ => ⟨hEL, (CHv.at Y hZ hEW H).1, fun x hx => ⟨(hMy x hx).1, (CHv.at Y hZ hEW H).safe (hMy x hx).1 (hMy x hx).2⟩⟩⟩) (fun _ _ _ _ _ _ _ _ _ => trivial)
    (fun _ _ _ _ ⟨v, L, h1, h2, h3, h4⟩ => ⟨L, _, _, (h4.2 rfl).1, rfl, rfl, ⟨v, h1, ⟨h2, h3⟩, (h4.2 rfl).2.2⟩, (h4.2 rfl).2.1⟩)
    (fun m meth c A a g mk v t L k n Y hp _ _ ⟨e1, e2, ⟨v', e3, e4, e4'⟩, e5⟩ => by
      cases e3; subst e1 e2
      refine ⟨L, e4, rfl, rfl, rfl, (CHv.at Y hZ hEW H).trans ?_, e4'⟩
      rw [← hp.2.1]; exact e5)
/-- a call, narrow -/
theorem Run.call {pc' len W kc ks : Nat} {y : MethodName} {as : Array Value} {Qc : Option Value → Heap → Prop} {rest : List Value} {wl : List Addr} (hp : pc + len = pc')
    (H : ∀ (p : Program) (e : Env) (s : State) (m : MethodId) (args : Array Value) (below : List Frame) (meth : Method) (c : Code) (T : State) (locs : List Loc), p.tables.exec = Jvm.exec → c.code = B → c.maxLocals = ls.size → Z.Warmed39 s.vm → s.vm.findClass own = some m.cls → Stand p l e R s m args below meth c T locs cells slots → T.heap = h →
      ∀ (Pre : Pt → Array Value → Prop) (Post : Pt → Array Value → Option Value → Pt → Prop), Back l R p e below s args y len W Pre Post → (∀ vm₁, s.WarmedH vm₁ → Pre ⟨T.setVm vm₁, locs, cells, slots⟩ as) →
        ∃ (v : Option Value) (vm₁ : Vm) (B' : Pt), s.WarmedH vm₁ ∧ Stand p l e R s m args below meth c B'.U B'.locs B'.cells B'.slots ∧ Post ⟨T.setVm vm₁, locs, cells, slots⟩ as v B' ∧ Steps p.tables e below (T.setTop (mkF m pc ls st)) (B'.U.setTop (mkF m (pc + len) ls (v.toList ++ rest))))
    (P : Pays l Z n0 R y len W as h kc ks Qc) (hk : ∀ v h', Qc v h' → Keep h h' wl) (hs : ∀ x ∈ wl, n0 ≤ x ∧ Sf w Z h My x) (hc : cells + kc ≤ R.cells) (hl : slots + ks ≤ R.slots)
    (K : ∀ v h', Qc v h' → Run w l Z EL n0 own nm B ret R Q Ny My h' (cells + kc) (slots + ks) pc' ls (v.toList ++ rest)) : Run w l Z EL n0 own nm B ret R Q Ny My h cells slots pc ls st := by
  intro p e s m args below meth c T locs vm hx hby hml hret hnm hlk hZ hown X eT N hH
  obtain ⟨v, vm₁, ⟨U, L', c', n'⟩, -, X', ⟨L, ⟨hq, hF⟩, l1, l2, l3⟩, stp⟩ := H p e (s.setVm vm) m args below meth c T locs hx hby hml hZ hown X eT _ _ (P hH.1 p e below (s.setVm vm) args hZ) (fun vm₁ _ => ⟨rfl, eT, hc, hl⟩)
  dsimp only [Pt.U, Pt.locs, Pt.cells, Pt.slots] at X' l1 l2 l3 stp hq
  subst l1 l2 l3
  obtain ⟨t, o, hs', r⟩ := K v U.heap hq p e s m args below meth c U _ vm hx hby hml hret hnm hlk hZ hown X' rfl (Fr.app N hF) (hH.keep hZ (hk v _ hq) hs)
  exact ⟨t, o, stp.trans (by subst hp; exact hs'), r⟩
/-- a call that may intern, in a walk that may -/
theorem Run.callW {pc' len W kc ks : Nat} {y : MethodName} {as : Array Value} {Qc : Option Value → Heap → Prop} {Nc : Option Value → List Addr} {Mc : List Addr} {rest : List Value} {wl : List Addr} (hw : w = true) (hp : pc + len = pc')
    (H : ∀ (p : Program) (e : Env) (s : State) (m : MethodId) (args : Array Value) (below : List Frame) (meth : Method) (c : Code) (T : State) (locs : List Loc), p.tables.exec = Jvm.exec → c.code = B → c.maxLocals = ls.size → Z.Warmed39 s.vm → s.vm.findClass own = some m.cls → Stand p l e R s m args below meth c T locs cells slots → T.heap = h →
      ∀ (Pre : Pt → Array Value → Prop) (Post : Pt → Array Value → Option Value → Pt → Prop), BackS l R p e below s args y len W Pre Post → (∀ vm₁, s.WarmedH vm₁ → Pre ⟨T.setVm vm₁, locs, cells, slots⟩ as) →
        ∃ (v : Option Value) (vm₁ : Vm) (B' : Pt), s.WarmedH vm₁ ∧ Stand p l e R (s.setVm B'.U.vm) m args below meth c B'.U B'.locs B'.cells B'.slots ∧ s.Since B'.U.vm B'.U.heap.size ∧ T.heap.size ≤ B'.U.heap.size ∧ Post ⟨T.setVm vm₁, locs, cells, slots⟩ as v B' ∧ Steps p.tables e below (T.setTop (mkF m pc ls st)) (B'.U.setTop (mkF m (pc + len) ls (v.toList ++ rest))))
    (P : PaysW l Z EL n0 Mc R y len W as h kc ks Qc Nc) (hm : ∀ x ∈ Mc, x ∈ My) (hk : ∀ v h', Qc v h' → Keep h h' wl) (hs : ∀ x ∈ wl, n0 ≤ x) (hc : cells + kc ≤ R.cells) (hl : slots + ks ≤ R.slots)
    (K : ∀ v h', Qc v h' → Run w l Z EL n0 own nm B ret R Q Ny (Nc v ++ My) h' (cells + kc) (slots + ks) pc' ls (v.toList ++ rest)) : Run w l Z EL n0 own nm B ret R Q Ny My h cells slots pc ls st := by
  intro p e s m args below meth c T locs vm hx hby hml hret hnm hlk hZ hown X eT N hH
  obtain ⟨hEW, ⟨k0, hS0, hk0⟩, hC, hMy⟩ := hH.2.2 hw
  obtain ⟨v, vm₁, ⟨U, L', c', n'⟩, -, X', hS', hgr, ⟨L, ⟨hq, hF⟩, l1, l2, l3, hC', hN'⟩, stp⟩ := H p e (s.setVm vm) m args below meth c T locs hx hby hml hZ hown X eT _ _ (P hH.1 p e below s args vm hZ hEW hC.1 fun x hx => hMy x (hm x hx)) (fun vm₁ _ => ⟨rfl, eT, hc, hl⟩)
  dsimp only [Pt.U, Pt.locs, Pt.cells, Pt.slots] at X' l1 l2 l3 stp hq hS' hgr hC' hN'
  subst l1 l2 l3
  obtain ⟨X2, hS2, hZ2, hown2⟩ := rebS hS0 (Nat.le_trans hk0 (by rw [eT]; exact Nat.le_refl _) : k0 ≤ T.heap.size) X' hS' hgr hZ hown
  obtain ⟨t, o, hs', r⟩ := K v U.heap hq p e s m args below meth c U _ U.vm hx hby hml hret hnm hlk hZ2 hown2 X2 rfl (Fr.app N hF) ⟨hH.1.keep (hk v _ hq) hs, fun q => (by rw [hw] at q; cases q), fun _ => ⟨hEW, ⟨_, hS2, Nat.le_refl _⟩, hC.trans hC', fun x hx => by
    rcases List.mem_append.mp hx with hx | hx
    · exact hN' x hx
    · exact ⟨Nat.lt_of_lt_of_le (hMy x hx).1 (hk v _ hq).1, hC'.safe (hMy x hx).1 (hMy x hx).2⟩⟩⟩
  exact ⟨t, o, stp.trans (by subst hp; exact hs'), r⟩
theorem r_static {pc' index W kc ks : Nat} {y : MethodName} {argsL rest : List Value} {as : Array Value} {Qc : Option Value → Heap → Prop} {wl : List Addr} {bytes : ByteArray} {maxL : Nat} {rt : Option FieldType} (hd : decode B pc = .ok (.invokestatic index, 3)) (hp : pc + 3 = pc') (w1 : (Jvm.Cond.methodLink own index y).before a0 Z = true) (w2 : (Jvm.Cond.static y).before a0 Z = true) (w3 : (Jvm.Cond.initialized y.cls).before a0 Z = true) (w4 : (Jvm.Cond.code y bytes maxL rt).before a0 Z = true) (hy : y.cls ≠ "java/lang/invoke/MethodHandle" ∧ y.cls ≠ "java/lang/invoke/VarHandle") (hlen : ∀ sig, parseMethodDescriptor y.desc = some sig → argsL.length = sig.parameters.length) (hst : st = argsL.reverse ++ rest) (has : argsL.toArray = as) (hW : (rest.map fun v => v.category).sum ≤ W) (P : Pays l Z n0 R y 3 W as h kc ks Qc) (hk : ∀ v h', Qc v h' → Keep h h' wl) (hs : ∀ x ∈ wl, n0 ≤ x ∧ Sf w Z h My x) (hc : cells + kc ≤ R.cells) (hl : slots + ks ≤ R.slots)
    (K : ∀ v h', Qc v h' → Run w l Z EL n0 own nm B ret R Q Ny My h' (cells + kc) (slots + ks) pc' ls (v.toList ++ rest)) : Run w l Z EL n0 own nm B ret R Q Ny My h cells slots pc ls st :=
  Run.call (len := 3) (y := y) (as := as) hp (fun p e s m args below meth c T locs hx hby hml hZ hown X eT Pre Post hK hpre => by
    obtain ⟨v, vm₁, B', x1, x2, x3, st0⟩ := Jvm.LawKit.callS X hx hown (mvT hZ w1) (mvT hZ w2) (mvT hZ w3) (mvT hZ w4) hy hK (g := mkF m pc ls st) rfl hml.symm (argsL := argsL) (rest := rest) hlen hst (by show 2 * 0 + _ ≤ _; omega) (hb hby hd) (by rw [has]; exact hpre)
    exact ⟨v, vm₁, B', x1, x2, has ▸ x3, st0 _ (Steps.refl _)⟩) P hk hs hc hl K
theorem r_staticW {pc' index W kc ks : Nat} {y : MethodName} {argsL rest : List Value} {as : Array Value} {Qc : Option Value → Heap → Prop} {wl : List Addr} {Nc : Option Value → List Addr} {Mc : List Addr} (hw : w = true) {bytes : ByteArray} {maxL : Nat} {rt : Option FieldType} (hd : decode B pc = .ok (.invokestatic index, 3)) (hp : pc + 3 = pc') (w1 : (Jvm.Cond.methodLink own index y).before a0 Z = true) (w2 : (Jvm.Cond.static y).before a0 Z = true) (w3 : (Jvm.Cond.initialized y.cls).before a0 Z = true) (w4 : (Jvm.Cond.code y bytes maxL rt).before a0 Z = true) (hy : y.cls ≠ "java/lang/invoke/MethodHandle" ∧ y.cls ≠ "java/lang/invoke/VarHandle") (hlen : ∀ sig, parseMethodDescriptor y.desc = some sig → argsL.length = sig.parameters.length) (hst : st = argsL.reverse ++ rest) (has : argsL.toArray = as) (hW : (rest.map fun v => v.category).sum ≤ W) (P : PaysW l Z EL n0 Mc R y 3 W as h kc ks Qc Nc) (hm : ∀ x ∈ Mc, x ∈ My) (hk : ∀ v h', Qc v h' → Keep h h' wl) (hs : ∀ x ∈ wl, n0 ≤ x) (hc : cells + kc ≤ R.cells) (hl : slots + ks ≤ R.slots)
    (K : ∀ v h', Qc v h' → Run w l Z EL n0 own nm B ret R Q Ny (Nc v ++ My) h' (cells + kc) (slots + ks) pc' ls (v.toList ++ rest)) : Run w l Z EL n0 own nm B ret R Q Ny My h cells slots pc ls st :=
  Run.callW (len := 3) (y := y) (as := as) hw hp (fun p e s m args below meth c T locs hx hby hml hZ hown X eT Pre Post hK hpre => by
    obtain ⟨v, vm₁, B', x1, x2, x4, x5, x3, st0⟩ := callSS X hx hown (mvT hZ w1) (mvT hZ w2) (mvT hZ w3) (mvT hZ w4) hy hK (g := mkF m pc ls st) rfl hml.symm (argsL := argsL) (rest := rest) hlen hst (by show 2 * 0 + _ ≤ _; omega) (hb hby hd) (by rw [has]; exact hpre)
    exact ⟨v, vm₁, B', x1, x2, x4, x5, has ▸ x3, st0⟩) P hm hk hs hc hl K
theorem r_special {pc' index W kc ks : Nat} {y : MethodName} {argsL rest : List Value} {as : Array Value} {Qc : Option Value → Heap → Prop} {wl : List Addr} {bytes : ByteArray} {maxL : Nat} {a : Addr} (hd : decode B pc = .ok (.invokespecial index, 3)) (hp : pc + 3 = pc') (hi : y.name = "<init>") (w1 : (Jvm.Cond.methodLink own index y).before a0 Z = true) (w2 : (Jvm.Cond.instanceMethod y).before a0 Z = true) (w4 : (Jvm.Cond.code y bytes maxL none).before a0 Z = true) (hy : y.cls ≠ "java/lang/invoke/MethodHandle" ∧ y.cls ≠ "java/lang/invoke/VarHandle") (hlen : ∀ sig, parseMethodDescriptor y.desc = some sig → argsL.length = sig.parameters.length) (hst : st = argsL.reverse ++ .ref a :: rest) (has : (Value.ref a :: argsL).toArray = as) (hW : (rest.map fun v => v.category).sum ≤ W) (P : Pays l Z n0 R y 3 W as h kc ks Qc) (hk : ∀ v h', Qc v h' → Keep h h' wl) (hs : ∀ x ∈ wl, n0 ≤ x ∧ Sf w Z h My x) (hc : cells + kc ≤ R.cells) (hl : slots + ks ≤ R.slots)
    (K : ∀ v h', Qc v h' → Run w l Z EL n0 own nm B ret R Q Ny My h' (cells + kc) (slots + ks) pc' ls (v.toList ++ rest)) : Run w l Z EL n0 own nm B ret R Q Ny My h cells slots pc ls st :=
  Run.call (len := 3) (y := y) (as := as) hp (fun p e s m args below meth c T locs hx hby hml hZ hown X eT Pre Post hK hpre => by
    obtain ⟨v, vm₁, B', x1, x2, x3, st0⟩ := X.specialBack hx hi hown (mvT hZ w1) (mvT hZ w2) (mvT hZ w4) hy hK (g := mkF m pc ls st) rfl hml.symm (Steps.refl _) (a := a) (argsL := argsL) (rest := rest) hlen hst (by show 2 * 0 + _ ≤ _; omega) (hb hby hd) (by rw [has]; exact hpre)
    exact ⟨v, vm₁, B', x1, x2, has ▸ x3, st0⟩) P hk hs hc hl K
theorem r_specialW {pc' index W kc ks : Nat} {y : MethodName} {argsL rest : List Value} {as : Array Value} {Qc : Option Value → Heap → Prop} {wl : List Addr} {Nc : Option Value → List Addr} {Mc : List Addr} (hw : w = true) {bytes : ByteArray} {maxL : Nat} {a : Addr} (hd : decode B pc = .ok (.invokespecial index, 3)) (hp : pc + 3 = pc') (hi : y.name = "<init>") (w1 : (Jvm.Cond.methodLink own index y).before a0 Z = true) (w2 : (Jvm.Cond.instanceMethod y).before a0 Z = true) (w4 : (Jvm.Cond.code y bytes maxL none).before a0 Z = true) (hy : y.cls ≠ "java/lang/invoke/MethodHandle" ∧ y.cls ≠ "java/lang/invoke/VarHandle") (hlen : ∀ sig, parseMethodDescriptor y.desc = some sig → argsL.length = sig.parameters.length) (hst : st = argsL.reverse ++ .ref a :: rest) (has : (Value.ref a :: argsL).toArray = as) (hW : (rest.map fun v => v.category).sum ≤ W) (P : PaysW l Z EL n0 Mc R y 3 W as h kc ks Qc Nc) (hm : ∀ x ∈ Mc, x ∈ My) (hk : ∀ v h', Qc v h' → Keep h h' wl) (hs : ∀ x ∈ wl, n0 ≤ x) (hc : cells + kc ≤ R.cells) (hl : slots + ks ≤ R.slots)
    (K : ∀ v h', Qc v h' → Run w l Z EL n0 own nm B ret R Q Ny (Nc v ++ My) h' (cells + kc) (slots + ks) pc' ls (v.toList ++ rest)) : Run w l Z EL n0 own nm B ret R Q Ny My h cells slots pc ls st :=
  Run.callW (len := 3) (y := y) (as := as) hw hp (fun p e s m args below meth c T locs hx hby hml hZ hown X eT Pre Post hK hpre => by
    obtain ⟨v, vm₁, B', x1, x2, x4, x5, x3, st0⟩ := X.specialBackS hx hi hown (mvT hZ w1) (mvT hZ w2) (mvT hZ w4) hy hK (g := mkF m pc ls st) rfl hml.symm (Steps.refl _) (a := a) (argsL := argsL) (rest := rest) hlen hst (by show 2 * 0 + _ ≤ _; omega) (hb hby hd) (by rw [has]; exact hpre)
    exact ⟨v, vm₁, B', x1, x2, x4, x5, has ▸ x3, st0⟩) P hm hk hs hc hl K
theorem r_virtual {pc' index W kc ks : Nat} {y : MethodName} {argsL rest : List Value} {as : Array Value} {Qc : Option Value → Heap → Prop} {wl : List Addr} {x0 : MethodName} {C : String} {a : Addr} (hd : decode B pc = .ok (.invokevirtual index, 3)) (hp : pc + 3 = pc') (w1 : (Jvm.Cond.methodLink own index x0).before a0 Z = true) (w2 : (Jvm.Cond.declares x0).before a0 Z = true) (w3 : (Jvm.Cond.selects C x0 y).before a0 Z = true) (w4 : (Jvm.Cond.instanceMethod y).before a0 Z = true) (hy : x0.cls ≠ "java/lang/invoke/MethodHandle" ∧ x0.cls ≠ "java/lang/invoke/VarHandle") (hn : x0 = y ∧ C = x0.cls) (E : Exa Z h a C) (hlen : ∀ sig, parseMethodDescriptor x0.desc = some sig → argsL.length = sig.parameters.length) (hst : st = argsL.reverse ++ .ref a :: rest) (has : (Value.ref a :: argsL).toArray = as) (hW : (rest.map fun v => v.category).sum ≤ W) (P : Pays l Z n0 R y 3 W as h kc ks Qc) (hk : ∀ v h', Qc v h' → Keep h h' wl) (hs : ∀ x ∈ wl, n0 ≤ x ∧ Sf w Z h My x) (hc : cells + kc ≤ R.cells) (hl : slots + ks ≤ R.slots)
    (K : ∀ v h', Qc v h' → Run w l Z EL n0 own nm B ret R Q Ny My h' (cells + kc) (slots + ks) pc' ls (v.toList ++ rest)) : Run w l Z EL n0 own nm B ret R Q Ny My h cells slots pc ls st :=
  Run.call (len := 3) (y := y) (as := as) hp (fun p e s m args below meth c T locs hx hby hml hZ hown X eT Pre Post hK hpre => by
    obtain ⟨cq34, kq34, q34a, q34b, q34c⟩ := isOf hZ eT E
    obtain ⟨v, vm₁, B', x1, x2, x3, st0⟩ := X.virtualBack hx (y := x0) (z := y) hown (mvT hZ w1) (mvT hZ w2) (notFace_of_selects (args := #[]) (by obtain ⟨q1, q2⟩ := hn; subst q1 q2; exact mvT hZ w3)) (mvT hZ w3) (mvT hZ w4) hy hK q34a q34c (g := mkF m pc ls st) rfl hml.symm (Steps.refl _) (argsL := argsL) (rest := rest) hlen hst (by show 2 * 0 + _ ≤ _; omega) (hb hby hd) (by rw [has]; exact hpre)
    exact ⟨v, vm₁, B', x1, x2, has ▸ x3, st0⟩) P hk hs hc hl K
theorem r_virtualW {pc' index W kc ks : Nat} {y : MethodName} {argsL rest : List Value} {as : Array Value} {Qc : Option Value → Heap → Prop} {wl : List Addr} {Nc : Option Value → List Addr} {Mc : List Addr} (hw : w = true) {x0 : MethodName} {C : String} {a : Addr} (hd : decode B pc = .ok (.invokevirtual index, 3)) (hp : pc + 3 = pc') (w1 : (Jvm.Cond.methodLink own index x0).before a0 Z = true) (w2 : (Jvm.Cond.declares x0).before a0 Z = true) (w3 : (Jvm.Cond.selects C x0 y).before a0 Z = true) (w4 : (Jvm.Cond.instanceMethod y).before a0 Z = true) (hy : x0.cls ≠ "java/lang/invoke/MethodHandle" ∧ x0.cls ≠ "java/lang/invoke/VarHandle") (hn : x0 = y ∧ C = x0.cls) (E : Exa Z h a C) (hlen : ∀ sig, parseMethodDescriptor x0.desc = some sig → argsL.length = sig.parameters.length) (hst : st = argsL.reverse ++ .ref a :: rest) (has : (Value.ref a :: argsL).toArray = as) (hW : (rest.map fun v => v.category).sum ≤ W) (P : PaysW l Z EL n0 Mc R y 3 W as h kc ks Qc Nc) (hm : ∀ x ∈ Mc, x ∈ My) (hk : ∀ v h', Qc v h' → Keep h h' wl) (hs : ∀ x ∈ wl, n0 ≤ x) (hc : cells + kc ≤ R.cells) (hl : slots + ks ≤ R.slots)
    (K : ∀ v h', Qc v h' → Run w l Z EL n0 own nm B ret R Q Ny (Nc v ++ My) h' (cells + kc) (slots + ks) pc' ls (v.toList ++ rest)) : Run w l Z EL n0 own nm B ret R Q Ny My h cells slots pc ls st :=
  Run.callW (len := 3) (y := y) (as := as) hw hp (fun p e s m args below meth c T locs hx hby hml hZ hown X eT Pre Post hK hpre => by
    obtain ⟨cq34, kq34, q34a, q34b, q34c⟩ := isOf hZ eT E
    obtain ⟨v, vm₁, B', x1, x2, x4, x5, x3, st0⟩ := X.virtualBackS hx (y := x0) (z := y) hown (mvT hZ w1) (mvT hZ w2) (notFace_of_selects (args := #[]) (by obtain ⟨q1, q2⟩ := hn; subst q1 q2; exact mvT hZ w3)) (mvT hZ w3) (mvT hZ w4) hy hK q34a q34c (g := mkF m pc ls st) rfl hml.symm (Steps.refl _) (argsL := argsL) (rest := rest) hlen hst (by show 2 * 0 + _ ≤ _; omega) (hb hby hd) (by rw [has]; exact hpre)
    exact ⟨v, vm₁, B', x1, x2, x4, x5, has ▸ x3, st0⟩) P hm hk hs hc hl K
theorem r_virtualU {pc' index W kc ks : Nat} {y : MethodName} {argsL rest : List Value} {as : Array Value} {Qc : Option Value → Heap → Prop} {wl : List Addr} {x0 : MethodName} {C : String} {a : Addr} {S0 : String} (hd : decode B pc = .ok (.invokevirtual index, 3)) (hp : pc + 3 = pc') (w1 : (Jvm.Cond.methodLink own index x0).before a0 Z = true) (w2 : (Jvm.Cond.declares x0).before a0 Z = true) (w3 : (Jvm.Cond.selects C x0 y).before a0 Z = true) (w4 : (Jvm.Cond.instanceMethod y).before a0 Z = true) (hy : x0.cls ≠ "java/lang/invoke/MethodHandle" ∧ x0.cls ≠ "java/lang/invoke/VarHandle") (hn : (Jvm.Cond.superclass x0.cls S0).before a0 Z = true) (E : Exa Z h a C) (hlen : ∀ sig, parseMethodDescriptor x0.desc = some sig → argsL.length = sig.parameters.length) (hst : st = argsL.reverse ++ .ref a :: rest) (has : (Value.ref a :: argsL).toArray = as) (hW : (rest.map fun v => v.category).sum ≤ W) (P : Pays l Z n0 R y 3 W as h kc ks Qc) (hk : ∀ v h', Qc v h' → Keep h h' wl) (hs : ∀ x ∈ wl, n0 ≤ x ∧ Sf w Z h My x) (hc : cells + kc ≤ R.cells) (hl : slots + ks ≤ R.slots)
    (K : ∀ v h', Qc v h' → Run w l Z EL n0 own nm B ret R Q Ny My h' (cells + kc) (slots + ks) pc' ls (v.toList ++ rest)) : Run w l Z EL n0 own nm B ret R Q Ny My h cells slots pc ls st :=
  Run.call (len := 3) (y := y) (as := as) hp (fun p e s m args below meth c T locs hx hby hml hZ hown X eT Pre Post hK hpre => by
    obtain ⟨cq34, kq34, q34a, q34b, q34c⟩ := isOf hZ eT E
    obtain ⟨v, vm₁, B', x1, x2, x3, st0⟩ := X.virtualBack hx (y := x0) (z := y) hown (mvT hZ w1) (mvT hZ w2) (nf_super (args := #[]) (mvT hZ hn)) (mvT hZ w3) (mvT hZ w4) hy hK q34a q34c (g := mkF m pc ls st) rfl hml.symm (Steps.refl _) (argsL := argsL) (rest := rest) hlen hst (by show 2 * 0 + _ ≤ _; omega) (hb hby hd) (by rw [has]; exact hpre)
    exact ⟨v, vm₁, B', x1, x2, has ▸ x3, st0⟩) P hk hs hc hl K
theorem r_virtualUW {pc' index W kc ks : Nat} {y : MethodName} {argsL rest : List Value} {as : Array Value} {Qc : Option Value → Heap → Prop} {wl : List Addr} {Nc : Option Value → List Addr} {Mc : List Addr} (hw : w = true) {x0 : MethodName} {C : String} {a : Addr} {S0 : String} (hd : decode B pc = .ok (.invokevirtual index, 3)) (hp : pc + 3 = pc') (w1 : (Jvm.Cond.methodLink own index x0).before a0 Z = true) (w2 : (Jvm.Cond.declares x0).before a0 Z = true) (w3 : (Jvm.Cond.selects C x0 y).before a0 Z = true) (w4 : (Jvm.Cond.instanceMethod y).before a0 Z = true) (hy : x0.cls ≠ "java/lang/invoke/MethodHandle" ∧ x0.cls ≠ "java/lang/invoke/VarHandle") (hn : (Jvm.Cond.superclass x0.cls S0).before a0 Z = true) (E : Exa Z h a C) (hlen : ∀ sig, parseMethodDescriptor x0.desc = some sig → argsL.length = sig.parameters.length) (hst : st = argsL.reverse ++ .ref a :: rest) (has : (Value.ref a :: argsL).toArray = as) (hW : (rest.map fun v => v.category).sum ≤ W) (P : PaysW l Z EL n0 Mc R y 3 W as h kc ks Qc Nc) (hm : ∀ x ∈ Mc, x ∈ My) (hk : ∀ v h', Qc v h' → Keep h h' wl) (hs : ∀ x ∈ wl, n0 ≤ x) (hc : cells + kc ≤ R.cells) (hl : slots + ks ≤ R.slots)
    (K : ∀ v h', Qc v h' → Run w l Z EL n0 own nm B ret R Q Ny (Nc v ++ My) h' (cells + kc) (slots + ks) pc' ls (v.toList ++ rest)) : Run w l Z EL n0 own nm B ret R Q Ny My h cells slots pc ls st :=
  Run.callW (len := 3) (y := y) (as := as) hw hp (fun p e s m args below meth c T locs hx hby hml hZ hown X eT Pre Post hK hpre => by
    obtain ⟨cq34, kq34, q34a, q34b, q34c⟩ := isOf hZ eT E
    obtain ⟨v, vm₁, B', x1, x2, x4, x5, x3, st0⟩ := X.virtualBackS hx (y := x0) (z := y) hown (mvT hZ w1) (mvT hZ w2) (nf_super (args := #[]) (mvT hZ hn)) (mvT hZ w3) (mvT hZ w4) hy hK q34a q34c (g := mkF m pc ls st) rfl hml.symm (Steps.refl _) (argsL := argsL) (rest := rest) hlen hst (by show 2 * 0 + _ ≤ _; omega) (hb hby hd) (by rw [has]; exact hpre)
    exact ⟨v, vm₁, B', x1, x2, x4, x5, has ▸ x3, st0⟩) P hm hk hs hc hl K
theorem r_virtualUp {pc' index W kc ks : Nat} {y : MethodName} {argsL rest : List Value} {as : Array Value} {Qc : Option Value → Heap → Prop} {wl : List Addr} {x0 : MethodName} {C owner : String} {a : Addr} (hd : decode B pc = .ok (.invokevirtual index, 3)) (hp : pc + 3 = pc') (w1 : (Jvm.Cond.methodLink own index x0).before a0 Z = true) (w5 : (Jvm.Cond.sameMethod x0.cls owner x0.name x0.desc).before a0 Z = true) (w2 : (Jvm.Cond.declares ⟨owner, x0.name, x0.desc⟩).before a0 Z = true) (hy : owner ≠ "java/lang/invoke/MethodHandle" ∧ owner ≠ "java/lang/invoke/VarHandle") (w3 : (Jvm.Cond.selects C x0 y).before a0 Z = true) (w4 : (Jvm.Cond.instanceMethod y).before a0 Z = true) (E : Exa Z h a C) (hlen : ∀ sig, parseMethodDescriptor x0.desc = some sig → argsL.length = sig.parameters.length) (hst : st = argsL.reverse ++ .ref a :: rest) (has : (Value.ref a :: argsL).toArray = as) (hW : (rest.map fun v => v.category).sum ≤ W) (P : Pays l Z n0 R y 3 W as h kc ks Qc) (hk : ∀ v h', Qc v h' → Keep h h' wl) (hs : ∀ x ∈ wl, n0 ≤ x ∧ Sf w Z h My x) (hc : cells + kc ≤ R.cells) (hl : slots + ks ≤ R.slots)
    (K : ∀ v h', Qc v h' → Run w l Z EL n0 own nm B ret R Q Ny My h' (cells + kc) (slots + ks) pc' ls (v.toList ++ rest)) : Run w l Z EL n0 own nm B ret R Q Ny My h cells slots pc ls st :=
  Run.call (len := 3) (y := y) (as := as) hp (fun p e s m args below meth c T locs hx hby hml hZ hown X eT Pre Post hK hpre => by
    obtain ⟨cq34, kq34, q34a, q34b, q34c⟩ := isOf hZ eT E
    obtain ⟨v, vm₁, B', x1, x2, x3, st0⟩ := X.virtualBackUp hx (x := x0) (y := y) hown (mvT hZ w1) (mvT hZ w5) (mvT hZ w2) hy (mvT hZ w3) (mvT hZ w4) hK q34a q34c (g := mkF m pc ls st) rfl hml.symm (Steps.refl _) (argsL := argsL) (rest := rest) hlen hst (by show 2 * 0 + _ ≤ _; omega) (hb hby hd) (by rw [has]; exact hpre)
    exact ⟨v, vm₁, B', x1, x2, has ▸ x3, st0⟩) P hk hs hc hl K
theorem r_virtualUpW {pc' index W kc ks : Nat} {y : MethodName} {argsL rest : List Value} {as : Array Value} {Qc : Option Value → Heap → Prop} {wl : List Addr} {Nc : Option Value → List Addr} {Mc : List Addr} (hw : w = true) {x0 : MethodName} {C owner : String} {a : Addr} (hd : decode B pc = .ok (.invokevirtual index, 3)) (hp : pc + 3 = pc') (w1 : (Jvm.Cond.methodLink own index x0).before a0 Z = true) (w5 : (Jvm.Cond.sameMethod x0.cls owner x0.name x0.desc).before a0 Z = true) (w2 : (Jvm.Cond.declares ⟨owner, x0.name, x0.desc⟩).before a0 Z = true) (hy : owner ≠ "java/lang/invoke/MethodHandle" ∧ owner ≠ "java/lang/invoke/VarHandle") (w3 : (Jvm.Cond.selects C x0 y).before a0 Z = true) (w4 : (Jvm.Cond.instanceMethod y).before a0 Z = true) (E : Exa Z h a C) (hlen : ∀ sig, parseMethodDescriptor x0.desc = some sig → argsL.length = sig.parameters.length) (hst : st = argsL.reverse ++ .ref a :: rest) (has : (Value.ref a :: argsL).toArray = as) (hW : (rest.map fun v => v.category).sum ≤ W) (P : PaysW l Z EL n0 Mc R y 3 W as h kc ks Qc Nc) (hm : ∀ x ∈ Mc, x ∈ My) (hk : ∀ v h', Qc v h' → Keep h h' wl) (hs : ∀ x ∈ wl, n0 ≤ x) (hc : cells + kc ≤ R.cells) (hl : slots + ks ≤ R.slots)
    (K : ∀ v h', Qc v h' → Run w l Z EL n0 own nm B ret R Q Ny (Nc v ++ My) h' (cells + kc) (slots + ks) pc' ls (v.toList ++ rest)) : Run w l Z EL n0 own nm B ret R Q Ny My h cells slots pc ls st :=
  Run.callW (len := 3) (y := y) (as := as) hw hp (fun p e s m args below meth c T locs hx hby hml hZ hown X eT Pre Post hK hpre => by
    obtain ⟨cq34, kq34, q34a, q34b, q34c⟩ := isOf hZ eT E
    obtain ⟨v, vm₁, B', x1, x2, x4, x5, x3, st0⟩ := X.virtualBackUpS hx (x := x0) (y := y) hown (mvT hZ w1) (mvT hZ w5) (mvT hZ w2) hy (mvT hZ w3) (mvT hZ w4) hK q34a q34c (g := mkF m pc ls st) rfl hml.symm (Steps.refl _) (argsL := argsL) (rest := rest) hlen hst (by show 2 * 0 + _ ≤ _; omega) (hb hby hd) (by rw [has]; exact hpre)
    exact ⟨v, vm₁, B', x1, x2, x4, x5, has ▸ x3, st0⟩) P hm hk hs hc hl K
theorem r_private {pc' index W kc ks : Nat} {y : MethodName} {argsL rest : List Value} {as : Array Value} {Qc : Option Value → Heap → Prop} {wl : List Addr} {bytes : ByteArray} {maxL : Nat} {rt : Option FieldType} {C : String} {a : Addr} (hd : decode B pc = .ok (.invokevirtual index, 3)) (hp : pc + 3 = pc') (w1 : (Jvm.Cond.methodLink own index y).before a0 Z = true) (w2 : (Jvm.Cond.instanceMethod y).before a0 Z = true) (w3 : (Jvm.Cond.selects y.cls y y).before a0 Z = true) (w5 : (Jvm.Cond.privateMethod y).before a0 Z = true) (w4 : (Jvm.Cond.code y bytes maxL rt).before a0 Z = true) (hy : y.cls ≠ "java/lang/invoke/MethodHandle" ∧ y.cls ≠ "java/lang/invoke/VarHandle") (E : Exa Z h a C) (hlen : ∀ sig, parseMethodDescriptor y.desc = some sig → argsL.length = sig.parameters.length) (hst : st = argsL.reverse ++ .ref a :: rest) (has : (Value.ref a :: argsL).toArray = as) (hW : (rest.map fun v => v.category).sum ≤ W) (P : Pays l Z n0 R y 3 W as h kc ks Qc) (hk : ∀ v h', Qc v h' → Keep h h' wl) (hs : ∀ x ∈ wl, n0 ≤ x ∧ Sf w Z h My x) (hc : cells + kc ≤ R.cells) (hl : slots + ks ≤ R.slots)
    (K : ∀ v h', Qc v h' → Run w l Z EL n0 own nm B ret R Q Ny My h' (cells + kc) (slots + ks) pc' ls (v.toList ++ rest)) : Run w l Z EL n0 own nm B ret R Q Ny My h cells slots pc ls st :=
  Run.call (len := 3) (y := y) (as := as) hp (fun p e s m args below meth c T locs hx hby hml hZ hown X eT Pre Post hK hpre => by
    obtain ⟨cel, ce1, ce2⟩ := E.cell
    obtain ⟨v, vm₁, B', x1, x2, x3, st0⟩ := X.privateBack hx hown (mvT hZ w1) (mvT hZ w2) (mvT hZ w3) (Cond.privateMethod_at (mvP (args := #[]) hZ w5)) (mvT hZ w4) hy hK (g := mkF m pc ls st) rfl hml.symm (Steps.refl _) (a := a) (cell := cel) (by rw [eT]; exact ce1) ce2 (argsL := argsL) (rest := rest) hlen hst (by show 2 * 0 + _ ≤ _; omega) (hb hby hd) (by rw [has]; exact hpre)
    exact ⟨v, vm₁, B', x1, x2, has ▸ x3, st0⟩) P hk hs hc hl K
theorem r_privateW {pc' index W kc ks : Nat} {y : MethodName} {argsL rest : List Value} {as : Array Value} {Qc : Option Value → Heap → Prop} {wl : List Addr} {Nc : Option Value → List Addr} {Mc : List Addr} (hw : w = true) {bytes : ByteArray} {maxL : Nat} {rt : Option FieldType} {C : String} {a : Addr} (hd : decode B pc = .ok (.invokevirtual index, 3)) (hp : pc + 3 = pc') (w1 : (Jvm.Cond.methodLink own index y).before a0 Z = true) (w2 : (Jvm.Cond.instanceMethod y).before a0 Z = true) (w3 : (Jvm.Cond.selects y.cls y y).before a0 Z = true) (w5 : (Jvm.Cond.privateMethod y).before a0 Z = true) (w4 : (Jvm.Cond.code y bytes maxL rt).before a0 Z = true) (hy : y.cls ≠ "java/lang/invoke/MethodHandle" ∧ y.cls ≠ "java/lang/invoke/VarHandle") (E : Exa Z h a C) (hlen : ∀ sig, parseMethodDescriptor y.desc = some sig → argsL.length = sig.parameters.length) (hst : st = argsL.reverse ++ .ref a :: rest) (has : (Value.ref a :: argsL).toArray = as) (hW : (rest.map fun v => v.category).sum ≤ W) (P : PaysW l Z EL n0 Mc R y 3 W as h kc ks Qc Nc) (hm : ∀ x ∈ Mc, x ∈ My) (hk : ∀ v h', Qc v h' → Keep h h' wl) (hs : ∀ x ∈ wl, n0 ≤ x) (hc : cells + kc ≤ R.cells) (hl : slots + ks ≤ R.slots)
    (K : ∀ v h', Qc v h' → Run w l Z EL n0 own nm B ret R Q Ny (Nc v ++ My) h' (cells + kc) (slots + ks) pc' ls (v.toList ++ rest)) : Run w l Z EL n0 own nm B ret R Q Ny My h cells slots pc ls st :=
  Run.callW (len := 3) (y := y) (as := as) hw hp (fun p e s m args below meth c T locs hx hby hml hZ hown X eT Pre Post hK hpre => by
    obtain ⟨cel, ce1, ce2⟩ := E.cell
    obtain ⟨v, vm₁, B', x1, x2, x4, x5, x3, st0⟩ := X.privateBackS hx hown (mvT hZ w1) (mvT hZ w2) (mvT hZ w3) (Cond.privateMethod_at (mvP (args := #[]) hZ w5)) (mvT hZ w4) hy hK (g := mkF m pc ls st) rfl hml.symm (Steps.refl _) (a := a) (cell := cel) (by rw [eT]; exact ce1) ce2 (argsL := argsL) (rest := rest) hlen hst (by show 2 * 0 + _ ≤ _; omega) (hb hby hd) (by rw [has]; exact hpre)
    exact ⟨v, vm₁, B', x1, x2, x4, x5, has ▸ x3, st0⟩) P hm hk hs hc hl K
theorem r_interface {pc' index W kc ks : Nat} {y : MethodName} {argsL rest : List Value} {as : Array Value} {Qc : Option Value → Heap → Prop} {wl : List Addr} {x0 : MethodName} {C : String} {a : Addr} {count : Nat} (hd : decode B pc = .ok (.invokeinterface index count, 5)) (hp : pc + 5 = pc') (w1 : (Jvm.Cond.methodLink own index x0).before a0 Z = true) (w2 : (Jvm.Cond.declares x0).before a0 Z = true) (w5 : (Jvm.Cond.interfaceMethod x0.cls x0.cls x0.name x0.desc).before a0 Z = true) (hd5 : ((Jvm.Cond.interfaceMethod x0.cls x0.cls x0.name x0.desc).onTables && (Jvm.Cond.interfaceMethod x0.cls x0.cls x0.name x0.desc).keepsFace) = true) (w3 : (Jvm.Cond.selects C x0 y).before a0 Z = true) (w4 : (Jvm.Cond.instanceMethod y).before a0 Z = true) (w6 : (Jvm.Cond.publicMethod y).before a0 Z = true) (w7 : (Jvm.Cond.unhidden C x0.name x0.desc).before a0 Z = true) (w8 : (Jvm.Cond.castable C x0.cls).before a0 Z = true) (hy : x0.cls ≠ "java/lang/invoke/MethodHandle" ∧ x0.cls ≠ "java/lang/invoke/VarHandle") (E : Exa Z h a C) (hlen : ∀ sig, parseMethodDescriptor x0.desc = some sig → argsL.length = sig.parameters.length) (hst : st = argsL.reverse ++ .ref a :: rest) (has : (Value.ref a :: argsL).toArray = as) (hW : (rest.map fun v => v.category).sum ≤ W) (P : Pays l Z n0 R y 5 W as h kc ks Qc) (hk : ∀ v h', Qc v h' → Keep h h' wl) (hs : ∀ x ∈ wl, n0 ≤ x ∧ Sf w Z h My x) (hc : cells + kc ≤ R.cells) (hl : slots + ks ≤ R.slots)
    (K : ∀ v h', Qc v h' → Run w l Z EL n0 own nm B ret R Q Ny My h' (cells + kc) (slots + ks) pc' ls (v.toList ++ rest)) : Run w l Z EL n0 own nm B ret R Q Ny My h cells slots pc ls st :=
  Run.call (len := 5) (y := y) (as := as) hp (fun p e s m args below meth c T locs hx hby hml hZ hown X eT Pre Post hK hpre => by
    obtain ⟨cq34, kq34, q34a, q34b, q34c⟩ := isOf hZ eT E
    obtain ⟨v, vm₁, B', x1, x2, x3, st0⟩ := X.interfaceBack hx (xi := x0) (y := y) hown (mvT hZ w1) (mvT hZ w2) (mvT hZ w5 hd5) (mvT hZ w3) (mvT hZ w4) (mvT hZ w6) (mvT hZ w7) (mvT hZ w8) hy hK q34a q34b q34c (g := mkF m pc ls st) rfl hml.symm (Steps.refl _) (argsL := argsL) (rest := rest) hlen hst (by show 2 * 0 + _ ≤ _; omega) (hb hby hd) (by rw [has]; exact hpre)
    exact ⟨v, vm₁, B', x1, x2, has ▸ x3, st0⟩) P hk hs hc hl K
theorem r_interfaceW {pc' index W kc ks : Nat} {y : MethodName} {argsL rest : List Value} {as : Array Value} {Qc : Option Value → Heap → Prop} {wl : List Addr} {Nc : Option Value → List Addr} {Mc : List Addr} (hw : w = true) {x0 : MethodName} {C : String} {a : Addr} {count : Nat} (hd : decode B pc = .ok (.invokeinterface index count, 5)) (hp : pc + 5 = pc') (w1 : (Jvm.Cond.methodLink own index x0).before a0 Z = true) (w2 : (Jvm.Cond.declares x0).before a0 Z = true) (w5 : (Jvm.Cond.interfaceMethod x0.cls x0.cls x0.name x0.desc).before a0 Z = true) (hd5 : ((Jvm.Cond.interfaceMethod x0.cls x0.cls x0.name x0.desc).onTables && (Jvm.Cond.interfaceMethod x0.cls x0.cls x0.name x0.desc).keepsFace) = true) (w3 : (Jvm.Cond.selects C x0 y).before a0 Z = true) (w4 : (Jvm.Cond.instanceMethod y).before a0 Z = true) (w6 : (Jvm.Cond.publicMethod y).before a0 Z = true) (w7 : (Jvm.Cond.unhidden C x0.name x0.desc).before a0 Z = true) (w8 : (Jvm.Cond.castable C x0.cls).before a0 Z = true) (hy : x0.cls ≠ "java/lang/invoke/MethodHandle" ∧ x0.cls ≠ "java/lang/invoke/VarHandle") (E : Exa Z h a C) (hlen : ∀ sig, parseMethodDescriptor x0.desc = some sig → argsL.length = sig.parameters.length) (hst : st = argsL.reverse ++ .ref a :: rest) (has : (Value.ref a :: argsL).toArray = as) (hW : (rest.map fun v => v.category).sum ≤ W) (P : PaysW l Z EL n0 Mc R y 5 W as h kc ks Qc Nc) (hm : ∀ x ∈ Mc, x ∈ My) (hk : ∀ v h', Qc v h' → Keep h h' wl) (hs : ∀ x ∈ wl, n0 ≤ x) (hc : cells + kc ≤ R.cells) (hl : slots + ks ≤ R.slots)
    (K : ∀ v h', Qc v h' → Run w l Z EL n0 own nm B ret R Q Ny (Nc v ++ My) h' (cells + kc) (slots + ks) pc' ls (v.toList ++ rest)) : Run w l Z EL n0 own nm B ret R Q Ny My h cells slots pc ls st :=
  Run.callW (len := 5) (y := y) (as := as) hw hp (fun p e s m args below meth c T locs hx hby hml hZ hown X eT Pre Post hK hpre => by
    obtain ⟨cq34, kq34, q34a, q34b, q34c⟩ := isOf hZ eT E
    obtain ⟨v, vm₁, B', x1, x2, x4, x5, x3, st0⟩ := X.interfaceBackS hx (xi := x0) (y := y) hown (mvT hZ w1) (mvT hZ w2) (mvT hZ w5 hd5) (mvT hZ w3) (mvT hZ w4) (mvT hZ w6) (mvT hZ w7) (mvT hZ w8) hy hK q34a q34b q34c (g := mkF m pc ls st) rfl hml.symm (Steps.refl _) (argsL := argsL) (rest := rest) hlen hst (by show 2 * 0 + _ ≤ _; omega) (hb hby hd) (by rw [has]; exact hpre)
    exact ⟨v, vm₁, B', x1, x2, x4, x5, has ▸ x3, st0⟩) P hm hk hs hc hl K
/-- ldc of a String constant that is held, read -/
theorem r_ldcS {pc' : Nat} {index : Nat} {text : String} {vs : List Value} {z : Int32} {n : Nat} (hw : w = true) (hd : decode B pc = .ok (.ldc index, 2)) (hp : pc + 2 = pc') (wl : (Jvm.Cond.stringLink own index text).before a0 Z = true) (wS : ∀ a ∈ Bundle.stringAtoms, a.before a0 Z = true) (hmem : (own, index) ∈ EL)
    (ht : (∀ c ∈ text.toList, c.toNat < 256) ∧ text.toList.map (fun c => Value.int (Jvm.Lit.byteI c.toNat.toUInt16)) = vs) (hz : ¬ z < 0) (hl : z.toNatClampNeg = vs.length) (hn : 4 * text.toList.length ≤ n) (hbig : n ≤ 536870912) (hc : cells + 2 ≤ R.cells) (hl' : slots + (n + 4) ≤ R.slots)
    (K : ∀ (h' : Heap) (a b : Addr) (k : ClassId), Ext h h' → Exa Z h' a "java/lang/String" → Fld Z h' a "java/lang/String" "coder" "B" (.int 0) → Fld Z h' a "java/lang/String" "value" "[B" (.ref b) → Arv Z h' b k .byte z vs (.int 0) → (∀ x ∈ My, x ≠ a ∧ x ≠ b) → Run w l Z EL n0 own nm B ret R Q Ny My h' (cells + 2) (slots + (n + 4)) pc' ls (.ref a :: st)) : Run w l Z EL n0 own nm B ret R Q Ny My h cells slots pc ls st := by
  intro p e s m args below meth c T locs vm hx hby hml hret hnm hlk hZ hown X eT N hH
  obtain ⟨hEW0, ⟨k0, hS0, hk0⟩, hC, hMy⟩ := hH.2.2 hw
  obtain ⟨a1, hEW⟩ := id hEW0
  have hEWa : EW Z a0 EL := fun q hq => by obtain ⟨t, h1, h2⟩ := hEW q hq; exact ⟨t, h1, h2⟩
  obtain ⟨a, T', h', k1, b, k, X', e', E', hS', hk', hZ', hown', A1, C1, V1, K1, la, lb, hC', -, hne, stp⟩ := ldcCH X hx hZ hown wl wS eT hS0 hk0 hEWa hmem hC.1 ht hz hl (g := mkF m pc ls st) rfl (hb hby hd) hn hbig hc hl'
  have hmy : ∀ x ∈ My, x < h'.size ∧ Safe Z EL T'.vm h' x := fun x hx => ⟨Nat.lt_of_lt_of_le (hMy x hx).1 E'.1, hC'.safe (hMy x hx).1 (hMy x hx).2⟩
  obtain ⟨t, o, hs, r⟩ := K h' a b k E' A1 C1 V1 K1 (fun x hx => hne x (hmy x hx).2) p e s m args below meth c T' locs T'.vm hx hby hml hret hnm hlk hZ' hown' X' e' N ⟨hH.1.ext E', fun q => (by rw [hw] at q; cases q), fun _ => ⟨hEW0, ⟨k1, hS', hk'⟩, hC.trans hC', hmy⟩⟩
  exact ⟨t, o, stp t (by subst hp; exact hs), r⟩
/-- from a walk to the contract -/
theorem Ok.of_run {y : MethodName} {bytes : ByteArray} {maxL : Nat} {rt : Option FieldType} {rm : Room} {as : Array Value} {Qc : Option Value → Heap → Prop} {Nc : Option Value → List Addr} {ls0 : Array Slot} (hy : plainFor y = true) (hef : ∀ m, entryFrame m as maxL = mkF m 0 ls0 []) (hsz : maxL = ls0.size)
    (r : Run w l Z EL n0 y.cls y.name bytes rt rm Qc Nc My h 0 0 0 ls0 []) : Ok w l Z EL n0 My y bytes maxL rt rm as h Qc Nc := by
  intro ws
  refine MetFree.of_bodySF hy hisR ?_
  intro p e s m args below meth c s₁ Bd hml0 hP hK
  obtain ⟨rfl, hZ, hh, hO, hw⟩ := hP
  have hml : c.maxLocals = maxL := hml0
  have hown : s.vm.findClass y.cls = some m.cls := findClass_of_methodNamed Bd.named
  have hnm := (name_of_methodNamed Bd.named Bd.method).1
  have X0 : Stand p l e rm s m args below meth c s₁ [] 0 0 := Stand.of_body Bd
  have e0 : s₁.heap = h := by rw [← hh, Bd.state]; rfl
  obtain ⟨t, o, hs, h1, h2, v, L, h3, h4, h5, h6⟩ := r p e s m args below meth c s₁ [] s.vm Bd.exec Bd.bytes (hml.trans hsz) Bd.returns hnm Bd.notSynchronized hZ hown X0 e0 (Fr.nil n0) ⟨hO, fun _ => rfl, fun q => by
    obtain ⟨a, b, c⟩ := hw q
    exact ⟨a, ⟨s.heap.size, (State.WarmedH.refl s).since _, by rw [hh]; exact Nat.le_refl _⟩, by rw [hh]; exact CHr.refl b, c⟩⟩
  exact ⟨t, o, castTop (hef m) hs, h1, h2, v, L, h3, h4, h5, h6⟩
end Calls
end Jvm.OwnKit
namespace Jvm.OwnKit
open Jvm Jvm.ClassFile Sem Op Lib Jvm.Free Jvm.Stand Jvm.LawKit Jvm.RoadKit Bundle
/-- every char from 0 to 255 -/
def Lat (cs : List Int32) : Prop := ∀ c ∈ cs, ¬ c < 0 ∧ ¬ (255 : Int32) < c
/-- the bytes of a Latin-1 text, as values -/
abbrev bv (cs : List Int32) : List Value := (cs.map (fun c => c.toInt8.toInt32)).map Value.int
/-- a compact String with these chars: its array is at t -/
def Str (Z : State) (h : Heap) (a t : Addr) (cs : List Int32) : Prop :=
  Exa Z h a "java/lang/String" ∧ Fld Z h a "java/lang/String" "coder" "B" (.int 0) ∧ Fld Z h a "java/lang/String" "value" "[B" (.ref t) ∧ (∃ kb, Arv Z h t kb .byte (Int32.ofNat cs.length) (bv cs) (.int 0)) ∧ (cs ≠ [] → Exa Z h t "[B")
/-- the object that is returned -/
def refs : Option Value → List Addr
  | some (.ref a) => [a]
  | _ => []
theorem ofNat_in {i n : Nat} (h : i < n) (hn : n < 2 ^ 31) : ¬ Int32.ofNat i < 0 ∧ Int32.ofNat i < Int32.ofNat n := by
  have e1 : (Int32.ofNat i).toInt = i := Int32.toInt_ofNat_of_lt (by omega)
  have e2 : (Int32.ofNat n).toInt = n := Int32.toInt_ofNat_of_lt (by omega)
  have e3 : (0 : Int32).toInt = 0 := rfl
  constructor
  · rw [Int32.lt_iff_toInt_lt, e1, e3]; omega
  · rw [Int32.lt_iff_toInt_lt, e1, e2]; omega
theorem ofNat_nlt {i n : Nat} (h : n ≤ i) (hi : i < 2 ^ 31) : ¬ Int32.ofNat i < Int32.ofNat n := by
  have e1 : (Int32.ofNat i).toInt = i := Int32.toInt_ofNat_of_lt (by omega)
  have e2 : (Int32.ofNat n).toInt = n := Int32.toInt_ofNat_of_lt (by omega)
  rw [Int32.lt_iff_toInt_lt, e1, e2]; omega
theorem ofNat_cl {i : Nat} (h : i < 2 ^ 31) : (Int32.ofNat i).toNatClampNeg = i := Int32.toNatClampNeg_ofNat_of_lt h
theorem getD_map (bs : List Int32) (i : Nat) : (bs.map Value.int).getD i (.int 0) = .int (bs.getD i 0) := by
  simp only [List.getD_eq_getElem?_getD, List.getElem?_map]
  cases bs[i]? <;> rfl
theorem ofNat_sub {i j : Nat} (h : j ≤ i) : Int32.ofNat i - Int32.ofNat j = Int32.ofNat (i - j) := by
  obtain ⟨k, rfl⟩ := Nat.exists_eq_add_of_le h
  rw [Nat.add_sub_cancel_left, Int32.ofNat_add, Int32.add_comm, Int32.add_sub_cancel]
theorem ofNat_add' (i j : Nat) : Int32.ofNat i + Int32.ofNat j = Int32.ofNat (i + j) := (Int32.ofNat_add i j).symm
theorem ofNat_inj' {i j : Nat} (hi : i < 2 ^ 31) (hj : j < 2 ^ 31) (h : Int32.ofNat i = Int32.ofNat j) : i = j := by
  have e1 := ofNat_cl hi
  have e2 := ofNat_cl hj
  rw [h] at e1; omega
/-- the first place of c, from i on; -1 if there is none -/
def idx (c : Int32) : List Int32 → Nat → Int32
  | [], _ => -1
  | b :: bs, i => if b = c then Int32.ofNat i else idx c bs (i + 1)
theorem idx_hit {c : Int32} {bs : List Int32} {i : Nat} (h : i < bs.length) (e : bs.getD i 0 = c) : idx c (bs.drop i) i = Int32.ofNat i := by
  rw [List.drop_eq_getElem_cons h, idx]
  rw [List.getD_eq_getElem?_getD, List.getElem?_eq_getElem h] at e
  exact if_pos e
theorem idx_miss {c : Int32} {bs : List Int32} {i : Nat} (h : i < bs.length) (e : ¬ bs.getD i 0 = c) : idx c (bs.drop i) i = idx c (bs.drop (i + 1)) (i + 1) := by
  rw [List.drop_eq_getElem_cons h, idx]
  rw [List.getD_eq_getElem?_getD, List.getElem?_eq_getElem h] at e
  exact if_neg e
/-- a Latin-1 char and its byte -/
theorem byte_inj {a b : Int32} (ha : ¬ a < 0 ∧ ¬ (255 : Int32) < a) (hb : ¬ b < 0 ∧ ¬ (255 : Int32) < b) (h : a.toInt8.toInt32 = b.toInt8.toInt32) : a = b := by
  have q1 := (c_i2b a).1
  have q2 := (c_i2b b).1
  rw [h] at q1
  have e0 : (0 : Int32).toInt = 0 := rfl
  have e1 : (255 : Int32).toInt = 255 := rfl
  simp only [Int32.lt_iff_toInt_lt, e0, e1] at ha hb
  exact Int32.toInt_inj.mp (by omega)
theorem ofNat_le_of {m i : Nat} (hm : i + 1 < 2 ^ 31) (h : ¬ Int32.ofNat m < Int32.ofNat (i + 1)) : i < m := Classical.byContradiction fun q => h (ofNat_in (by omega) hm).2
theorem mod5 (x : Int32) : ((x &&& (2147483647 : Int32)) % (5 : Int32)) = 0 ∨ ((x &&& (2147483647 : Int32)) % (5 : Int32)) = 1 ∨ ((x &&& (2147483647 : Int32)) % (5 : Int32)) = 2 ∨ ((x &&& (2147483647 : Int32)) % (5 : Int32)) = 3 ∨ ((x &&& (2147483647 : Int32)) % (5 : Int32)) = 4 := by
  have h1 := c_mask x 2147483647 31 (by decide) (by decide)
  have h2 := (c_irem (x &&& (2147483647 : Int32)) 5 5 (by decide)).1 (by rw [h1]; omega)
  simp only [← Int32.toInt_inj]
  have e0 : (0 : Int32).toInt = 0 := rfl
  have e1 : (1 : Int32).toInt = 1 := rfl
  have e2 : (2 : Int32).toInt = 2 := rfl
  have e3 : (3 : Int32).toInt = 3 := rfl
  have e4 : (4 : Int32).toInt = 4 := rfl
  rw [h1] at h2
  omega
theorem tw_get (p : Int32 → Bool) : ∀ (l : List Int32) (i : Nat), i < (l.takeWhile p).length → (l.takeWhile p).getD i 0 = l.getD i 0
  | [], i, h => by simp at h
  | c :: l, i, h => by
    by_cases q : p c = true
    · rw [List.takeWhile_cons_of_pos q] at h ⊢
      cases i with
      | zero => rfl
      | succ i => exact tw_get p l i (by simpa using h)
    · rw [List.takeWhile_cons_of_neg q] at h
      simp at h
theorem tw_len (p : Int32 → Bool) (l : List Int32) : (l.takeWhile p).length ≤ l.length := (List.takeWhile_prefix p).length_le
theorem tw_lat {l : List Int32} (p : Int32 → Bool) (h : Lat l) : Lat (l.takeWhile p) := fun c hc => h c ((List.takeWhile_prefix p).subset hc)
/-- one more than the last place of c below n; 0 if there is none -/
def lp (c : Int32) (bs : List Int32) : Nat → Nat
  | 0 => 0
  | i + 1 => if bs.getD i 0 = c then i + 1 else lp c bs i
theorem lp_le (c : Int32) (bs : List Int32) : ∀ n, lp c bs n ≤ n
  | 0 => Nat.le_refl _
  | i + 1 => by
    rw [lp]; split
    · exact Nat.le_refl _
    · exact Nat.le_succ_of_le (lp_le c bs i)
theorem dec1 (k : Nat) : Int32.ofNat (k + 1) - 1 = Int32.ofNat k := dec_ofNat k
theorem lat_at {cs : List Int32} (h : Lat cs) {i : Nat} (hi : i < cs.length) : ¬ cs.getD i 0 < 0 ∧ ¬ (255 : Int32) < cs.getD i 0 := by
  rw [List.getD_eq_getElem?_getD, List.getElem?_eq_getElem hi]
  exact h _ (List.getElem_mem hi)
/-- the polynomial of the bytes, read without sign -/
def hsh (r : Int32) (bs : List Int32) : Int32 := bs.foldl (fun r b => 31 * r + (b &&& 255)) r
theorem hsh_drop {bs : List Int32} {i : Nat} (h : i < bs.length) (r : Int32) : hsh r (bs.drop i) = hsh (31 * r + (bs.getD i 0 &&& 255)) (bs.drop (i + 1)) := by
  rw [List.drop_eq_getElem_cons h, List.getD_eq_getElem?_getD, List.getElem?_eq_getElem h]
  rfl
theorem ns_root {Z : State} {a0 : Array Value} {O K : String} {n : Nat} (w : (Jvm.Cond.noSuperclass O).before a0 Z = true) (wi : (Jvm.Cond.instantiable K n).before a0 Z = true) (hn : O ≠ K) : NS Z O K := by
  obtain ⟨c, k, h1, h2, h3, -, -⟩ := Cond.noSuperclass_spec w
  obtain ⟨t, kt, g1, -⟩ := Cond.instantiable_spec wi
  have ne := ids_ne h1 g1 hn
  refine ⟨c, t, h1, g1, fun fuel => ?_⟩
  cases fuel with
  | zero => rfl
  | succ f => simp [Vm.isSubclassAux, ne, h2, h3]
theorem ns_no {Z : State} {a0 : Array Value} {C S K : String} {n : Nat} (w : (Jvm.Cond.superclass C S).before a0 Z = true) (wi : (Jvm.Cond.instantiable K n).before a0 Z = true) (nn : NS Z C K) (hn : C ≠ K) : ∃ c t, Z.vm.findClass C = some c ∧ Z.vm.findClass K = some t ∧ Z.vm.assignable c t = false := by
  obtain ⟨c, t, h0, g0, n3⟩ := nn
  obtain ⟨p, k, kp, h1, h2, h3, h4, h5, -, h7⟩ := Cond.superclass_spec h0 w
  obtain ⟨t', kt, g1, g2, g5, g7, -⟩ := Cond.instantiable_spec wi
  cases g0.symm.trans g1
  have ne := ids_ne h0 g0 hn
  have g7' : kt.isInterface = false := by
    rcases Bool.eq_false_or_eq_true kt.isInterface with q | q
    · rw [q] at g7; cases g7
    · exact q
  refine ⟨c, t, h0, g0, ?_⟩
  show Z.vm.assignableAux (255 + 1) c t = false
  simp [Vm.assignableAux, ne, h2, g2, h5, g5, g7', Vm.isSubclass, n3]
/-- a private method is what its own class selects -/
theorem selP {Z : State} {a0 : Array Value} {y : MethodName} {n : Nat} (w : (Jvm.Cond.privateMethod y).before a0 Z = true) (wi : (Jvm.Cond.instanceMethod y).before a0 Z = true) (wn : (Jvm.Cond.instantiable y.cls n).before a0 Z = true) (hx : y.cls ≠ "java/lang/invoke/MethodHandle" ∧ y.cls ≠ "java/lang/invoke/VarHandle") : (Jvm.Cond.selects y.cls y y).before a0 Z = true := by
  obtain ⟨m, meth, hn, hm, -, -⟩ := Cond.instanceMethod_spec wi
  obtain ⟨c, k, hc, hk, -, hi, -, -⟩ := Cond.instantiable_spec wn
  have hp := Cond.privateMethod_at w m meth hn hm
  have hf := State.methodFound?_of_named hn hx
  have hcm := findClass_of_methodNamed hn
  cases hc.symm.trans hcm
  have hi' : k.isInterface = false := by
    rcases Bool.eq_false_or_eq_true k.isInterface with q | q
    · rw [q] at hi; cases hi
    · exact q
  have hs : selectMethod {} Z.vm m.cls m = .method m := selectMethod_private hm hp
  simp [Cond.before, Cond.holds, Cond.value, hc, hf, hn, hs, hk, hi']
section Str
variable {Z : State} {h h' : Heap} {a t x : Addr} {cs : List Int32} {ws : List Addr} {sl : Nat} {v : Value} {a0 : Array Value}
theorem Str.exa (F : Str Z h a t cs) : Exa Z h a "java/lang/String" := F.1
theorem Str.coder (F : Str Z h a t cs) : Fld Z h a "java/lang/String" "coder" "B" (.int 0) := F.2.1
theorem Str.value (F : Str Z h a t cs) : Fld Z h a "java/lang/String" "value" "[B" (.ref t) := F.2.2.1
theorem Str.arv (F : Str Z h a t cs) : ∃ kb, Arv Z h t kb .byte (Int32.ofNat cs.length) (bv cs) (.int 0) := F.2.2.2.1
theorem Str.lt (F : Str Z h a t cs) : a < h.size := F.1.lt
theorem Str.ltB (F : Str Z h a t cs) : t < h.size := by obtain ⟨kb, K⟩ := F.arv; exact K.lt
theorem Str.ext (E : Ext h h') (F : Str Z h a t cs) : Str Z h' a t cs := by
  obtain ⟨f1, f2, f3, ⟨kb, f4⟩, f5⟩ := F
  exact ⟨f1.ext E, f2.ext E, f3.ext E, ⟨kb, f4.ext E⟩, fun q => (f5 q).ext E⟩
theorem Str.keep (F : Str Z h a t cs) (K : Keep h h' ws) (q1 : a ∉ ws) (q2 : t ∉ ws) : Str Z h' a t cs := by
  obtain ⟨f1, f2, f3, ⟨kb, f4⟩, f5⟩ := F
  exact ⟨f1.keep K, f2.keep K q1, f3.keep K q1, ⟨kb, f4.keep K q2⟩, fun q => (f5 q).keep K⟩
theorem Str.other (W : Wr h h' x sl v) (F : Str Z h a t cs) (q1 : a ≠ x) (q2 : t ≠ x) : Str Z h' a t cs := F.keep (Keep.of_wr W) (ninS q1 nin0) (ninS q2 nin0)
/-- its array is no such object -/
theorem Str.neB {C : String} {n : Nat} (F : Str Z h a t cs) (E : Exa Z h x C) (w : (Jvm.Cond.instantiable C n).before a0 Z = true) : t ≠ x := by
  obtain ⟨kb, K⟩ := F.arv
  exact (E.neArv K w).symm
theorem Exa.bytes {kb : ClassId} {n : Int32} {vs : List Value} {dv : Value} (K : Arv Z h t kb .byte n vs dv) (hk : Z.vm.findClass "[B" = some kb) : Exa Z h t "[B" := by
  obtain ⟨c, A, q, -⟩ := K
  obtain ⟨A1, ⟨p1, k, p2, comp, p3⟩, A3⟩ := id A
  exact ⟨c, k, A1, by rw [q]; exact hk, p2, A.plain, fun o => by rw [o] at p3; cases p3⟩
end Str
end Jvm.OwnKit
namespace Jvm.Pilot.@@N@@
open Jvm Jvm.ClassFile Sem Op Lib Jvm.Free Jvm.Stand Jvm.LawKit Jvm.RoadKit Jvm.OwnKit Bundle Jvm.Pilot.@@N@@.Jvm.D
theorem wd0 {Z : State} {a0 : Array Value} (hw : ∀ d ∈ tables_1, d.before a0 Z = true) : (Jvm.Cond.classLink "com/example/chunkwise/chunkwise/item/RecordBuilderEndValuePinLaw" (7 : Nat) "com/example/chunkwise/chunkwise/item/RecordBuilder").before a0 Z = true := hw _ (List.mem_of_getElem? (i := 0) rfl)
theorem wd1 {Z : State} {a0 : Array Value} (hw : ∀ d ∈ tables_1, d.before a0 Z = true) : (Jvm.Cond.instantiable "com/example/chunkwise/chunkwise/item/RecordBuilder" (4 : Nat)).before a0 Z = true := hw _ (List.mem_of_getElem? (i := 1) rfl)
theorem wd2 {Z : State} {a0 : Array Value} (hw : ∀ d ∈ tables_1, d.before a0 Z = true) : (Jvm.Cond.initialized "com/example/chunkwise/chunkwise/item/RecordBuilder").before a0 Z = true := hw _ (List.mem_of_getElem? (i := 2) rfl)
theorem wd3 {Z : State} {a0 : Array Value} (hw : ∀ d ∈ tables_1, d.before a0 Z = true) : (Jvm.Cond.methodLink "com/example/chunkwise/chunkwise/item/RecordBuilderEndValuePinLaw" (9 : Nat) ({ cls := "com/example/chunkwise/chunkwise/item/RecordBuilder", name := "<init>", desc := "()V" } : Jvm.MethodName)).before a0 Z = true := hw _ (List.mem_of_getElem? (i := 3) rfl)
theorem wd4 {Z : State} {a0 : Array Value} (hw : ∀ d ∈ tables_1, d.before a0 Z = true) : (Jvm.Cond.instanceMethod ({ cls := "com/example/chunkwise/chunkwise/item/RecordBuilder", name := "<init>", desc := "()V" } : Jvm.MethodName)).before a0 Z = true := hw _ (List.mem_of_getElem? (i := 4) rfl)
theorem wd5 {Z : State} {a0 : Array Value} (hw : ∀ d ∈ tables_1, d.before a0 Z = true) : (Jvm.Cond.code ({ cls := "com/example/chunkwise/chunkwise/item/RecordBuilder", name := "<init>", desc := "()V" } : Jvm.MethodName) prog_61_method_1_code (1 : Nat) (Option.none : Option Jvm.ClassFile.FieldType)).before a0 Z = true := hw _ (List.mem_of_getElem? (i := 5) rfl)
theorem wd6 {Z : State} {a0 : Array Value} (hw : ∀ d ∈ tables_1, d.before a0 Z = true) : (Jvm.Cond.methodLink "com/example/chunkwise/chunkwise/item/RecordBuilder" (1 : Nat) ({ cls := "java/lang/Object", name := "<init>", desc := "()V" } : Jvm.MethodName)).before a0 Z = true := hw _ (List.mem_of_getElem? (i := 6) rfl)
theorem wd7 {Z : State} {a0 : Array Value} (hw : ∀ d ∈ tables_1, d.before a0 Z = true) : (Jvm.Cond.instanceMethod ({ cls := "java/lang/Object", name := "<init>", desc := "()V" } : Jvm.MethodName)).before a0 Z = true := hw _ (List.mem_of_getElem? (i := 7) rfl)
theorem wd8 {Z : State} {a0 : Array Value} (hw : ∀ d ∈ tables_1, d.before a0 Z = true) : (Jvm.Cond.code ({ cls := "java/lang/Object", name := "<init>", desc := "()V" } : Jvm.MethodName) object_method_1_code (1 : Nat) (Option.none : Option Jvm.ClassFile.FieldType)).before a0 Z = true := hw _ (List.mem_of_getElem? (i := 8) rfl)
theorem wd9 {Z : State} {a0 : Array Value} (hw : ∀ d ∈ tables_1, d.before a0 Z = true) : (Jvm.Cond.arrayClass Jvm.ClassFile.FieldType.char).before a0 Z = true := hw _ (List.mem_of_getElem? (i := 9) rfl)
theorem wd10 {Z : State} {a0 : Array Value} (hw : ∀ d ∈ tables_1, d.before a0 Z = true) : (Jvm.Cond.fieldLink "com/example/chunkwise/chunkwise/item/RecordBuilder" (7 : Nat) "com/example/chunkwise/chunkwise/item/RecordBuilder" "text" "[C").before a0 Z = true := hw _ (List.mem_of_getElem? (i := 10) rfl)
theorem wd11 {Z : State} {a0 : Array Value} (hw : ∀ d ∈ tables_1, d.before a0 Z = true) : (Jvm.Cond.lays "com/example/chunkwise/chunkwise/item/RecordBuilder" "com/example/chunkwise/chunkwise/item/RecordBuilder" "text" "[C").before a0 Z = true := hw _ (List.mem_of_getElem? (i := 11) rfl)
theorem wd12 {Z : State} {a0 : Array Value} (hw : ∀ d ∈ tables_1, d.before a0 Z = true) : (Jvm.Cond.arrayClass Jvm.ClassFile.FieldType.int).before a0 Z = true := hw _ (List.mem_of_getElem? (i := 12) rfl)
theorem wd13 {Z : State} {a0 : Array Value} (hw : ∀ d ∈ tables_1, d.before a0 Z = true) : (Jvm.Cond.fieldLink "com/example/chunkwise/chunkwise/item/RecordBuilder" (13 : Nat) "com/example/chunkwise/chunkwise/item/RecordBuilder" "ends" "[I").before a0 Z = true := hw _ (List.mem_of_getElem? (i := 13) rfl)
theorem wd14 {Z : State} {a0 : Array Value} (hw : ∀ d ∈ tables_1, d.before a0 Z = true) : (Jvm.Cond.lays "com/example/chunkwise/chunkwise/item/RecordBuilder" "com/example/chunkwise/chunkwise/item/RecordBuilder" "ends" "[I").before a0 Z = true := hw _ (List.mem_of_getElem? (i := 14) rfl)
theorem wd15 {Z : State} {a0 : Array Value} (hw : ∀ d ∈ tables_1, d.before a0 Z = true) : (Jvm.Cond.methodLink "com/example/chunkwise/chunkwise/item/RecordBuilderEndValuePinLaw" (10 : Nat) ({ cls := "com/example/chunkwise/chunkwise/item/RecordBuilder", name := "append", desc := "(C)V" } : Jvm.MethodName)).before a0 Z = true := hw _ (List.mem_of_getElem? (i := 15) rfl)
theorem wd16 {Z : State} {a0 : Array Value} (hw : ∀ d ∈ tables_1, d.before a0 Z = true) : (Jvm.Cond.declares ({ cls := "com/example/chunkwise/chunkwise/item/RecordBuilder", name := "append", desc := "(C)V" } : Jvm.MethodName)).before a0 Z = true := hw _ (List.mem_of_getElem? (i := 16) rfl)
theorem wd17 {Z : State} {a0 : Array Value} (hw : ∀ d ∈ tables_1, d.before a0 Z = true) : (Jvm.Cond.instanceMethod ({ cls := "com/example/chunkwise/chunkwise/item/RecordBuilder", name := "append", desc := "(C)V" } : Jvm.MethodName)).before a0 Z = true := hw _ (List.mem_of_getElem? (i := 17) rfl)
theorem wd18 {Z : State} {a0 : Array Value} (hw : ∀ d ∈ tables_1, d.before a0 Z = true) : (Jvm.Cond.selects "com/example/chunkwise/chunkwise/item/RecordBuilder" ({ cls := "com/example/chunkwise/chunkwise/item/RecordBuilder", name := "append", desc := "(C)V" } : Jvm.MethodName) ({ cls := "com/example/chunkwise/chunkwise/item/RecordBuilder", name := "append", desc := "(C)V" } : Jvm.MethodName)).before a0 Z = true := hw _ (List.mem_of_getElem? (i := 18) rfl)
theorem wd19 {Z : State} {a0 : Array Value} (hw : ∀ d ∈ tables_1, d.before a0 Z = true) : (Jvm.Cond.code ({ cls := "com/example/chunkwise/chunkwise/item/RecordBuilder", name := "append", desc := "(C)V" } : Jvm.MethodName) prog_61_method_4_code (2 : Nat) (Option.none : Option Jvm.ClassFile.FieldType)).before a0 Z = true := hw _ (List.mem_of_getElem? (i := 19) rfl)
theorem wd20 {Z : State} {a0 : Array Value} (hw : ∀ d ∈ tables_1, d.before a0 Z = true) : (Jvm.Cond.methodLink "com/example/chunkwise/chunkwise/item/RecordBuilder" (24 : Nat) ({ cls := "com/example/chunkwise/chunkwise/item/RecordBuilder", name := "room", desc := "(I)V" } : Jvm.MethodName)).before a0 Z = true := hw _ (List.mem_of_getElem? (i := 20) rfl)
theorem wd21 {Z : State} {a0 : Array Value} (hw : ∀ d ∈ tables_1, d.before a0 Z = true) : (Jvm.Cond.instanceMethod ({ cls := "com/example/chunkwise/chunkwise/item/RecordBuilder", name := "room", desc := "(I)V" } : Jvm.MethodName)).before a0 Z = true := hw _ (List.mem_of_getElem? (i := 21) rfl)
theorem wd22 {Z : State} {a0 : Array Value} (hw : ∀ d ∈ tables_1, d.before a0 Z = true) : (Jvm.Cond.privateMethod ({ cls := "com/example/chunkwise/chunkwise/item/RecordBuilder", name := "room", desc := "(I)V" } : Jvm.MethodName)).before a0 Z = true := hw _ (List.mem_of_getElem? (i := 22) rfl)
theorem wd23 {Z : State} {a0 : Array Value} (hw : ∀ d ∈ tables_1, d.before a0 Z = true) : (Jvm.Cond.code ({ cls := "com/example/chunkwise/chunkwise/item/RecordBuilder", name := "room", desc := "(I)V" } : Jvm.MethodName) prog_61_method_9_code (2 : Nat) (Option.none : Option Jvm.ClassFile.FieldType)).before a0 Z = true := hw _ (List.mem_of_getElem? (i := 23) rfl)
theorem wd24 {Z : State} {a0 : Array Value} (hw : ∀ d ∈ tables_1, d.before a0 Z = true) : (Jvm.Cond.fieldLink "com/example/chunkwise/chunkwise/item/RecordBuilder" (17 : Nat) "com/example/chunkwise/chunkwise/item/RecordBuilder" "length" "I").before a0 Z = true := hw _ (List.mem_of_getElem? (i := 24) rfl)
theorem wd25 {Z : State} {a0 : Array Value} (hw : ∀ d ∈ tables_1, d.before a0 Z = true) : (Jvm.Cond.lays "com/example/chunkwise/chunkwise/item/RecordBuilder" "com/example/chunkwise/chunkwise/item/RecordBuilder" "length" "I").before a0 Z = true := hw _ (List.mem_of_getElem? (i := 25) rfl)
theorem wd26 {Z : State} {a0 : Array Value} (hw : ∀ d ∈ tables_1, d.before a0 Z = true) : (Jvm.Cond.methodLink "com/example/chunkwise/chunkwise/item/RecordBuilderEndValuePinLaw" (14 : Nat) ({ cls := "com/example/chunkwise/chunkwise/item/RecordBuilder", name := "endValue", desc := "()V" } : Jvm.MethodName)).before a0 Z = true := hw _ (List.mem_of_getElem? (i := 26) rfl)
theorem wd27 {Z : State} {a0 : Array Value} (hw : ∀ d ∈ tables_1, d.before a0 Z = true) : (Jvm.Cond.declares ({ cls := "com/example/chunkwise/chunkwise/item/RecordBuilder", name := "endValue", desc := "()V" } : Jvm.MethodName)).before a0 Z = true := hw _ (List.mem_of_getElem? (i := 27) rfl)
theorem wd28 {Z : State} {a0 : Array Value} (hw : ∀ d ∈ tables_1, d.before a0 Z = true) : (Jvm.Cond.instanceMethod ({ cls := "com/example/chunkwise/chunkwise/item/RecordBuilder", name := "endValue", desc := "()V" } : Jvm.MethodName)).before a0 Z = true := hw _ (List.mem_of_getElem? (i := 28) rfl)
theorem wd29 {Z : State} {a0 : Array Value} (hw : ∀ d ∈ tables_1, d.before a0 Z = true) : (Jvm.Cond.selects "com/example/chunkwise/chunkwise/item/RecordBuilder" ({ cls := "com/example/chunkwise/chunkwise/item/RecordBuilder", name := "endValue", desc := "()V" } : Jvm.MethodName) ({ cls := "com/example/chunkwise/chunkwise/item/RecordBuilder", name := "endValue", desc := "()V" } : Jvm.MethodName)).before a0 Z = true := hw _ (List.mem_of_getElem? (i := 29) rfl)
theorem wd30 {Z : State} {a0 : Array Value} (hw : ∀ d ∈ tables_1, d.before a0 Z = true) : (Jvm.Cond.code ({ cls := "com/example/chunkwise/chunkwise/item/RecordBuilder", name := "endValue", desc := "()V" } : Jvm.MethodName) prog_61_method_5_code (1 : Nat) (Option.none : Option Jvm.ClassFile.FieldType)).before a0 Z = true := hw _ (List.mem_of_getElem? (i := 30) rfl)
theorem wd31 {Z : State} {a0 : Array Value} (hw : ∀ d ∈ tables_1, d.before a0 Z = true) : (Jvm.Cond.fieldLink "com/example/chunkwise/chunkwise/item/RecordBuilder" (21 : Nat) "com/example/chunkwise/chunkwise/item/RecordBuilder" "count" "I").before a0 Z = true := hw _ (List.mem_of_getElem? (i := 31) rfl)
theorem wd32 {Z : State} {a0 : Array Value} (hw : ∀ d ∈ tables_1, d.before a0 Z = true) : (Jvm.Cond.lays "com/example/chunkwise/chunkwise/item/RecordBuilder" "com/example/chunkwise/chunkwise/item/RecordBuilder" "count" "I").before a0 Z = true := hw _ (List.mem_of_getElem? (i := 32) rfl)
theorem wd33 {Z : State} {a0 : Array Value} (hw : ∀ d ∈ tables_1, d.before a0 Z = true) : (Jvm.Cond.methodLink "com/example/chunkwise/chunkwise/item/RecordBuilderEndValuePinLaw" (23 : Nat) ({ cls := "com/example/chunkwise/chunkwise/item/RecordBuilder", name := "size", desc := "()I" } : Jvm.MethodName)).before a0 Z = true := hw _ (List.mem_of_getElem? (i := 33) rfl)
theorem wd34 {Z : State} {a0 : Array Value} (hw : ∀ d ∈ tables_1, d.before a0 Z = true) : (Jvm.Cond.declares ({ cls := "com/example/chunkwise/chunkwise/item/RecordBuilder", name := "size", desc := "()I" } : Jvm.MethodName)).before a0 Z = true := hw _ (List.mem_of_getElem? (i := 34) rfl)
theorem wd35 {Z : State} {a0 : Array Value} (hw : ∀ d ∈ tables_1, d.before a0 Z = true) : (Jvm.Cond.instanceMethod ({ cls := "com/example/chunkwise/chunkwise/item/RecordBuilder", name := "size", desc := "()I" } : Jvm.MethodName)).before a0 Z = true := hw _ (List.mem_of_getElem? (i := 35) rfl)
theorem wd36 {Z : State} {a0 : Array Value} (hw : ∀ d ∈ tables_1, d.before a0 Z = true) : (Jvm.Cond.selects "com/example/chunkwise/chunkwise/item/RecordBuilder" ({ cls := "com/example/chunkwise/chunkwise/item/RecordBuilder", name := "size", desc := "()I" } : Jvm.MethodName) ({ cls := "com/example/chunkwise/chunkwise/item/RecordBuilder", name := "size", desc := "()I" } : Jvm.MethodName)).before a0 Z = true := hw _ (List.mem_of_getElem? (i := 36) rfl)
theorem wd37 {Z : State} {a0 : Array Value} (hw : ∀ d ∈ tables_1, d.before a0 Z = true) : (Jvm.Cond.code ({ cls := "com/example/chunkwise/chunkwise/item/RecordBuilder", name := "size", desc := "()I" } : Jvm.MethodName) prog_61_method_6_code (1 : Nat) (Option.some Jvm.ClassFile.FieldType.int)).before a0 Z = true := hw _ (List.mem_of_getElem? (i := 37) rfl)
theorem wd38 {Z : State} {a0 : Array Value} (hw : ∀ d ∈ tables_1, d.before a0 Z = true) : (Jvm.Cond.methodLink "com/example/chunkwise/chunkwise/item/RecordBuilderEndValuePinLaw" (27 : Nat) ({ cls := "com/example/chunkwise/chunkwise/item/RecordBuilder", name := "get", desc := "(I)Ljava/lang/String;" } : Jvm.MethodName)).before a0 Z = true := hw _ (List.mem_of_getElem? (i := 38) rfl)
theorem wd39 {Z : State} {a0 : Array Value} (hw : ∀ d ∈ tables_1, d.before a0 Z = true) : (Jvm.Cond.declares ({ cls := "com/example/chunkwise/chunkwise/item/RecordBuilder", name := "get", desc := "(I)Ljava/lang/String;" } : Jvm.MethodName)).before a0 Z = true := hw _ (List.mem_of_getElem? (i := 39) rfl)
theorem wd40 {Z : State} {a0 : Array Value} (hw : ∀ d ∈ tables_1, d.before a0 Z = true) : (Jvm.Cond.instanceMethod ({ cls := "com/example/chunkwise/chunkwise/item/RecordBuilder", name := "get", desc := "(I)Ljava/lang/String;" } : Jvm.MethodName)).before a0 Z = true := hw _ (List.mem_of_getElem? (i := 40) rfl)
theorem wd41 {Z : State} {a0 : Array Value} (hw : ∀ d ∈ tables_1, d.before a0 Z = true) : (Jvm.Cond.selects "com/example/chunkwise/chunkwise/item/RecordBuilder" ({ cls := "com/example/chunkwise/chunkwise/item/RecordBuilder", name := "get", desc := "(I)Ljava/lang/String;" } : Jvm.MethodName) ({ cls := "com/example/chunkwise/chunkwise/item/RecordBuilder", name := "get", desc := "(I)Ljava/lang/String;" } : Jvm.MethodName)).before a0 Z = true := hw _ (List.mem_of_getElem? (i := 41) rfl)
theorem wd42 {Z : State} {a0 : Array Value} (hw : ∀ d ∈ tables_1, d.before a0 Z = true) : (Jvm.Cond.code ({ cls := "com/example/chunkwise/chunkwise/item/RecordBuilder", name := "get", desc := "(I)Ljava/lang/String;" } : Jvm.MethodName) prog_61_method_7_code (3 : Nat) (Option.some (Jvm.ClassFile.FieldType.object "java/lang/String"))).before a0 Z = true := hw _ (List.mem_of_getElem? (i := 42) rfl)
theorem wd43 {Z : State} {a0 : Array Value} (hw : ∀ d ∈ tables_1, d.before a0 Z = true) : (Jvm.Cond.classLink "com/example/chunkwise/chunkwise/item/RecordBuilder" (40 : Nat) "java/lang/String").before a0 Z = true := hw _ (List.mem_of_getElem? (i := 43) rfl)
theorem wd44 {Z : State} {a0 : Array Value} (hw : ∀ d ∈ tables_1, d.before a0 Z = true) : (Jvm.Cond.instantiable "java/lang/String" (4 : Nat)).before a0 Z = true := hw _ (List.mem_of_getElem? (i := 44) rfl)
theorem wd45 {Z : State} {a0 : Array Value} (hw : ∀ d ∈ tables_1, d.before a0 Z = true) : (Jvm.Cond.initialized "java/lang/String").before a0 Z = true := hw _ (List.mem_of_getElem? (i := 45) rfl)
theorem wd46 {Z : State} {a0 : Array Value} (hw : ∀ d ∈ tables_1, d.before a0 Z = true) : (Jvm.Cond.methodLink "com/example/chunkwise/chunkwise/item/RecordBuilder" (42 : Nat) ({ cls := "java/lang/String", name := "<init>", desc := "([CII)V" } : Jvm.MethodName)).before a0 Z = true := hw _ (List.mem_of_getElem? (i := 46) rfl)
theorem wd47 {Z : State} {a0 : Array Value} (hw : ∀ d ∈ tables_1, d.before a0 Z = true) : (Jvm.Cond.instanceMethod ({ cls := "java/lang/String", name := "<init>", desc := "([CII)V" } : Jvm.MethodName)).before a0 Z = true := hw _ (List.mem_of_getElem? (i := 47) rfl)
theorem wd48 {Z : State} {a0 : Array Value} (hw : ∀ d ∈ tables_1, d.before a0 Z = true) : (Jvm.Cond.code ({ cls := "java/lang/String", name := "<init>", desc := "([CII)V" } : Jvm.MethodName) jdk_42_method_4_code (4 : Nat) (Option.none : Option Jvm.ClassFile.FieldType)).before a0 Z = true := hw _ (List.mem_of_getElem? (i := 48) rfl)
theorem wd49 {Z : State} {a0 : Array Value} (hw : ∀ d ∈ tables_1, d.before a0 Z = true) : (Jvm.Cond.methodLink "java/lang/String" (30 : Nat) ({ cls := "java/lang/String", name := "rangeCheck", desc := "([CII)Ljava/lang/Void;" } : Jvm.MethodName)).before a0 Z = true := hw _ (List.mem_of_getElem? (i := 49) rfl)
theorem wd50 {Z : State} {a0 : Array Value} (hw : ∀ d ∈ tables_1, d.before a0 Z = true) : (Jvm.Cond.static ({ cls := "java/lang/String", name := "rangeCheck", desc := "([CII)Ljava/lang/Void;" } : Jvm.MethodName)).before a0 Z = true := hw _ (List.mem_of_getElem? (i := 50) rfl)
theorem wd51 {Z : State} {a0 : Array Value} (hw : ∀ d ∈ tables_1, d.before a0 Z = true) : (Jvm.Cond.code ({ cls := "java/lang/String", name := "rangeCheck", desc := "([CII)Ljava/lang/Void;" } : Jvm.MethodName) jdk_42_method_5_code (3 : Nat) (Option.some (Jvm.ClassFile.FieldType.object "java/lang/Void"))).before a0 Z = true := hw _ (List.mem_of_getElem? (i := 51) rfl)
theorem wd52 {Z : State} {a0 : Array Value} (hw : ∀ d ∈ tables_1, d.before a0 Z = true) : (Jvm.Cond.methodLink "java/lang/String" (34 : Nat) ({ cls := "java/lang/String", name := "checkBoundsOffCount", desc := "(III)I" } : Jvm.MethodName)).before a0 Z = true := hw _ (List.mem_of_getElem? (i := 52) rfl)
theorem wd53 {Z : State} {a0 : Array Value} (hw : ∀ d ∈ tables_1, d.before a0 Z = true) : (Jvm.Cond.static ({ cls := "java/lang/String", name := "checkBoundsOffCount", desc := "(III)I" } : Jvm.MethodName)).before a0 Z = true := hw _ (List.mem_of_getElem? (i := 53) rfl)
theorem wd54 {Z : State} {a0 : Array Value} (hw : ∀ d ∈ tables_1, d.before a0 Z = true) : (Jvm.Cond.code ({ cls := "java/lang/String", name := "checkBoundsOffCount", desc := "(III)I" } : Jvm.MethodName) jdk_42_method_157_code (3 : Nat) (Option.some Jvm.ClassFile.FieldType.int)).before a0 Z = true := hw _ (List.mem_of_getElem? (i := 54) rfl)
theorem wd55 {Z : State} {a0 : Array Value} (hw : ∀ d ∈ tables_1, d.before a0 Z = true) : (Jvm.Cond.fieldLink "java/lang/String" (1053 : Nat) "jdk/internal/util/Preconditions" "SIOOBE_FORMATTER" "Ljava/util/function/BiFunction;").before a0 Z = true := hw _ (List.mem_of_getElem? (i := 55) rfl)
theorem wd56 {Z : State} {a0 : Array Value} (hw : ∀ d ∈ tables_1, d.before a0 Z = true) : (Jvm.Cond.initialized "jdk/internal/util/Preconditions").before a0 Z = true := hw _ (List.mem_of_getElem? (i := 56) rfl)
theorem wd57 {Z : State} {a0 : Array Value} (hw : ∀ d ∈ tables_1, d.before a0 Z = true) : (Jvm.Cond.methodLink "java/lang/String" (1065 : Nat) ({ cls := "jdk/internal/util/Preconditions", name := "checkFromIndexSize", desc := "(IIILjava/util/function/BiFunction;)I" } : Jvm.MethodName)).before a0 Z = true := hw _ (List.mem_of_getElem? (i := 57) rfl)
theorem wd58 {Z : State} {a0 : Array Value} (hw : ∀ d ∈ tables_1, d.before a0 Z = true) : (Jvm.Cond.static ({ cls := "jdk/internal/util/Preconditions", name := "checkFromIndexSize", desc := "(IIILjava/util/function/BiFunction;)I" } : Jvm.MethodName)).before a0 Z = true := hw _ (List.mem_of_getElem? (i := 58) rfl)
theorem wd59 {Z : State} {a0 : Array Value} (hw : ∀ d ∈ tables_1, d.before a0 Z = true) : (Jvm.Cond.code ({ cls := "jdk/internal/util/Preconditions", name := "checkFromIndexSize", desc := "(IIILjava/util/function/BiFunction;)I" } : Jvm.MethodName) jdk_41_method_13_code (4 : Nat) (Option.some Jvm.ClassFile.FieldType.int)).before a0 Z = true := hw _ (List.mem_of_getElem? (i := 59) rfl)
theorem wd60 {Z : State} {a0 : Array Value} (hw : ∀ d ∈ tables_1, d.before a0 Z = true) : (Jvm.Cond.methodLink "java/lang/String" (27 : Nat) ({ cls := "java/lang/String", name := "<init>", desc := "([CIILjava/lang/Void;)V" } : Jvm.MethodName)).before a0 Z = true := hw _ (List.mem_of_getElem? (i := 60) rfl)
theorem wd61 {Z : State} {a0 : Array Value} (hw : ∀ d ∈ tables_1, d.before a0 Z = true) : (Jvm.Cond.instanceMethod ({ cls := "java/lang/String", name := "<init>", desc := "([CIILjava/lang/Void;)V" } : Jvm.MethodName)).before a0 Z = true := hw _ (List.mem_of_getElem? (i := 61) rfl)
theorem wd63 {Z : State} {a0 : Array Value} (hw : ∀ d ∈ tables_1, d.before a0 Z = true) : (Jvm.Cond.code ({ cls := "java/lang/String", name := "<init>", desc := "([CIILjava/lang/Void;)V" } : Jvm.MethodName) jdk_42_method_149_code (6 : Nat) (Option.none : Option Jvm.ClassFile.FieldType)).before a0 Z = true := hw _ (List.mem_of_getElem? (i := 63) rfl)
theorem wd64 {Z : State} {a0 : Array Value} (hw : ∀ d ∈ tables_1, d.before a0 Z = true) : (Jvm.Cond.methodLink "java/lang/String" (1 : Nat) ({ cls := "java/lang/Object", name := "<init>", desc := "()V" } : Jvm.MethodName)).before a0 Z = true := hw _ (List.mem_of_getElem? (i := 64) rfl)
theorem wd65 {Z : State} {a0 : Array Value} (hw : ∀ d ∈ tables_1, d.before a0 Z = true) : (Jvm.Cond.fieldLink "java/lang/String" (38 : Nat) "java/lang/String" "COMPACT_STRINGS" "Z").before a0 Z = true := hw _ (List.mem_of_getElem? (i := 65) rfl)
theorem wd66 {Z : State} {a0 : Array Value} (hw : ∀ d ∈ tables_1, d.before a0 Z = true) : (Jvm.Cond.methodLink "java/lang/String" (177 : Nat) ({ cls := "java/lang/StringUTF16", name := "compress", desc := "([CII)[B" } : Jvm.MethodName)).before a0 Z = true := hw _ (List.mem_of_getElem? (i := 66) rfl)
theorem wd67 {Z : State} {a0 : Array Value} (hw : ∀ d ∈ tables_1, d.before a0 Z = true) : (Jvm.Cond.static ({ cls := "java/lang/StringUTF16", name := "compress", desc := "([CII)[B" } : Jvm.MethodName)).before a0 Z = true := hw _ (List.mem_of_getElem? (i := 67) rfl)
theorem wd68 {Z : State} {a0 : Array Value} (hw : ∀ d ∈ tables_1, d.before a0 Z = true) : (Jvm.Cond.initialized "java/lang/StringUTF16").before a0 Z = true := hw _ (List.mem_of_getElem? (i := 68) rfl)
theorem wd69 {Z : State} {a0 : Array Value} (hw : ∀ d ∈ tables_1, d.before a0 Z = true) : (Jvm.Cond.code ({ cls := "java/lang/StringUTF16", name := "compress", desc := "([CII)[B" } : Jvm.MethodName) jdk_52_method_16_code (6 : Nat) (Option.some (Jvm.ClassFile.FieldType.array Jvm.ClassFile.FieldType.byte))).before a0 Z = true := hw _ (List.mem_of_getElem? (i := 69) rfl)
theorem wd70 {Z : State} {a0 : Array Value} (hw : ∀ d ∈ tables_1, d.before a0 Z = true) : (Jvm.Cond.arrayClass Jvm.ClassFile.FieldType.byte).before a0 Z = true := hw _ (List.mem_of_getElem? (i := 70) rfl)
theorem wd71 {Z : State} {a0 : Array Value} (hw : ∀ d ∈ tables_1, d.before a0 Z = true) : (Jvm.Cond.methodLink "java/lang/StringUTF16" (115 : Nat) ({ cls := "java/lang/StringUTF16", name := "compress", desc := "([CI[BII)I" } : Jvm.MethodName)).before a0 Z = true := hw _ (List.mem_of_getElem? (i := 71) rfl)
theorem wd72 {Z : State} {a0 : Array Value} (hw : ∀ d ∈ tables_1, d.before a0 Z = true) : (Jvm.Cond.static ({ cls := "java/lang/StringUTF16", name := "compress", desc := "([CI[BII)I" } : Jvm.MethodName)).before a0 Z = true := hw _ (List.mem_of_getElem? (i := 72) rfl)
theorem wd73 {Z : State} {a0 : Array Value} (hw : ∀ d ∈ tables_1, d.before a0 Z = true) : (Jvm.Cond.code ({ cls := "java/lang/StringUTF16", name := "compress", desc := "([CI[BII)I" } : Jvm.MethodName) jdk_52_method_21_code (7 : Nat) (Option.some Jvm.ClassFile.FieldType.int)).before a0 Z = true := hw _ (List.mem_of_getElem? (i := 73) rfl)
theorem wd74 {Z : State} {a0 : Array Value} (hw : ∀ d ∈ tables_1, d.before a0 Z = true) : (Jvm.Cond.methodLink "java/lang/String" (47 : Nat) ({ cls := "java/lang/StringUTF16", name := "coderFromArrayLen", desc := "([BI)B" } : Jvm.MethodName)).before a0 Z = true := hw _ (List.mem_of_getElem? (i := 74) rfl)
theorem wd75 {Z : State} {a0 : Array Value} (hw : ∀ d ∈ tables_1, d.before a0 Z = true) : (Jvm.Cond.static ({ cls := "java/lang/StringUTF16", name := "coderFromArrayLen", desc := "([BI)B" } : Jvm.MethodName)).before a0 Z = true := hw _ (List.mem_of_getElem? (i := 75) rfl)
theorem wd76 {Z : State} {a0 : Array Value} (hw : ∀ d ∈ tables_1, d.before a0 Z = true) : (Jvm.Cond.code ({ cls := "java/lang/StringUTF16", name := "coderFromArrayLen", desc := "([BI)B" } : Jvm.MethodName) jdk_52_method_15_code (2 : Nat) (Option.some Jvm.ClassFile.FieldType.byte)).before a0 Z = true := hw _ (List.mem_of_getElem? (i := 76) rfl)
theorem wd77 {Z : State} {a0 : Array Value} (hw : ∀ d ∈ tables_1, d.before a0 Z = true) : (Jvm.Cond.fieldLink "java/lang/String" (15 : Nat) "java/lang/String" "coder" "B").before a0 Z = true := hw _ (List.mem_of_getElem? (i := 77) rfl)
theorem wd78 {Z : State} {a0 : Array Value} (hw : ∀ d ∈ tables_1, d.before a0 Z = true) : (Jvm.Cond.laysFinal "java/lang/String" "java/lang/String" "coder" "B").before a0 Z = true := hw _ (List.mem_of_getElem? (i := 78) rfl)
theorem wd79 {Z : State} {a0 : Array Value} (hw : ∀ d ∈ tables_1, d.before a0 Z = true) : (Jvm.Cond.fieldLink "java/lang/String" (9 : Nat) "java/lang/String" "value" "[B").before a0 Z = true := hw _ (List.mem_of_getElem? (i := 79) rfl)
theorem wd80 {Z : State} {a0 : Array Value} (hw : ∀ d ∈ tables_1, d.before a0 Z = true) : (Jvm.Cond.laysFinal "java/lang/String" "java/lang/String" "value" "[B").before a0 Z = true := hw _ (List.mem_of_getElem? (i := 80) rfl)
theorem wd81 {Z : State} {a0 : Array Value} (hw : ∀ d ∈ tables_1, d.before a0 Z = true) : (Jvm.Cond.methodLink "com/example/chunkwise/chunkwise/item/RecordBuilderEndValuePinLaw" (31 : Nat) ({ cls := "java/lang/String", name := "length", desc := "()I" } : Jvm.MethodName)).before a0 Z = true := hw _ (List.mem_of_getElem? (i := 81) rfl)
theorem wd82 {Z : State} {a0 : Array Value} (hw : ∀ d ∈ tables_1, d.before a0 Z = true) : (Jvm.Cond.declares ({ cls := "java/lang/String", name := "length", desc := "()I" } : Jvm.MethodName)).before a0 Z = true := hw _ (List.mem_of_getElem? (i := 82) rfl)
theorem wd83 {Z : State} {a0 : Array Value} (hw : ∀ d ∈ tables_1, d.before a0 Z = true) : (Jvm.Cond.instanceMethod ({ cls := "java/lang/String", name := "length", desc := "()I" } : Jvm.MethodName)).before a0 Z = true := hw _ (List.mem_of_getElem? (i := 83) rfl)
theorem wd84 {Z : State} {a0 : Array Value} (hw : ∀ d ∈ tables_1, d.before a0 Z = true) : (Jvm.Cond.selects "java/lang/String" ({ cls := "java/lang/String", name := "length", desc := "()I" } : Jvm.MethodName) ({ cls := "java/lang/String", name := "length", desc := "()I" } : Jvm.MethodName)).before a0 Z = true := hw _ (List.mem_of_getElem? (i := 84) rfl)
theorem wd85 {Z : State} {a0 : Array Value} (hw : ∀ d ∈ tables_1, d.before a0 Z = true) : (Jvm.Cond.code ({ cls := "java/lang/String", name := "length", desc := "()I" } : Jvm.MethodName) jdk_42_method_54_code (1 : Nat) (Option.some Jvm.ClassFile.FieldType.int)).before a0 Z = true := hw _ (List.mem_of_getElem? (i := 85) rfl)
theorem wd86 {Z : State} {a0 : Array Value} (hw : ∀ d ∈ tables_1, d.before a0 Z = true) : (Jvm.Cond.methodLink "java/lang/String" (335 : Nat) ({ cls := "java/lang/String", name := "coder", desc := "()B" } : Jvm.MethodName)).before a0 Z = true := hw _ (List.mem_of_getElem? (i := 86) rfl)
theorem wd87 {Z : State} {a0 : Array Value} (hw : ∀ d ∈ tables_1, d.before a0 Z = true) : (Jvm.Cond.declares ({ cls := "java/lang/String", name := "coder", desc := "()B" } : Jvm.MethodName)).before a0 Z = true := hw _ (List.mem_of_getElem? (i := 87) rfl)
theorem wd88 {Z : State} {a0 : Array Value} (hw : ∀ d ∈ tables_1, d.before a0 Z = true) : (Jvm.Cond.instanceMethod ({ cls := "java/lang/String", name := "coder", desc := "()B" } : Jvm.MethodName)).before a0 Z = true := hw _ (List.mem_of_getElem? (i := 88) rfl)
theorem wd89 {Z : State} {a0 : Array Value} (hw : ∀ d ∈ tables_1, d.before a0 Z = true) : (Jvm.Cond.selects "java/lang/String" ({ cls := "java/lang/String", name := "coder", desc := "()B" } : Jvm.MethodName) ({ cls := "java/lang/String", name := "coder", desc := "()B" } : Jvm.MethodName)).before a0 Z = true := hw _ (List.mem_of_getElem? (i := 89) rfl)
theorem wd90 {Z : State} {a0 : Array Value} (hw : ∀ d ∈ tables_1, d.before a0 Z = true) : (Jvm.Cond.code ({ cls := "java/lang/String", name := "coder", desc := "()B" } : Jvm.MethodName) jdk_42_method_152_code (1 : Nat) (Option.some Jvm.ClassFile.FieldType.byte)).before a0 Z = true := hw _ (List.mem_of_getElem? (i := 90) rfl)
theorem wd91 {Z : State} {a0 : Array Value} (hw : ∀ d ∈ tables_1, d.before a0 Z = true) : (Jvm.Cond.methodLink "com/example/chunkwise/chunkwise/item/RecordBuilderEndValuePinLaw" (36 : Nat) ({ cls := "java/lang/String", name := "charAt", desc := "(I)C" } : Jvm.MethodName)).before a0 Z = true := hw _ (List.mem_of_getElem? (i := 91) rfl)
theorem wd92 {Z : State} {a0 : Array Value} (hw : ∀ d ∈ tables_1, d.before a0 Z = true) : (Jvm.Cond.declares ({ cls := "java/lang/String", name := "charAt", desc := "(I)C" } : Jvm.MethodName)).before a0 Z = true := hw _ (List.mem_of_getElem? (i := 92) rfl)
theorem wd93 {Z : State} {a0 : Array Value} (hw : ∀ d ∈ tables_1, d.before a0 Z = true) : (Jvm.Cond.instanceMethod ({ cls := "java/lang/String", name := "charAt", desc := "(I)C" } : Jvm.MethodName)).before a0 Z = true := hw _ (List.mem_of_getElem? (i := 93) rfl)
theorem wd94 {Z : State} {a0 : Array Value} (hw : ∀ d ∈ tables_1, d.before a0 Z = true) : (Jvm.Cond.selects "java/lang/String" ({ cls := "java/lang/String", name := "charAt", desc := "(I)C" } : Jvm.MethodName) ({ cls := "java/lang/String", name := "charAt", desc := "(I)C" } : Jvm.MethodName)).before a0 Z = true := hw _ (List.mem_of_getElem? (i := 94) rfl)
theorem wd95 {Z : State} {a0 : Array Value} (hw : ∀ d ∈ tables_1, d.before a0 Z = true) : (Jvm.Cond.code ({ cls := "java/lang/String", name := "charAt", desc := "(I)C" } : Jvm.MethodName) jdk_42_method_56_code (2 : Nat) (Option.some Jvm.ClassFile.FieldType.char)).before a0 Z = true := hw _ (List.mem_of_getElem? (i := 95) rfl)
theorem wd96 {Z : State} {a0 : Array Value} (hw : ∀ d ∈ tables_1, d.before a0 Z = true) : (Jvm.Cond.methodLink "java/lang/String" (492 : Nat) ({ cls := "java/lang/String", name := "isLatin1", desc := "()Z" } : Jvm.MethodName)).before a0 Z = true := hw _ (List.mem_of_getElem? (i := 96) rfl)
theorem wd97 {Z : State} {a0 : Array Value} (hw : ∀ d ∈ tables_1, d.before a0 Z = true) : (Jvm.Cond.declares ({ cls := "java/lang/String", name := "isLatin1", desc := "()Z" } : Jvm.MethodName)).before a0 Z = true := hw _ (List.mem_of_getElem? (i := 97) rfl)
theorem wd98 {Z : State} {a0 : Array Value} (hw : ∀ d ∈ tables_1, d.before a0 Z = true) : (Jvm.Cond.instanceMethod ({ cls := "java/lang/String", name := "isLatin1", desc := "()Z" } : Jvm.MethodName)).before a0 Z = true := hw _ (List.mem_of_getElem? (i := 98) rfl)
theorem wd99 {Z : State} {a0 : Array Value} (hw : ∀ d ∈ tables_1, d.before a0 Z = true) : (Jvm.Cond.selects "java/lang/String" ({ cls := "java/lang/String", name := "isLatin1", desc := "()Z" } : Jvm.MethodName) ({ cls := "java/lang/String", name := "isLatin1", desc := "()Z" } : Jvm.MethodName)).before a0 Z = true := hw _ (List.mem_of_getElem? (i := 99) rfl)
theorem wd100 {Z : State} {a0 : Array Value} (hw : ∀ d ∈ tables_1, d.before a0 Z = true) : (Jvm.Cond.code ({ cls := "java/lang/String", name := "isLatin1", desc := "()Z" } : Jvm.MethodName) jdk_42_method_154_code (1 : Nat) (Option.some Jvm.ClassFile.FieldType.boolean)).before a0 Z = true := hw _ (List.mem_of_getElem? (i := 100) rfl)
theorem wd101 {Z : State} {a0 : Array Value} (hw : ∀ d ∈ tables_1, d.before a0 Z = true) : (Jvm.Cond.methodLink "java/lang/String" (495 : Nat) ({ cls := "java/lang/StringLatin1", name := "charAt", desc := "([BI)C" } : Jvm.MethodName)).before a0 Z = true := hw _ (List.mem_of_getElem? (i := 101) rfl)
theorem wd102 {Z : State} {a0 : Array Value} (hw : ∀ d ∈ tables_1, d.before a0 Z = true) : (Jvm.Cond.static ({ cls := "java/lang/StringLatin1", name := "charAt", desc := "([BI)C" } : Jvm.MethodName)).before a0 Z = true := hw _ (List.mem_of_getElem? (i := 102) rfl)
theorem wd103 {Z : State} {a0 : Array Value} (hw : ∀ d ∈ tables_1, d.before a0 Z = true) : (Jvm.Cond.initialized "java/lang/StringLatin1").before a0 Z = true := hw _ (List.mem_of_getElem? (i := 103) rfl)
theorem wd104 {Z : State} {a0 : Array Value} (hw : ∀ d ∈ tables_1, d.before a0 Z = true) : (Jvm.Cond.code ({ cls := "java/lang/StringLatin1", name := "charAt", desc := "([BI)C" } : Jvm.MethodName) jdk_43_method_2_code (2 : Nat) (Option.some Jvm.ClassFile.FieldType.char)).before a0 Z = true := hw _ (List.mem_of_getElem? (i := 104) rfl)
theorem wd105 {Z : State} {a0 : Array Value} (hw : ∀ d ∈ tables_1, d.before a0 Z = true) : (Jvm.Cond.methodLink "java/lang/StringLatin1" (9 : Nat) ({ cls := "java/lang/String", name := "checkIndex", desc := "(II)V" } : Jvm.MethodName)).before a0 Z = true := hw _ (List.mem_of_getElem? (i := 105) rfl)
theorem wd106 {Z : State} {a0 : Array Value} (hw : ∀ d ∈ tables_1, d.before a0 Z = true) : (Jvm.Cond.static ({ cls := "java/lang/String", name := "checkIndex", desc := "(II)V" } : Jvm.MethodName)).before a0 Z = true := hw _ (List.mem_of_getElem? (i := 106) rfl)
theorem wd107 {Z : State} {a0 : Array Value} (hw : ∀ d ∈ tables_1, d.before a0 Z = true) : (Jvm.Cond.code ({ cls := "java/lang/String", name := "checkIndex", desc := "(II)V" } : Jvm.MethodName) jdk_42_method_155_code (2 : Nat) (Option.none : Option Jvm.ClassFile.FieldType)).before a0 Z = true := hw _ (List.mem_of_getElem? (i := 107) rfl)
theorem wd108 {Z : State} {a0 : Array Value} (hw : ∀ d ∈ tables_1, d.before a0 Z = true) : (Jvm.Cond.methodLink "java/lang/String" (1059 : Nat) ({ cls := "jdk/internal/util/Preconditions", name := "checkIndex", desc := "(IILjava/util/function/BiFunction;)I" } : Jvm.MethodName)).before a0 Z = true := hw _ (List.mem_of_getElem? (i := 108) rfl)
theorem wd109 {Z : State} {a0 : Array Value} (hw : ∀ d ∈ tables_1, d.before a0 Z = true) : (Jvm.Cond.static ({ cls := "jdk/internal/util/Preconditions", name := "checkIndex", desc := "(IILjava/util/function/BiFunction;)I" } : Jvm.MethodName)).before a0 Z = true := hw _ (List.mem_of_getElem? (i := 109) rfl)
theorem wd110 {Z : State} {a0 : Array Value} (hw : ∀ d ∈ tables_1, d.before a0 Z = true) : (Jvm.Cond.code ({ cls := "jdk/internal/util/Preconditions", name := "checkIndex", desc := "(IILjava/util/function/BiFunction;)I" } : Jvm.MethodName) jdk_41_method_11_code (3 : Nat) (Option.some Jvm.ClassFile.FieldType.int)).before a0 Z = true := hw _ (List.mem_of_getElem? (i := 110) rfl)
theorem wd111 {Z : State} {a0 : Array Value} (hw : ∀ d ∈ tables_1, d.before a0 Z = true) : (Jvm.Cond.stringLink "java/lang/String" (7 : Nat) "").before a0 Z = true := hw _ (List.mem_of_getElem? (i := 111) rfl)
theorem wd114 {Z : State} {a0 : Array Value} (hw : ∀ d ∈ tables_1, d.before a0 Z = true) : (Jvm.Cond.methodLink "com/example/chunkwise/chunkwise/item/RecordBuilderEndValuePinLaw" (40 : Nat) ({ cls := "java/lang/String", name := "isEmpty", desc := "()Z" } : Jvm.MethodName)).before a0 Z = true := hw _ (List.mem_of_getElem? (i := 114) rfl)
theorem wd115 {Z : State} {a0 : Array Value} (hw : ∀ d ∈ tables_1, d.before a0 Z = true) : (Jvm.Cond.declares ({ cls := "java/lang/String", name := "isEmpty", desc := "()Z" } : Jvm.MethodName)).before a0 Z = true := hw _ (List.mem_of_getElem? (i := 115) rfl)
theorem wd116 {Z : State} {a0 : Array Value} (hw : ∀ d ∈ tables_1, d.before a0 Z = true) : (Jvm.Cond.instanceMethod ({ cls := "java/lang/String", name := "isEmpty", desc := "()Z" } : Jvm.MethodName)).before a0 Z = true := hw _ (List.mem_of_getElem? (i := 116) rfl)
theorem wd117 {Z : State} {a0 : Array Value} (hw : ∀ d ∈ tables_1, d.before a0 Z = true) : (Jvm.Cond.selects "java/lang/String" ({ cls := "java/lang/String", name := "isEmpty", desc := "()Z" } : Jvm.MethodName) ({ cls := "java/lang/String", name := "isEmpty", desc := "()Z" } : Jvm.MethodName)).before a0 Z = true := hw _ (List.mem_of_getElem? (i := 117) rfl)
theorem wd118 {Z : State} {a0 : Array Value} (hw : ∀ d ∈ tables_1, d.before a0 Z = true) : (Jvm.Cond.code ({ cls := "java/lang/String", name := "isEmpty", desc := "()Z" } : Jvm.MethodName) jdk_42_method_55_code (1 : Nat) (Option.some Jvm.ClassFile.FieldType.boolean)).before a0 Z = true := hw _ (List.mem_of_getElem? (i := 118) rfl)
theorem wd119 {Z : State} {a0 : Array Value} (hw : ∀ d ∈ tables_1, d.before a0 Z = true) : (Jvm.Cond.methodLink "com/example/chunkwise/chunkwise/item/RecordBuilderEndValuePinLaw" (17 : Nat) ({ cls := "com/example/chunkwise/chunkwise/item/RecordBuilderEndValuePinLaw", name := "four", desc := "(Lcom/example/chunkwise/chunkwise/item/RecordBuilder;)V" } : Jvm.MethodName)).before a0 Z = true := hw _ (List.mem_of_getElem? (i := 119) rfl)
theorem wd120 {Z : State} {a0 : Array Value} (hw : ∀ d ∈ tables_1, d.before a0 Z = true) : (Jvm.Cond.static ({ cls := "com/example/chunkwise/chunkwise/item/RecordBuilderEndValuePinLaw", name := "four", desc := "(Lcom/example/chunkwise/chunkwise/item/RecordBuilder;)V" } : Jvm.MethodName)).before a0 Z = true := hw _ (List.mem_of_getElem? (i := 120) rfl)
theorem wd121 {Z : State} {a0 : Array Value} (hw : ∀ d ∈ tables_1, d.before a0 Z = true) : (Jvm.Cond.initialized "com/example/chunkwise/chunkwise/item/RecordBuilderEndValuePinLaw").before a0 Z = true := hw _ (List.mem_of_getElem? (i := 121) rfl)
theorem wd122 {Z : State} {a0 : Array Value} (hw : ∀ d ∈ tables_1, d.before a0 Z = true) : (Jvm.Cond.code ({ cls := "com/example/chunkwise/chunkwise/item/RecordBuilderEndValuePinLaw", name := "four", desc := "(Lcom/example/chunkwise/chunkwise/item/RecordBuilder;)V" } : Jvm.MethodName) method_3_code (1 : Nat) (Option.none : Option Jvm.ClassFile.FieldType)).before a0 Z = true := hw _ (List.mem_of_getElem? (i := 122) rfl)
theorem wd123 {Z : State} {a0 : Array Value} (hw : ∀ d ∈ tables_1, d.before a0 Z = true) : (Jvm.Cond.methodLink "com/example/chunkwise/chunkwise/item/RecordBuilder" (34 : Nat) ({ cls := "java/util/Arrays", name := "copyOf", desc := "([II)[I" } : Jvm.MethodName)).before a0 Z = true := hw _ (List.mem_of_getElem? (i := 123) rfl)
theorem wd124 {Z : State} {a0 : Array Value} (hw : ∀ d ∈ tables_1, d.before a0 Z = true) : (Jvm.Cond.static ({ cls := "java/util/Arrays", name := "copyOf", desc := "([II)[I" } : Jvm.MethodName)).before a0 Z = true := hw _ (List.mem_of_getElem? (i := 124) rfl)
theorem wd125 {Z : State} {a0 : Array Value} (hw : ∀ d ∈ tables_1, d.before a0 Z = true) : (Jvm.Cond.initialized "java/util/Arrays").before a0 Z = true := hw _ (List.mem_of_getElem? (i := 125) rfl)
theorem wd126 {Z : State} {a0 : Array Value} (hw : ∀ d ∈ tables_1, d.before a0 Z = true) : (Jvm.Cond.code ({ cls := "java/util/Arrays", name := "copyOf", desc := "([II)[I" } : Jvm.MethodName) jdk_65_method_123_code (3 : Nat) (Option.some (Jvm.ClassFile.FieldType.array Jvm.ClassFile.FieldType.int))).before a0 Z = true := hw _ (List.mem_of_getElem? (i := 126) rfl)
theorem wd127 {Z : State} {a0 : Array Value} (hw : ∀ d ∈ tables_1, d.before a0 Z = true) : (Jvm.Cond.methodLink "java/util/Arrays" (304 : Nat) ({ cls := "java/lang/Math", name := "min", desc := "(II)I" } : Jvm.MethodName)).before a0 Z = true := hw _ (List.mem_of_getElem? (i := 127) rfl)
theorem wd128 {Z : State} {a0 : Array Value} (hw : ∀ d ∈ tables_1, d.before a0 Z = true) : (Jvm.Cond.static ({ cls := "java/lang/Math", name := "min", desc := "(II)I" } : Jvm.MethodName)).before a0 Z = true := hw _ (List.mem_of_getElem? (i := 128) rfl)
theorem wd129 {Z : State} {a0 : Array Value} (hw : ∀ d ∈ tables_1, d.before a0 Z = true) : (Jvm.Cond.initialized "java/lang/Math").before a0 Z = true := hw _ (List.mem_of_getElem? (i := 129) rfl)
theorem wd130 {Z : State} {a0 : Array Value} (hw : ∀ d ∈ tables_1, d.before a0 Z = true) : (Jvm.Cond.code ({ cls := "java/lang/Math", name := "min", desc := "(II)I" } : Jvm.MethodName) jdk_29_method_69_code (2 : Nat) (Option.some Jvm.ClassFile.FieldType.int)).before a0 Z = true := hw _ (List.mem_of_getElem? (i := 130) rfl)
theorem wd131 {Z : State} {a0 : Array Value} (hw : ∀ d ∈ tables_1, d.before a0 Z = true) : (Jvm.Cond.methodLink "java/util/Arrays" (150 : Nat) ({ cls := "java/lang/System", name := "arraycopy", desc := "(Ljava/lang/Object;ILjava/lang/Object;II)V" } : Jvm.MethodName)).before a0 Z = true := hw _ (List.mem_of_getElem? (i := 131) rfl)
theorem wd132 {Z : State} {a0 : Array Value} (hw : ∀ d ∈ tables_1, d.before a0 Z = true) : (Jvm.Cond.static ({ cls := "java/lang/System", name := "arraycopy", desc := "(Ljava/lang/Object;ILjava/lang/Object;II)V" } : Jvm.MethodName)).before a0 Z = true := hw _ (List.mem_of_getElem? (i := 132) rfl)
theorem wd133 {Z : State} {a0 : Array Value} (hw : ∀ d ∈ tables_1, d.before a0 Z = true) : (Jvm.Cond.initialized "java/lang/System").before a0 Z = true := hw _ (List.mem_of_getElem? (i := 133) rfl)
theorem wd134 {Z : State} {a0 : Array Value} (hw : ∀ d ∈ tables_1, d.before a0 Z = true) : (Jvm.Cond.native ({ cls := "java/lang/System", name := "arraycopy", desc := "(Ljava/lang/Object;ILjava/lang/Object;II)V" } : Jvm.MethodName)).before a0 Z = true := hw _ (List.mem_of_getElem? (i := 134) rfl)
theorem pd_0 : parseMethodDescriptor "()B" = some ⟨[], some .byte⟩ := by decide +kernel
theorem pd_1 : parseMethodDescriptor "(IILjava/util/function/BiFunction;)I" = some ⟨[.int, .int, (.object "java/util/function/BiFunction")], some .int⟩ := by decide +kernel
theorem pd_2 : parseMethodDescriptor "(II)V" = some ⟨[.int, .int], none⟩ := by decide +kernel
theorem pd_3 : parseMethodDescriptor "()Z" = some ⟨[], some .boolean⟩ := by decide +kernel
theorem pd_4 : parseMethodDescriptor "([BI)C" = some ⟨[(.array .byte), .int], some .char⟩ := by decide +kernel
theorem pd_5 : parseMethodDescriptor "([CI[BII)I" = some ⟨[(.array .char), .int, (.array .byte), .int, .int], some .int⟩ := by decide +kernel
theorem pd_6 : parseMethodDescriptor "([CII)[B" = some ⟨[(.array .char), .int, .int], some (.array .byte)⟩ := by decide +kernel
theorem pd_7 : parseMethodDescriptor "([BI)B" = some ⟨[(.array .byte), .int], some .byte⟩ := by decide +kernel
theorem pd_8 : parseMethodDescriptor "(I)V" = some ⟨[.int], none⟩ := by decide +kernel
theorem pd_9 : parseMethodDescriptor "(II)I" = some ⟨[.int, .int], some .int⟩ := by decide +kernel
theorem pd_10 : parseMethodDescriptor "([II)[I" = some ⟨[(.array .int), .int], some (.array .int)⟩ := by decide +kernel
theorem pd_11 : parseMethodDescriptor "()V" = some ⟨[], none⟩ := by decide +kernel
theorem pd_12 : parseMethodDescriptor "(IIILjava/util/function/BiFunction;)I" = some ⟨[.int, .int, .int, (.object "java/util/function/BiFunction")], some .int⟩ := by decide +kernel
theorem pd_13 : parseMethodDescriptor "(III)I" = some ⟨[.int, .int, .int], some .int⟩ := by decide +kernel
theorem pd_14 : parseMethodDescriptor "([CII)Ljava/lang/Void;" = some ⟨[(.array .char), .int, .int], some (.object "java/lang/Void")⟩ := by decide +kernel
theorem pd_15 : parseMethodDescriptor "([CIILjava/lang/Void;)V" = some ⟨[(.array .char), .int, .int, (.object "java/lang/Void")], none⟩ := by decide +kernel
theorem pd_16 : parseMethodDescriptor "([CII)V" = some ⟨[(.array .char), .int, .int], none⟩ := by decide +kernel
theorem pd_17 : parseMethodDescriptor "(C)V" = some ⟨[.char], none⟩ := by decide +kernel
theorem pd_18 : parseMethodDescriptor "()I" = some ⟨[], some .int⟩ := by decide +kernel
theorem pd_19 : parseMethodDescriptor "(I)Ljava/lang/String;" = some ⟨[.int], some (.object "java/lang/String")⟩ := by decide +kernel
theorem pd_20 : parseMethodDescriptor "(I)C" = some ⟨[.int], some .char⟩ := by decide +kernel
theorem pd_21 : parseMethodDescriptor "(Lcom/example/chunkwise/chunkwise/item/RecordBuilder;)V" = some ⟨[(.object "com/example/chunkwise/chunkwise/item/RecordBuilder")], none⟩ := by decide +kernel
theorem d19_0 : decode jdk_42_method_154_code 0 = .ok (.getstatic 38, 3) := by decide +kernel
theorem d19_3 : decode jdk_42_method_154_code 3 = .ok (.ifCond .eq 14, 3) := by decide +kernel
theorem d19_6 : decode jdk_42_method_154_code 6 = .ok (.aload_n 0, 1) := by decide +kernel
theorem d19_7 : decode jdk_42_method_154_code 7 = .ok (.getfield 15, 3) := by decide +kernel
theorem d19_10 : decode jdk_42_method_154_code 10 = .ok (.ifCond .ne 7, 3) := by decide +kernel
theorem d19_13 : decode jdk_42_method_154_code 13 = .ok (.iconst 1, 1) := by decide +kernel
theorem d19_14 : decode jdk_42_method_154_code 14 = .ok (.goto 4, 3) := by decide +kernel
theorem d19_18 : decode jdk_42_method_154_code 18 = .ok (.ireturn, 1) := by decide +kernel
theorem d17_0 : decode jdk_42_method_152_code 0 = .ok (.getstatic 38, 3) := by decide +kernel
theorem d17_3 : decode jdk_42_method_152_code 3 = .ok (.ifCond .eq 10, 3) := by decide +kernel
theorem d17_6 : decode jdk_42_method_152_code 6 = .ok (.aload_n 0, 1) := by decide +kernel
theorem d17_7 : decode jdk_42_method_152_code 7 = .ok (.getfield 15, 3) := by decide +kernel
theorem d17_10 : decode jdk_42_method_152_code 10 = .ok (.goto 4, 3) := by decide +kernel
theorem d17_14 : decode jdk_42_method_152_code 14 = .ok (.ireturn, 1) := by decide +kernel
theorem d16_0 : decode jdk_42_method_54_code 0 = .ok (.aload_n 0, 1) := by decide +kernel
theorem d16_1 : decode jdk_42_method_54_code 1 = .ok (.getfield 9, 3) := by decide +kernel
theorem d16_4 : decode jdk_42_method_54_code 4 = .ok (.arraylength, 1) := by decide +kernel
theorem d16_5 : decode jdk_42_method_54_code 5 = .ok (.aload_n 0, 1) := by decide +kernel
theorem d16_6 : decode jdk_42_method_54_code 6 = .ok (.invokevirtual 335, 3) := by decide +kernel
theorem d16_9 : decode jdk_42_method_54_code 9 = .ok (.ishr, 1) := by decide +kernel
theorem d16_10 : decode jdk_42_method_54_code 10 = .ok (.ireturn, 1) := by decide +kernel
theorem d23_0 : decode jdk_42_method_55_code 0 = .ok (.aload_n 0, 1) := by decide +kernel
theorem d23_1 : decode jdk_42_method_55_code 1 = .ok (.getfield 9, 3) := by decide +kernel
theorem d23_4 : decode jdk_42_method_55_code 4 = .ok (.arraylength, 1) := by decide +kernel
theorem d23_5 : decode jdk_42_method_55_code 5 = .ok (.ifCond .ne 7, 3) := by decide +kernel
theorem d23_12 : decode jdk_42_method_55_code 12 = .ok (.iconst 0, 1) := by decide +kernel
theorem d23_13 : decode jdk_42_method_55_code 13 = .ok (.ireturn, 1) := by decide +kernel
theorem d23_8 : decode jdk_42_method_55_code 8 = .ok (.iconst 1, 1) := by decide +kernel
theorem d23_9 : decode jdk_42_method_55_code 9 = .ok (.goto 4, 3) := by decide +kernel
theorem d22_0 : decode jdk_41_method_11_code 0 = .ok (.iload_n 0, 1) := by decide +kernel
theorem d22_1 : decode jdk_41_method_11_code 1 = .ok (.ifCond .lt 8, 3) := by decide +kernel
theorem d22_4 : decode jdk_41_method_11_code 4 = .ok (.iload_n 0, 1) := by decide +kernel
theorem d22_5 : decode jdk_41_method_11_code 5 = .ok (.iload_n 1, 1) := by decide +kernel
theorem d22_6 : decode jdk_41_method_11_code 6 = .ok (.if_icmp .lt 10, 3) := by decide +kernel
theorem d22_16 : decode jdk_41_method_11_code 16 = .ok (.iload_n 0, 1) := by decide +kernel
theorem d22_17 : decode jdk_41_method_11_code 17 = .ok (.ireturn, 1) := by decide +kernel
theorem d21_0 : decode jdk_42_method_155_code 0 = .ok (.iload_n 0, 1) := by decide +kernel
theorem d21_1 : decode jdk_42_method_155_code 1 = .ok (.iload_n 1, 1) := by decide +kernel
theorem d21_2 : decode jdk_42_method_155_code 2 = .ok (.getstatic 1053, 3) := by decide +kernel
theorem d21_5 : decode jdk_42_method_155_code 5 = .ok (.invokestatic 1059, 3) := by decide +kernel
theorem d21_8 : decode jdk_42_method_155_code 8 = .ok (.pop, 1) := by decide +kernel
theorem d21_9 : decode jdk_42_method_155_code 9 = .ok (.return_, 1) := by decide +kernel
theorem d20_0 : decode jdk_43_method_2_code 0 = .ok (.iload_n 1, 1) := by decide +kernel
theorem d20_1 : decode jdk_43_method_2_code 1 = .ok (.aload_n 0, 1) := by decide +kernel
theorem d20_2 : decode jdk_43_method_2_code 2 = .ok (.arraylength, 1) := by decide +kernel
theorem d20_3 : decode jdk_43_method_2_code 3 = .ok (.invokestatic 9, 3) := by decide +kernel
theorem d20_6 : decode jdk_43_method_2_code 6 = .ok (.aload_n 0, 1) := by decide +kernel
theorem d20_7 : decode jdk_43_method_2_code 7 = .ok (.iload_n 1, 1) := by decide +kernel
theorem d20_8 : decode jdk_43_method_2_code 8 = .ok (.baload, 1) := by decide +kernel
theorem d20_9 : decode jdk_43_method_2_code 9 = .ok (.sipush 255, 3) := by decide +kernel
theorem d20_12 : decode jdk_43_method_2_code 12 = .ok (.iand, 1) := by decide +kernel
theorem d20_13 : decode jdk_43_method_2_code 13 = .ok (.i2c, 1) := by decide +kernel
theorem d20_14 : decode jdk_43_method_2_code 14 = .ok (.ireturn, 1) := by decide +kernel
theorem d18_0 : decode jdk_42_method_56_code 0 = .ok (.aload_n 0, 1) := by decide +kernel
theorem d18_1 : decode jdk_42_method_56_code 1 = .ok (.invokevirtual 492, 3) := by decide +kernel
theorem d18_4 : decode jdk_42_method_56_code 4 = .ok (.ifCond .eq 12, 3) := by decide +kernel
theorem d18_7 : decode jdk_42_method_56_code 7 = .ok (.aload_n 0, 1) := by decide +kernel
theorem d18_8 : decode jdk_42_method_56_code 8 = .ok (.getfield 9, 3) := by decide +kernel
theorem d18_11 : decode jdk_42_method_56_code 11 = .ok (.iload_n 1, 1) := by decide +kernel
theorem d18_12 : decode jdk_42_method_56_code 12 = .ok (.invokestatic 495, 3) := by decide +kernel
theorem d18_15 : decode jdk_42_method_56_code 15 = .ok (.ireturn, 1) := by decide +kernel
theorem d12_0 : decode jdk_42_method_149_code 0 = .ok (.aload_n 0, 1) := by decide +kernel
theorem d12_1 : decode jdk_42_method_149_code 1 = .ok (.invokespecial 1, 3) := by decide +kernel
theorem d12_4 : decode jdk_42_method_149_code 4 = .ok (.iload_n 3, 1) := by decide +kernel
theorem d12_5 : decode jdk_42_method_149_code 5 = .ok (.ifCond .ne 22, 3) := by decide +kernel
theorem d12_8 : decode jdk_42_method_149_code 8 = .ok (.aload_n 0, 1) := by decide +kernel
theorem d12_9 : decode jdk_42_method_149_code 9 = .ok (.ldc 7, 2) := by decide +kernel
theorem d12_11 : decode jdk_42_method_149_code 11 = .ok (.getfield 9, 3) := by decide +kernel
theorem d12_14 : decode jdk_42_method_149_code 14 = .ok (.putfield 9, 3) := by decide +kernel
theorem d12_17 : decode jdk_42_method_149_code 17 = .ok (.aload_n 0, 1) := by decide +kernel
theorem d12_18 : decode jdk_42_method_149_code 18 = .ok (.ldc 7, 2) := by decide +kernel
theorem d12_20 : decode jdk_42_method_149_code 20 = .ok (.getfield 15, 3) := by decide +kernel
theorem d12_23 : decode jdk_42_method_149_code 23 = .ok (.putfield 15, 3) := by decide +kernel
theorem d12_26 : decode jdk_42_method_149_code 26 = .ok (.return_, 1) := by decide +kernel
theorem d26_0 : decode jdk_29_method_69_code 0 = .ok (.iload_n 0, 1) := by decide +kernel
theorem d26_1 : decode jdk_29_method_69_code 1 = .ok (.iload_n 1, 1) := by decide +kernel
theorem d26_2 : decode jdk_29_method_69_code 2 = .ok (.if_icmp .gt 7, 3) := by decide +kernel
theorem d26_9 : decode jdk_29_method_69_code 9 = .ok (.iload_n 1, 1) := by decide +kernel
theorem d26_10 : decode jdk_29_method_69_code 10 = .ok (.ireturn, 1) := by decide +kernel
theorem d26_5 : decode jdk_29_method_69_code 5 = .ok (.iload_n 0, 1) := by decide +kernel
theorem d26_6 : decode jdk_29_method_69_code 6 = .ok (.goto 4, 3) := by decide +kernel
theorem d14_3 : decode jdk_52_method_21_code 3 = .ok (.iload 5, 2) := by decide +kernel
theorem d14_5 : decode jdk_52_method_21_code 5 = .ok (.iload 4, 2) := by decide +kernel
theorem d14_7 : decode jdk_52_method_21_code 7 = .ok (.if_icmp .ge 37, 3) := by decide +kernel
theorem d14_44 : decode jdk_52_method_21_code 44 = .ok (.iload 4, 2) := by decide +kernel
theorem d14_46 : decode jdk_52_method_21_code 46 = .ok (.ireturn, 1) := by decide +kernel
theorem d14_10 : decode jdk_52_method_21_code 10 = .ok (.aload_n 0, 1) := by decide +kernel
theorem d14_11 : decode jdk_52_method_21_code 11 = .ok (.iload_n 1, 1) := by decide +kernel
theorem d14_12 : decode jdk_52_method_21_code 12 = .ok (.caload, 1) := by decide +kernel
theorem d14_13 : decode jdk_52_method_21_code 13 = .ok (.istore 6, 2) := by decide +kernel
theorem d14_15 : decode jdk_52_method_21_code 15 = .ok (.iload 6, 2) := by decide +kernel
theorem d14_17 : decode jdk_52_method_21_code 17 = .ok (.sipush 255, 3) := by decide +kernel
theorem d14_20 : decode jdk_52_method_21_code 20 = .ok (.if_icmp .le 6, 3) := by decide +kernel
theorem d14_26 : decode jdk_52_method_21_code 26 = .ok (.aload_n 2, 1) := by decide +kernel
theorem d14_27 : decode jdk_52_method_21_code 27 = .ok (.iload_n 3, 1) := by decide +kernel
theorem d14_28 : decode jdk_52_method_21_code 28 = .ok (.iload 6, 2) := by decide +kernel
theorem d14_30 : decode jdk_52_method_21_code 30 = .ok (.i2b, 1) := by decide +kernel
theorem d14_31 : decode jdk_52_method_21_code 31 = .ok (.bastore, 1) := by decide +kernel
theorem d14_32 : decode jdk_52_method_21_code 32 = .ok (.iinc 1 1, 3) := by decide +kernel
theorem d14_35 : decode jdk_52_method_21_code 35 = .ok (.iinc 3 1, 3) := by decide +kernel
theorem d14_38 : decode jdk_52_method_21_code 38 = .ok (.iinc 5 1, 3) := by decide +kernel
theorem d14_41 : decode jdk_52_method_21_code 41 = .ok (.goto (-38), 3) := by decide +kernel
theorem d14_0 : decode jdk_52_method_21_code 0 = .ok (.iconst 0, 1) := by decide +kernel
theorem d14_1 : decode jdk_52_method_21_code 1 = .ok (.istore 5, 2) := by decide +kernel
theorem d13_0 : decode jdk_52_method_16_code 0 = .ok (.iload_n 2, 1) := by decide +kernel
theorem d13_1 : decode jdk_52_method_16_code 1 = .ok (.newarray .byte, 2) := by decide +kernel
theorem d13_3 : decode jdk_52_method_16_code 3 = .ok (.astore_n 3, 1) := by decide +kernel
theorem d13_4 : decode jdk_52_method_16_code 4 = .ok (.aload_n 0, 1) := by decide +kernel
theorem d13_5 : decode jdk_52_method_16_code 5 = .ok (.iload_n 1, 1) := by decide +kernel
theorem d13_6 : decode jdk_52_method_16_code 6 = .ok (.aload_n 3, 1) := by decide +kernel
theorem d13_7 : decode jdk_52_method_16_code 7 = .ok (.iconst 0, 1) := by decide +kernel
theorem d13_8 : decode jdk_52_method_16_code 8 = .ok (.iload_n 2, 1) := by decide +kernel
theorem d13_9 : decode jdk_52_method_16_code 9 = .ok (.invokestatic 115, 3) := by decide +kernel
theorem d13_12 : decode jdk_52_method_16_code 12 = .ok (.istore 4, 2) := by decide +kernel
theorem d13_14 : decode jdk_52_method_16_code 14 = .ok (.iload 4, 2) := by decide +kernel
theorem d13_16 : decode jdk_52_method_16_code 16 = .ok (.iload_n 2, 1) := by decide +kernel
theorem d13_17 : decode jdk_52_method_16_code 17 = .ok (.if_icmp .eq 40, 3) := by decide +kernel
theorem d13_57 : decode jdk_52_method_16_code 57 = .ok (.aload_n 3, 1) := by decide +kernel
theorem d13_58 : decode jdk_52_method_16_code 58 = .ok (.areturn, 1) := by decide +kernel
theorem d15_0 : decode jdk_52_method_15_code 0 = .ok (.iload_n 1, 1) := by decide +kernel
theorem d15_1 : decode jdk_52_method_15_code 1 = .ok (.aload_n 0, 1) := by decide +kernel
theorem d15_2 : decode jdk_52_method_15_code 2 = .ok (.arraylength, 1) := by decide +kernel
theorem d15_3 : decode jdk_52_method_15_code 3 = .ok (.isub, 1) := by decide +kernel
theorem d15_4 : decode jdk_52_method_15_code 4 = .ok (.bipush 31, 2) := by decide +kernel
theorem d15_6 : decode jdk_52_method_15_code 6 = .ok (.iushr, 1) := by decide +kernel
theorem d15_7 : decode jdk_52_method_15_code 7 = .ok (.i2b, 1) := by decide +kernel
theorem d15_8 : decode jdk_52_method_15_code 8 = .ok (.ireturn, 1) := by decide +kernel
theorem d12_27 : decode jdk_42_method_149_code 27 = .ok (.getstatic 38, 3) := by decide +kernel
theorem d12_30 : decode jdk_42_method_149_code 30 = .ok (.ifCond .eq 28, 3) := by decide +kernel
theorem d12_33 : decode jdk_42_method_149_code 33 = .ok (.aload_n 1, 1) := by decide +kernel
theorem d12_34 : decode jdk_42_method_149_code 34 = .ok (.iload_n 2, 1) := by decide +kernel
theorem d12_35 : decode jdk_42_method_149_code 35 = .ok (.iload_n 3, 1) := by decide +kernel
theorem d12_36 : decode jdk_42_method_149_code 36 = .ok (.invokestatic 177, 3) := by decide +kernel
theorem d12_39 : decode jdk_42_method_149_code 39 = .ok (.astore 5, 2) := by decide +kernel
theorem d12_41 : decode jdk_42_method_149_code 41 = .ok (.aload_n 0, 1) := by decide +kernel
theorem d12_42 : decode jdk_42_method_149_code 42 = .ok (.aload 5, 2) := by decide +kernel
theorem d12_44 : decode jdk_42_method_149_code 44 = .ok (.iload_n 3, 1) := by decide +kernel
theorem d12_45 : decode jdk_42_method_149_code 45 = .ok (.invokestatic 47, 3) := by decide +kernel
theorem d12_48 : decode jdk_42_method_149_code 48 = .ok (.putfield 15, 3) := by decide +kernel
theorem d12_51 : decode jdk_42_method_149_code 51 = .ok (.aload_n 0, 1) := by decide +kernel
theorem d12_52 : decode jdk_42_method_149_code 52 = .ok (.aload 5, 2) := by decide +kernel
theorem d12_54 : decode jdk_42_method_149_code 54 = .ok (.putfield 9, 3) := by decide +kernel
theorem d12_57 : decode jdk_42_method_149_code 57 = .ok (.return_, 1) := by decide +kernel
theorem d1_0 : decode prog_61_method_1_code 0 = .ok (.aload_n 0, 1) := by decide +kernel
theorem d1_1 : decode prog_61_method_1_code 1 = .ok (.invokespecial 1, 3) := by decide +kernel
theorem d1_4 : decode prog_61_method_1_code 4 = .ok (.aload_n 0, 1) := by decide +kernel
theorem d1_5 : decode prog_61_method_1_code 5 = .ok (.sipush 256, 3) := by decide +kernel
theorem d1_8 : decode prog_61_method_1_code 8 = .ok (.newarray .char, 2) := by decide +kernel
theorem d1_10 : decode prog_61_method_1_code 10 = .ok (.putfield 7, 3) := by decide +kernel
theorem d1_13 : decode prog_61_method_1_code 13 = .ok (.aload_n 0, 1) := by decide +kernel
theorem d1_14 : decode prog_61_method_1_code 14 = .ok (.bipush 16, 2) := by decide +kernel
theorem d1_16 : decode prog_61_method_1_code 16 = .ok (.newarray .int, 2) := by decide +kernel
theorem d1_18 : decode prog_61_method_1_code 18 = .ok (.putfield 13, 3) := by decide +kernel
theorem d1_21 : decode prog_61_method_1_code 21 = .ok (.return_, 1) := by decide +kernel
theorem d4_0 : decode prog_61_method_9_code 0 = .ok (.aload_n 0, 1) := by decide +kernel
theorem d4_1 : decode prog_61_method_9_code 1 = .ok (.getfield 17, 3) := by decide +kernel
theorem d4_4 : decode prog_61_method_9_code 4 = .ok (.iload_n 1, 1) := by decide +kernel
theorem d4_5 : decode prog_61_method_9_code 5 = .ok (.iadd, 1) := by decide +kernel
theorem d4_6 : decode prog_61_method_9_code 6 = .ok (.aload_n 0, 1) := by decide +kernel
theorem d4_7 : decode prog_61_method_9_code 7 = .ok (.getfield 7, 3) := by decide +kernel
theorem d4_10 : decode prog_61_method_9_code 10 = .ok (.arraylength, 1) := by decide +kernel
theorem d4_11 : decode prog_61_method_9_code 11 = .ok (.if_icmp .le 30, 3) := by decide +kernel
theorem d4_41 : decode prog_61_method_9_code 41 = .ok (.return_, 1) := by decide +kernel
theorem d3_0 : decode prog_61_method_4_code 0 = .ok (.aload_n 0, 1) := by decide +kernel
theorem d3_1 : decode prog_61_method_4_code 1 = .ok (.iconst 1, 1) := by decide +kernel
theorem d3_2 : decode prog_61_method_4_code 2 = .ok (.invokevirtual 24, 3) := by decide +kernel
theorem d3_5 : decode prog_61_method_4_code 5 = .ok (.aload_n 0, 1) := by decide +kernel
theorem d3_6 : decode prog_61_method_4_code 6 = .ok (.getfield 7, 3) := by decide +kernel
theorem d3_9 : decode prog_61_method_4_code 9 = .ok (.aload_n 0, 1) := by decide +kernel
theorem d3_10 : decode prog_61_method_4_code 10 = .ok (.dup, 1) := by decide +kernel
theorem d3_11 : decode prog_61_method_4_code 11 = .ok (.getfield 17, 3) := by decide +kernel
theorem d3_14 : decode prog_61_method_4_code 14 = .ok (.dup_x1, 1) := by decide +kernel
theorem d3_15 : decode prog_61_method_4_code 15 = .ok (.iconst 1, 1) := by decide +kernel
theorem d3_16 : decode prog_61_method_4_code 16 = .ok (.iadd, 1) := by decide +kernel
theorem d3_17 : decode prog_61_method_4_code 17 = .ok (.putfield 17, 3) := by decide +kernel
theorem d3_20 : decode prog_61_method_4_code 20 = .ok (.iload_n 1, 1) := by decide +kernel
theorem d3_21 : decode prog_61_method_4_code 21 = .ok (.castore, 1) := by decide +kernel
theorem d3_22 : decode prog_61_method_4_code 22 = .ok (.return_, 1) := by decide +kernel
theorem d5_0 : decode prog_61_method_5_code 0 = .ok (.aload_n 0, 1) := by decide +kernel
theorem d5_1 : decode prog_61_method_5_code 1 = .ok (.getfield 21, 3) := by decide +kernel
theorem d5_4 : decode prog_61_method_5_code 4 = .ok (.aload_n 0, 1) := by decide +kernel
theorem d5_5 : decode prog_61_method_5_code 5 = .ok (.getfield 13, 3) := by decide +kernel
theorem d5_8 : decode prog_61_method_5_code 8 = .ok (.arraylength, 1) := by decide +kernel
theorem d5_9 : decode prog_61_method_5_code 9 = .ok (.if_icmp .ne 20, 3) := by decide +kernel
theorem d5_29 : decode prog_61_method_5_code 29 = .ok (.aload_n 0, 1) := by decide +kernel
theorem d5_30 : decode prog_61_method_5_code 30 = .ok (.getfield 13, 3) := by decide +kernel
theorem d5_33 : decode prog_61_method_5_code 33 = .ok (.aload_n 0, 1) := by decide +kernel
theorem d5_34 : decode prog_61_method_5_code 34 = .ok (.dup, 1) := by decide +kernel
theorem d5_35 : decode prog_61_method_5_code 35 = .ok (.getfield 21, 3) := by decide +kernel
theorem d5_38 : decode prog_61_method_5_code 38 = .ok (.dup_x1, 1) := by decide +kernel
theorem d5_39 : decode prog_61_method_5_code 39 = .ok (.iconst 1, 1) := by decide +kernel
theorem d5_40 : decode prog_61_method_5_code 40 = .ok (.iadd, 1) := by decide +kernel
theorem d5_41 : decode prog_61_method_5_code 41 = .ok (.putfield 21, 3) := by decide +kernel
theorem d5_44 : decode prog_61_method_5_code 44 = .ok (.aload_n 0, 1) := by decide +kernel
theorem d5_45 : decode prog_61_method_5_code 45 = .ok (.getfield 17, 3) := by decide +kernel
theorem d5_48 : decode prog_61_method_5_code 48 = .ok (.iastore, 1) := by decide +kernel
theorem d5_49 : decode prog_61_method_5_code 49 = .ok (.return_, 1) := by decide +kernel
theorem d25_0 : decode jdk_65_method_123_code 0 = .ok (.iload_n 1, 1) := by decide +kernel
theorem d25_1 : decode jdk_65_method_123_code 1 = .ok (.aload_n 0, 1) := by decide +kernel
theorem d25_2 : decode jdk_65_method_123_code 2 = .ok (.arraylength, 1) := by decide +kernel
theorem d25_3 : decode jdk_65_method_123_code 3 = .ok (.if_icmp .ne 11, 3) := by decide +kernel
theorem d25_14 : decode jdk_65_method_123_code 14 = .ok (.iload_n 1, 1) := by decide +kernel
theorem d25_15 : decode jdk_65_method_123_code 15 = .ok (.newarray .int, 2) := by decide +kernel
theorem d25_17 : decode jdk_65_method_123_code 17 = .ok (.astore_n 2, 1) := by decide +kernel
theorem d25_18 : decode jdk_65_method_123_code 18 = .ok (.aload_n 0, 1) := by decide +kernel
theorem d25_19 : decode jdk_65_method_123_code 19 = .ok (.iconst 0, 1) := by decide +kernel
theorem d25_20 : decode jdk_65_method_123_code 20 = .ok (.aload_n 2, 1) := by decide +kernel
theorem d25_21 : decode jdk_65_method_123_code 21 = .ok (.iconst 0, 1) := by decide +kernel
theorem d25_22 : decode jdk_65_method_123_code 22 = .ok (.aload_n 0, 1) := by decide +kernel
theorem d25_23 : decode jdk_65_method_123_code 23 = .ok (.arraylength, 1) := by decide +kernel
theorem d25_24 : decode jdk_65_method_123_code 24 = .ok (.iload_n 1, 1) := by decide +kernel
theorem d25_25 : decode jdk_65_method_123_code 25 = .ok (.invokestatic 304, 3) := by decide +kernel
theorem d25_28 : decode jdk_65_method_123_code 28 = .ok (.invokestatic 150, 3) := by decide +kernel
theorem d25_31 : decode jdk_65_method_123_code 31 = .ok (.aload_n 2, 1) := by decide +kernel
theorem d25_32 : decode jdk_65_method_123_code 32 = .ok (.areturn, 1) := by decide +kernel
theorem d5_12 : decode prog_61_method_5_code 12 = .ok (.aload_n 0, 1) := by decide +kernel
theorem d5_13 : decode prog_61_method_5_code 13 = .ok (.aload_n 0, 1) := by decide +kernel
theorem d5_14 : decode prog_61_method_5_code 14 = .ok (.getfield 13, 3) := by decide +kernel
theorem d5_17 : decode prog_61_method_5_code 17 = .ok (.iconst 2, 1) := by decide +kernel
theorem d5_18 : decode prog_61_method_5_code 18 = .ok (.aload_n 0, 1) := by decide +kernel
theorem d5_19 : decode prog_61_method_5_code 19 = .ok (.getfield 21, 3) := by decide +kernel
theorem d5_22 : decode prog_61_method_5_code 22 = .ok (.imul, 1) := by decide +kernel
theorem d5_23 : decode prog_61_method_5_code 23 = .ok (.invokestatic 34, 3) := by decide +kernel
theorem d5_26 : decode prog_61_method_5_code 26 = .ok (.putfield 13, 3) := by decide +kernel
theorem d24_0 : decode method_3_code 0 = .ok (.aload_n 0, 1) := by decide +kernel
theorem d24_1 : decode method_3_code 1 = .ok (.invokevirtual 14, 3) := by decide +kernel
theorem d24_4 : decode method_3_code 4 = .ok (.aload_n 0, 1) := by decide +kernel
theorem d24_5 : decode method_3_code 5 = .ok (.invokevirtual 14, 3) := by decide +kernel
theorem d24_8 : decode method_3_code 8 = .ok (.aload_n 0, 1) := by decide +kernel
theorem d24_9 : decode method_3_code 9 = .ok (.invokevirtual 14, 3) := by decide +kernel
theorem d24_12 : decode method_3_code 12 = .ok (.aload_n 0, 1) := by decide +kernel
theorem d24_13 : decode method_3_code 13 = .ok (.invokevirtual 14, 3) := by decide +kernel
theorem d24_16 : decode method_3_code 16 = .ok (.return_, 1) := by decide +kernel
theorem d6_0 : decode prog_61_method_6_code 0 = .ok (.aload_n 0, 1) := by decide +kernel
theorem d6_1 : decode prog_61_method_6_code 1 = .ok (.getfield 21, 3) := by decide +kernel
theorem d6_4 : decode prog_61_method_6_code 4 = .ok (.ireturn, 1) := by decide +kernel
theorem d11_0 : decode jdk_41_method_13_code 0 = .ok (.iload_n 2, 1) := by decide +kernel
theorem d11_1 : decode jdk_41_method_13_code 1 = .ok (.iload_n 0, 1) := by decide +kernel
theorem d11_2 : decode jdk_41_method_13_code 2 = .ok (.ior, 1) := by decide +kernel
theorem d11_3 : decode jdk_41_method_13_code 3 = .ok (.iload_n 1, 1) := by decide +kernel
theorem d11_4 : decode jdk_41_method_13_code 4 = .ok (.ior, 1) := by decide +kernel
theorem d11_5 : decode jdk_41_method_13_code 5 = .ok (.ifCond .lt 10, 3) := by decide +kernel
theorem d11_8 : decode jdk_41_method_13_code 8 = .ok (.iload_n 1, 1) := by decide +kernel
theorem d11_9 : decode jdk_41_method_13_code 9 = .ok (.iload_n 2, 1) := by decide +kernel
theorem d11_10 : decode jdk_41_method_13_code 10 = .ok (.iload_n 0, 1) := by decide +kernel
theorem d11_11 : decode jdk_41_method_13_code 11 = .ok (.isub, 1) := by decide +kernel
theorem d11_12 : decode jdk_41_method_13_code 12 = .ok (.if_icmp .le 11, 3) := by decide +kernel
theorem d11_23 : decode jdk_41_method_13_code 23 = .ok (.iload_n 0, 1) := by decide +kernel
theorem d11_24 : decode jdk_41_method_13_code 24 = .ok (.ireturn, 1) := by decide +kernel
theorem d10_0 : decode jdk_42_method_157_code 0 = .ok (.iload_n 0, 1) := by decide +kernel
theorem d10_1 : decode jdk_42_method_157_code 1 = .ok (.iload_n 1, 1) := by decide +kernel
theorem d10_2 : decode jdk_42_method_157_code 2 = .ok (.iload_n 2, 1) := by decide +kernel
theorem d10_3 : decode jdk_42_method_157_code 3 = .ok (.getstatic 1053, 3) := by decide +kernel
theorem d10_6 : decode jdk_42_method_157_code 6 = .ok (.invokestatic 1065, 3) := by decide +kernel
theorem d10_9 : decode jdk_42_method_157_code 9 = .ok (.ireturn, 1) := by decide +kernel
theorem d9_0 : decode jdk_42_method_5_code 0 = .ok (.iload_n 1, 1) := by decide +kernel
theorem d9_1 : decode jdk_42_method_5_code 1 = .ok (.iload_n 2, 1) := by decide +kernel
theorem d9_2 : decode jdk_42_method_5_code 2 = .ok (.aload_n 0, 1) := by decide +kernel
theorem d9_3 : decode jdk_42_method_5_code 3 = .ok (.arraylength, 1) := by decide +kernel
theorem d9_4 : decode jdk_42_method_5_code 4 = .ok (.invokestatic 34, 3) := by decide +kernel
theorem d9_7 : decode jdk_42_method_5_code 7 = .ok (.pop, 1) := by decide +kernel
theorem d9_8 : decode jdk_42_method_5_code 8 = .ok (.aconst_null, 1) := by decide +kernel
theorem d9_9 : decode jdk_42_method_5_code 9 = .ok (.areturn, 1) := by decide +kernel
theorem d8_0 : decode jdk_42_method_4_code 0 = .ok (.aload_n 0, 1) := by decide +kernel
theorem d8_1 : decode jdk_42_method_4_code 1 = .ok (.aload_n 1, 1) := by decide +kernel
theorem d8_2 : decode jdk_42_method_4_code 2 = .ok (.iload_n 2, 1) := by decide +kernel
theorem d8_3 : decode jdk_42_method_4_code 3 = .ok (.iload_n 3, 1) := by decide +kernel
theorem d8_4 : decode jdk_42_method_4_code 4 = .ok (.aload_n 1, 1) := by decide +kernel
theorem d8_5 : decode jdk_42_method_4_code 5 = .ok (.iload_n 2, 1) := by decide +kernel
theorem d8_6 : decode jdk_42_method_4_code 6 = .ok (.iload_n 3, 1) := by decide +kernel
theorem d8_7 : decode jdk_42_method_4_code 7 = .ok (.invokestatic 30, 3) := by decide +kernel
theorem d8_10 : decode jdk_42_method_4_code 10 = .ok (.invokespecial 27, 3) := by decide +kernel
theorem d8_13 : decode jdk_42_method_4_code 13 = .ok (.return_, 1) := by decide +kernel
theorem d7_0 : decode prog_61_method_7_code 0 = .ok (.iload_n 1, 1) := by decide +kernel
theorem d7_16 : decode prog_61_method_7_code 16 = .ok (.istore_n 2, 1) := by decide +kernel
theorem d7_17 : decode prog_61_method_7_code 17 = .ok (.new 40, 3) := by decide +kernel
theorem d7_20 : decode prog_61_method_7_code 20 = .ok (.dup, 1) := by decide +kernel
theorem d7_21 : decode prog_61_method_7_code 21 = .ok (.aload_n 0, 1) := by decide +kernel
theorem d7_22 : decode prog_61_method_7_code 22 = .ok (.getfield 7, 3) := by decide +kernel
theorem d7_25 : decode prog_61_method_7_code 25 = .ok (.iload_n 2, 1) := by decide +kernel
theorem d7_26 : decode prog_61_method_7_code 26 = .ok (.aload_n 0, 1) := by decide +kernel
theorem d7_27 : decode prog_61_method_7_code 27 = .ok (.getfield 13, 3) := by decide +kernel
theorem d7_30 : decode prog_61_method_7_code 30 = .ok (.iload_n 1, 1) := by decide +kernel
theorem d7_31 : decode prog_61_method_7_code 31 = .ok (.iaload, 1) := by decide +kernel
theorem d7_32 : decode prog_61_method_7_code 32 = .ok (.iload_n 2, 1) := by decide +kernel
theorem d7_33 : decode prog_61_method_7_code 33 = .ok (.isub, 1) := by decide +kernel
theorem d7_34 : decode prog_61_method_7_code 34 = .ok (.invokespecial 42, 3) := by decide +kernel
theorem d7_37 : decode prog_61_method_7_code 37 = .ok (.areturn, 1) := by decide +kernel
theorem d7_1 : decode prog_61_method_7_code 1 = .ok (.ifCond .ne 7, 3) := by decide +kernel
theorem d7_8 : decode prog_61_method_7_code 8 = .ok (.aload_n 0, 1) := by decide +kernel
theorem d7_9 : decode prog_61_method_7_code 9 = .ok (.getfield 13, 3) := by decide +kernel
theorem d7_12 : decode prog_61_method_7_code 12 = .ok (.iload_n 1, 1) := by decide +kernel
theorem d7_13 : decode prog_61_method_7_code 13 = .ok (.iconst 1, 1) := by decide +kernel
theorem d7_14 : decode prog_61_method_7_code 14 = .ok (.isub, 1) := by decide +kernel
theorem d7_15 : decode prog_61_method_7_code 15 = .ok (.iaload, 1) := by decide +kernel
theorem d7_4 : decode prog_61_method_7_code 4 = .ok (.iconst 0, 1) := by decide +kernel
theorem d7_5 : decode prog_61_method_7_code 5 = .ok (.goto 11, 3) := by decide +kernel
theorem strAtoms {Z : State} {a0 : Array Value} (hw : ∀ d ∈ tables_1, d.before a0 Z = true) : ∀ a ∈ Bundle.stringAtoms, a.before a0 Z = true := fun d hd => hw d ((by decide +kernel : ∀ d ∈ Bundle.stringAtoms, d ∈ tables_1) d hd)
theorem and255_chars (x : Int32) : ¬ nar .char ((x &&& (255 : Int32)).toUInt32.toUInt16.toUInt32.toInt32) < 0 ∧ ¬ (255 : Int32) < nar .char ((x &&& (255 : Int32)).toUInt32.toUInt16.toUInt32.toInt32) := by
  have t : ∀ k : Fin 256, ¬ nar .char ((Int32.ofNat k.val).toUInt32.toUInt16.toUInt32.toInt32) < 0 ∧ ¬ (255 : Int32) < nar .char ((Int32.ofNat k.val).toUInt32.toUInt16.toUInt32.toInt32) := by decide +kernel
  have h : (x &&& 255).toBitVec.toNat < 256 := by
    simp only [Int32.toBitVec_and, BitVec.toNat_and]
    exact Nat.lt_succ_of_le Nat.and_le_right
  have e : (x &&& 255) = Int32.ofNat (x &&& 255).toBitVec.toNat := by
    apply Int32.toBitVec_inj.mp
    show _ = BitVec.ofNat 32 _
    rw [BitVec.ofNat_toNat]; simp
  rw [e]
  exact t ⟨_, h⟩
set_option maxRecDepth 65536 in
set_option maxHeartbeats 40000000 in
theorem ok_lat {l : Launch} {Z : State} {a0 : Array Value} (hw : ∀ d ∈ tables_1, d.before a0 Z = true) {n0 : Nat} (a : Addr) {zC : Int32} {h0 : Heap} (SC : Sta Z Z.heap "java/lang/String" "COMPACT_STRINGS" "Z" (.int zC)) (nC : ¬ zC = 0) (C : Fld Z h0 a "java/lang/String" "coder" "B" (.int 0)) :
    Ok false l Z [] n0 [] (⟨"java/lang/String", "isLatin1", "()Z"⟩ : MethodName) jdk_42_method_154_code 1 (Option.some Jvm.ClassFile.FieldType.boolean) ({ frames := 0, cells := 0, slots := 0, locals := 0 } : Room) #[(.ref a)] h0 (fun v h => v = some (.int 1) ∧ h = h0) (fun _ => []) := by
  refine Ok.of_run (ls0 := #[.val (.ref a)]) (plainFor_of_name (by first | (simp [plainName, overriddenIn]; done) | decide +kernel)) (fun m => by first | (simp [entryFrame, mkF, argsToLocals, Value.category]; done) | rfl) rfl ?_
  refine Run.old fun hO => ?_
  have hn0 : n0 ≤ h0.size := hO.1 ▸ hO.2.1
  refine r_getstatic (host := "") d19_0 rfl (Or.inl (wd65 hw)) Via.refl SC ?_
  refine r_ifeq (pc2 := 17) d19_3 rfl rfl (fun cc => absurd cc nC) (fun _ => ?_)
  refine r_aloadN d19_6 rfl rfl rfl ?_
  refine r_getfield (host := "") d19_7 rfl (Or.inl (wd77 hw)) Via.refl C ?_
  refine r_ifne (pc2 := 17) d19_10 rfl rfl (fun cc => absurd rfl cc) (fun _ => ?_)
  refine r_iconst (v := 1) d19_13 rfl rfl ?_
  refine r_goto (pc' := 18) d19_14 rfl ?_
  exact r_ireturnN (t := .boolean) d19_18 rfl (by simp) ⟨rfl, rfl⟩ (by simp) (by decide) (by decide)
theorem lat_ofNat {c : Int32} (h : ¬ c < 0 ∧ ¬ (255 : Int32) < c) : ∃ k : Fin 256, c = Int32.ofNat k.val := by
  have e0 : (0 : Int32).toInt = 0 := rfl
  have e1 : (255 : Int32).toInt = 255 := rfl
  simp only [Int32.lt_iff_toInt_lt, e0, e1] at h
  refine ⟨⟨c.toInt.toNat, by omega⟩, Int32.toInt_inj.mp ?_⟩
  rw [Int32.toInt_ofNat_of_lt (by show c.toInt.toNat < _; omega)]
  show _ = ((c.toInt.toNat : Nat) : Int)
  omega
theorem lat_byte {c : Int32} (h : ¬ c < 0 ∧ ¬ (255 : Int32) < c) : (c.toInt8.toInt32 &&& (255 : Int32)).toUInt32.toUInt16.toUInt32.toInt32 = c := by
  obtain ⟨k, rfl⟩ := lat_ofNat h
  exact (by decide +kernel : ∀ k : Fin 256, ((Int32.ofNat k.val).toInt8.toInt32 &&& (255 : Int32)).toUInt32.toUInt16.toUInt32.toInt32 = Int32.ofNat k.val) k
theorem lat_char {c : Int32} (h : ¬ c < 0 ∧ ¬ (255 : Int32) < c) : nar .char c = c := by
  obtain ⟨k, rfl⟩ := lat_ofNat h
  exact (by decide +kernel : ∀ k : Fin 256, nar .char (Int32.ofNat k.val) = Int32.ofNat k.val) k
theorem shr0 (x : Int32) : x >>> ((0 : Int32) &&& 31) = x := by
  apply Int32.toBitVec_inj.mp
  show BitVec.sshiftRight _ _ = _
  simp
theorem bytes_at (cs : List Int32) (i : Nat) : (bv cs).getD i (.int 0) = .int (cs.getD i 0).toInt8.toInt32 := by
  simp only [bv, List.getD_eq_getElem?_getD, List.getElem?_map]
  cases cs[i]? <;> rfl
set_option maxRecDepth 65536 in
set_option maxHeartbeats 40000000 in
theorem ok_coder {l : Launch} {Z : State} {a0 : Array Value} (hw : ∀ d ∈ tables_1, d.before a0 Z = true) {n0 : Nat} (a : Addr) {zC : Int32} {h0 : Heap} (SC : Sta Z Z.heap "java/lang/String" "COMPACT_STRINGS" "Z" (.int zC)) (nC : ¬ zC = 0) (C : Fld Z h0 a "java/lang/String" "coder" "B" (.int 0)) :
    Ok false l Z [] n0 [] (⟨"java/lang/String", "coder", "()B"⟩ : MethodName) jdk_42_method_152_code 1 (Option.some Jvm.ClassFile.FieldType.byte) ({ frames := 0, cells := 0, slots := 0, locals := 0 } : Room) #[(.ref a)] h0 (fun v h => v = some (.int 0) ∧ h = h0) (fun _ => []) := by
  refine Ok.of_run (ls0 := #[.val (.ref a)]) (plainFor_of_name (by first | (simp [plainName, overriddenIn]; done) | decide +kernel)) (fun m => by first | (simp [entryFrame, mkF, argsToLocals, Value.category]; done) | rfl) rfl ?_
  refine Run.old fun hO => ?_
  have hn0 : n0 ≤ h0.size := hO.1 ▸ hO.2.1
  refine r_getstatic (host := "") d17_0 rfl (Or.inl (wd65 hw)) Via.refl SC ?_
  refine r_ifeq (pc2 := 13) d17_3 rfl rfl (fun cc => absurd cc nC) (fun _ => ?_)
  refine r_aloadN d17_6 rfl rfl rfl ?_
  refine r_getfield (host := "") d17_7 rfl (Or.inl (wd77 hw)) Via.refl C ?_
  refine r_goto (pc' := 14) d17_10 rfl ?_
  exact r_ireturnN (t := .byte) d17_14 rfl (by simp) ⟨rfl, rfl⟩ (by simp) (by decide) (by decide)
set_option maxRecDepth 65536 in
set_option maxHeartbeats 40000000 in
theorem ok_slen {l : Launch} {Z : State} {a0 : Array Value} (hw : ∀ d ∈ tables_1, d.before a0 Z = true) {n0 : Nat} (a t : Addr) {cs : List Int32} (hp : Lat cs) (hl : cs.length ≤ 4000) {zC : Int32} {h0 : Heap} (SC : Sta Z Z.heap "java/lang/String" "COMPACT_STRINGS" "Z" (.int zC)) (nC : ¬ zC = 0) (F : Str Z h0 a t cs) :
    Ok false l Z [] n0 [] (⟨"java/lang/String", "length", "()I"⟩ : MethodName) jdk_42_method_54_code 1 (Option.some Jvm.ClassFile.FieldType.int) ({ frames := 1, cells := 0, slots := 0, locals := 13 } : Room) #[(.ref a)] h0 (fun v h => v = some (.int (Int32.ofNat cs.length)) ∧ h = h0) (fun _ => []) := by
  refine Ok.of_run (ls0 := #[.val (.ref a)]) (plainFor_of_name (by first | (simp [plainName, overriddenIn]; done) | decide +kernel)) (fun m => by first | (simp [entryFrame, mkF, argsToLocals, Value.category]; done) | rfl) rfl ?_
  refine Run.old fun hO => ?_
  have hn0 : n0 ≤ h0.size := hO.1 ▸ hO.2.1
  obtain ⟨kb, f4⟩ := F.arv
  have lt_1 : @LT.lt Nat instLTNat a (Array.size h0) := (Str.lt F)
  have lt_2 : @LT.lt Nat instLTNat t (Array.size h0) := (Str.ltB F)
  refine r_aloadN d16_0 rfl rfl rfl ?_
  refine r_getfield (host := "") d16_1 rfl (Or.inl (wd79 hw)) Via.refl (Str.value F) ?_
  refine r_arraylength d16_4 rfl f4 ?_
  refine r_aloadN d16_5 rfl rfl rfl ?_
  refine r_virtual (y := (⟨"java/lang/String", "coder", "()B"⟩ : MethodName)) (argsL := []) (rest := [(.int (Int32.ofNat cs.length))]) (W := 1) (kc := 0) (ks := 0) (wl := []) d16_6 rfl (wd86 hw) (wd87 hw) (wd89 hw) (wd88 hw) (by decide) ⟨rfl, rfl⟩ (Str.exa F) (lenOf pd_0 rfl) rfl rfl (Nat.le_of_ble_eq_true rfl) (Ok.pays (ok_coder hw a SC nC F.coder) (wd90 hw) (wd45 hw) (by decide) (by decide)) (fun v h' q => q.2 ▸ Keep.refl _ _) all0 (by decide) (by decide) ?_
  rintro _ h_3 ⟨rfl, eqh⟩
  subst h_3
  refine Run.cast (st' := [(.int (0 : Int32)), (.int (Int32.ofNat cs.length))]) rfl ?_
  refine r_ishr d16_9 rfl ?_
  rw [show ((Int32.ofNat cs.length) >>> ((0 : Int32) &&& 31)) = (Int32.ofNat cs.length) from (shr0 _)]
  exact r_ireturn d16_10 rfl ⟨rfl, rfl⟩ (by simp) (by decide) (by decide)
set_option maxRecDepth 65536 in
set_option maxHeartbeats 40000000 in
theorem ok_semp {l : Launch} {Z : State} {a0 : Array Value} (hw : ∀ d ∈ tables_1, d.before a0 Z = true) {n0 : Nat} (a t : Addr) {cs : List Int32} (hp : Lat cs) (hl : cs.length ≤ 4000) {h0 : Heap} (F : Str Z h0 a t cs) :
    Ok false l Z [] n0 [] (⟨"java/lang/String", "isEmpty", "()Z"⟩ : MethodName) jdk_42_method_55_code 1 (Option.some Jvm.ClassFile.FieldType.boolean) ({ frames := 0, cells := 0, slots := 0, locals := 0 } : Room) #[(.ref a)] h0 (fun v h => v = some (.int (if cs.length = 0 then 1 else 0)) ∧ h = h0) (fun _ => []) := by
  refine Ok.of_run (ls0 := #[.val (.ref a)]) (plainFor_of_name (by first | (simp [plainName, overriddenIn]; done) | decide +kernel)) (fun m => by first | (simp [entryFrame, mkF, argsToLocals, Value.category]; done) | rfl) rfl ?_
  refine Run.old fun hO => ?_
  have hn0 : n0 ≤ h0.size := hO.1 ▸ hO.2.1
  obtain ⟨kb, f4⟩ := F.arv
  have lt_1 : @LT.lt Nat instLTNat a (Array.size h0) := (Str.lt F)
  have lt_2 : @LT.lt Nat instLTNat t (Array.size h0) := (Str.ltB F)
  refine r_aloadN d23_0 rfl rfl rfl ?_
  refine r_getfield (host := "") d23_1 rfl (Or.inl (wd79 hw)) Via.refl (Str.value F) ?_
  refine r_arraylength d23_4 rfl f4 ?_
  refine r_ifne (pc2 := 12) d23_5 rfl rfl (fun c_3 => ?_) (fun c_3 => ?_)
  · refine r_iconst (v := 0) d23_12 rfl rfl ?_
    exact r_ireturnN (t := .boolean) d23_13 rfl (by simp) ⟨by rw [if_neg (fun z => c_3 (by rw [z]; rfl))]; rfl, rfl⟩ (by simp) (by decide) (by decide)
  · refine r_iconst (v := 1) d23_8 rfl rfl ?_
    refine r_goto (pc' := 13) d23_9 rfl ?_
    exact r_ireturnN (t := .boolean) d23_13 rfl (by simp) ⟨by rw [if_pos (ofNat_inj' (j := 0) (by omega) (by omega) c_3)]; rfl, rfl⟩ (by simp) (by decide) (by decide)
set_option maxRecDepth 65536 in
set_option maxHeartbeats 40000000 in
theorem ok_pci {l : Launch} {Z : State} {a0 : Array Value} (hw : ∀ d ∈ tables_1, d.before a0 Z = true) {n0 : Nat} (i n : Nat) (hi : i < n) (hn : n ≤ 4000) {vF : Value} {h0 : Heap} (rF : vF.isRef = true) :
    Ok false l Z [] n0 [] (⟨"jdk/internal/util/Preconditions", "checkIndex", "(IILjava/util/function/BiFunction;)I"⟩ : MethodName) jdk_41_method_11_code 3 (Option.some Jvm.ClassFile.FieldType.int) ({ frames := 0, cells := 0, slots := 0, locals := 0 } : Room) #[(.int (Int32.ofNat i)), (.int (Int32.ofNat n)), vF] h0 (fun v h => v = some (.int (Int32.ofNat i)) ∧ h = h0) (fun _ => []) := by
  refine Ok.of_run (ls0 := #[.val (.int (Int32.ofNat i)), .val (.int (Int32.ofNat n)), .val vF]) (plainFor_of_name (by first | (simp [plainName, overriddenIn]; done) | decide +kernel)) (fun m => by rcases ref_cases rF with rfl | ⟨q, rfl⟩ <;> first | (simp [entryFrame, mkF, argsToLocals, Value.category]; done) | rfl) rfl ?_
  refine Run.old fun hO => ?_
  have hn0 : n0 ≤ h0.size := hO.1 ▸ hO.2.1
  refine r_iloadN d22_0 rfl rfl ?_
  refine r_iflt (pc2 := 9) d22_1 rfl rfl (fun cc => absurd cc (ofNat_in hi (by omega)).1) (fun _ => ?_)
  refine r_iloadN d22_4 rfl rfl ?_
  refine r_iloadN d22_5 rfl rfl ?_
  refine r_icmplt (pc2 := 16) d22_6 rfl rfl (fun _ => ?_) (fun cc => absurd (ofNat_in hi (by omega)).2 cc)
  refine r_iloadN d22_16 rfl rfl ?_
  exact r_ireturn d22_17 rfl ⟨rfl, rfl⟩ (by simp) (by decide) (by decide)
set_option maxRecDepth 65536 in
set_option maxHeartbeats 40000000 in
theorem ok_sci {l : Launch} {Z : State} {a0 : Array Value} (hw : ∀ d ∈ tables_1, d.before a0 Z = true) {n0 : Nat} (i n : Nat) (hi : i < n) (hn : n ≤ 4000) {vF : Value} {h0 : Heap} (SF : Sta Z Z.heap "jdk/internal/util/Preconditions" "SIOOBE_FORMATTER" "Ljava/util/function/BiFunction;" vF) (rF : vF.isRef = true) :
    Ok false l Z [] n0 [] (⟨"java/lang/String", "checkIndex", "(II)V"⟩ : MethodName) jdk_42_method_155_code 2 (Option.none : Option Jvm.ClassFile.FieldType) ({ frames := 1, cells := 0, slots := 0, locals := 14 } : Room) #[(.int (Int32.ofNat i)), (.int (Int32.ofNat n))] h0 (fun v h => v = none ∧ h = h0) (fun _ => []) := by
  refine Ok.of_run (ls0 := #[.val (.int (Int32.ofNat i)), .val (.int (Int32.ofNat n))]) (plainFor_of_name (by first | (simp [plainName, overriddenIn]; done) | decide +kernel)) (fun m => by first | (simp [entryFrame, mkF, argsToLocals, Value.category]; done) | rfl) rfl ?_
  refine Run.old fun hO => ?_
  have hn0 : n0 ≤ h0.size := hO.1 ▸ hO.2.1
  refine r_iloadN d21_0 rfl rfl ?_
  refine r_iloadN d21_1 rfl rfl ?_
  refine r_getstatic (host := "") d21_2 rfl (Or.inl (wd55 hw)) Via.refl SF ?_
  refine r_static (y := (⟨"jdk/internal/util/Preconditions", "checkIndex", "(IILjava/util/function/BiFunction;)I"⟩ : MethodName)) (argsL := [(.int (Int32.ofNat i)), (.int (Int32.ofNat n)), vF]) (rest := []) (W := 0) (kc := 0) (ks := 0) (wl := []) d21_5 rfl (wd108 hw) (wd109 hw) (wd56 hw) (wd110 hw) (by decide) (lenOf pd_1 rfl) rfl rfl (Nat.le_of_ble_eq_true rfl) (Ok.pays (ok_pci hw i n hi hn rF) (wd110 hw) (wd56 hw) (by decide) (by decide)) (fun v h' q => q.2 ▸ Keep.refl _ _) all0 (by decide) (by decide) ?_
  rintro _ h_1 ⟨rfl, eqh⟩
  subst h_1
  refine Run.cast (st' := [(.int (Int32.ofNat i))]) rfl ?_
  refine r_pop d21_8 rfl rfl ?_
  exact r_return d21_9 rfl ⟨rfl, rfl⟩ (by simp) (by decide) (by decide)
set_option maxRecDepth 65536 in
set_option maxHeartbeats 40000000 in
theorem ok_slc {l : Launch} {Z : State} {a0 : Array Value} (hw : ∀ d ∈ tables_1, d.before a0 Z = true) {n0 : Nat} (t : Addr) {kb : ClassId} {cs : List Int32} (i : Nat) (hi : i < cs.length) (hp : Lat cs) (hl : cs.length ≤ 4000) {vF : Value} {h0 : Heap} (SF : Sta Z Z.heap "jdk/internal/util/Preconditions" "SIOOBE_FORMATTER" "Ljava/util/function/BiFunction;" vF) (rF : vF.isRef = true) (K : Arv Z h0 t kb .byte (Int32.ofNat cs.length) (bv cs) (.int 0)) :
    Ok false l Z [] n0 [] (⟨"java/lang/StringLatin1", "charAt", "([BI)C"⟩ : MethodName) jdk_43_method_2_code 2 (Option.some Jvm.ClassFile.FieldType.char) ({ frames := 2, cells := 0, slots := 0, locals := 27 } : Room) #[(.ref t), (.int (Int32.ofNat i))] h0 (fun v h => v = some (.int (cs.getD i 0)) ∧ h = h0) (fun _ => []) := by
  refine Ok.of_run (ls0 := #[.val (.ref t), .val (.int (Int32.ofNat i))]) (plainFor_of_name (by first | (simp [plainName, overriddenIn]; done) | decide +kernel)) (fun m => by first | (simp [entryFrame, mkF, argsToLocals, Value.category]; done) | rfl) rfl ?_
  refine Run.old fun hO => ?_
  have hn0 : n0 ≤ h0.size := hO.1 ▸ hO.2.1
  refine r_iloadN d20_0 rfl rfl ?_
  refine r_aloadN d20_1 rfl rfl rfl ?_
  refine r_arraylength d20_2 rfl K ?_
  refine r_static (y := (⟨"java/lang/String", "checkIndex", "(II)V"⟩ : MethodName)) (argsL := [(.int (Int32.ofNat i)), (.int (Int32.ofNat cs.length))]) (rest := []) (W := 0) (kc := 0) (ks := 0) (wl := []) d20_3 rfl (wd105 hw) (wd106 hw) (wd45 hw) (wd107 hw) (by decide) (lenOf pd_2 rfl) rfl rfl (Nat.le_of_ble_eq_true rfl) (Ok.pays (ok_sci hw i cs.length hi hl SF rF) (wd107 hw) (wd45 hw) (by decide) (by decide)) (fun v h' q => q.2 ▸ Keep.refl _ _) all0 (by decide) (by decide) ?_
  rintro _ h_1 ⟨rfl, eqh⟩
  subst h_1
  refine Run.cast (st' := []) rfl ?_
  refine r_aloadN d20_6 rfl rfl rfl ?_
  refine r_iloadN d20_7 rfl rfl ?_
  refine r_baload (v := (.int (cs.getD i 0).toInt8.toInt32)) d20_8 rfl K (ofNat_in hi (by omega)) (by rw [ofNat_cl (by omega)]; exact bytes_at cs i) ?_
  refine r_sipush (v := 255) d20_9 rfl rfl ?_
  refine r_iand d20_12 rfl ?_
  refine r_i2c d20_13 rfl ?_
  rw [show (((cs.getD i 0).toInt8.toInt32 &&& (255 : Int32)).toUInt32.toUInt16.toUInt32.toInt32) = (cs.getD i 0) from (lat_byte (lat_at hp hi))]
  exact r_ireturnN (t := .char) d20_14 rfl (by simp) ⟨by rw [lat_char (lat_at hp hi)], rfl⟩ (by simp) (by decide) (by decide)
set_option maxRecDepth 65536 in
set_option maxHeartbeats 40000000 in
theorem ok_sch {l : Launch} {Z : State} {a0 : Array Value} (hw : ∀ d ∈ tables_1, d.before a0 Z = true) {n0 : Nat} (a t : Addr) {cs : List Int32} (hp : Lat cs) (hl : cs.length ≤ 4000) (i : Nat) (hi : i < cs.length) {zC : Int32} {vF : Value} {h0 : Heap} (SC : Sta Z Z.heap "java/lang/String" "COMPACT_STRINGS" "Z" (.int zC)) (nC : ¬ zC = 0) (SF : Sta Z Z.heap "jdk/internal/util/Preconditions" "SIOOBE_FORMATTER" "Ljava/util/function/BiFunction;" vF) (rF : vF.isRef = true) (F : Str Z h0 a t cs) :
    Ok false l Z [] n0 [] (⟨"java/lang/String", "charAt", "(I)C"⟩ : MethodName) jdk_42_method_56_code 2 (Option.some Jvm.ClassFile.FieldType.char) ({ frames := 3, cells := 0, slots := 0, locals := 40 } : Room) #[(.ref a), (.int (Int32.ofNat i))] h0 (fun v h => v = some (.int (cs.getD i 0)) ∧ h = h0) (fun _ => []) := by
  refine Ok.of_run (ls0 := #[.val (.ref a), .val (.int (Int32.ofNat i))]) (plainFor_of_name (by first | (simp [plainName, overriddenIn]; done) | decide +kernel)) (fun m => by first | (simp [entryFrame, mkF, argsToLocals, Value.category]; done) | rfl) rfl ?_
  refine Run.old fun hO => ?_
  have hn0 : n0 ≤ h0.size := hO.1 ▸ hO.2.1
  obtain ⟨kb, f4⟩ := F.arv
  have lt_1 : @LT.lt Nat instLTNat a (Array.size h0) := (Str.lt F)
  have lt_2 : @LT.lt Nat instLTNat t (Array.size h0) := (Str.ltB F)
  refine r_aloadN d18_0 rfl rfl rfl ?_
  refine r_virtual (y := (⟨"java/lang/String", "isLatin1", "()Z"⟩ : MethodName)) (argsL := []) (rest := []) (W := 0) (kc := 0) (ks := 0) (wl := []) d18_1 rfl (wd96 hw) (wd97 hw) (wd99 hw) (wd98 hw) (by decide) ⟨rfl, rfl⟩ (Str.exa F) (lenOf pd_3 rfl) rfl rfl (Nat.le_of_ble_eq_true rfl) (Ok.pays (ok_lat hw a SC nC F.coder) (wd100 hw) (wd45 hw) (by decide) (by decide)) (fun v h' q => q.2 ▸ Keep.refl _ _) all0 (by decide) (by decide) ?_
  rintro _ h_3 ⟨rfl, eqh⟩
  subst h_3
  refine Run.cast (st' := [(.int (1 : Int32))]) rfl ?_
  refine r_ifeq (pc2 := 16) d18_4 rfl rfl (fun cc => absurd cc (by decide)) (fun _ => ?_)
  refine r_aloadN d18_7 rfl rfl rfl ?_
  refine r_getfield (host := "") d18_8 rfl (Or.inl (wd79 hw)) Via.refl (Str.value F) ?_
  refine r_iloadN d18_11 rfl rfl ?_
  refine r_static (y := (⟨"java/lang/StringLatin1", "charAt", "([BI)C"⟩ : MethodName)) (argsL := [(.ref t), (.int (Int32.ofNat i))]) (rest := []) (W := 0) (kc := 0) (ks := 0) (wl := []) d18_12 rfl (wd101 hw) (wd102 hw) (wd103 hw) (wd104 hw) (by decide) (lenOf pd_4 rfl) rfl rfl (Nat.le_of_ble_eq_true rfl) (Ok.pays (ok_slc hw t i hi hp hl SF rF f4) (wd104 hw) (wd103 hw) (by decide) (by decide)) (fun v h' q => q.2 ▸ Keep.refl _ _) all0 (by decide) (by decide) ?_
  rintro _ h_4 ⟨rfl, eqh⟩
  subst h_4
  refine Run.cast (st' := [(.int (cs.getD i 0))]) rfl ?_
  exact r_ireturnN (t := .char) d18_15 rfl (by simp) ⟨by rw [lat_char (lat_at hp hi)], rfl⟩ (by simp) (by decide) (by decide)
set_option maxRecDepth 65536 in
set_option maxHeartbeats 40000000 in
theorem ok_i4 {l : Launch} {Z : State} {a0 : Array Value} (hw : ∀ d ∈ tables_1, d.before a0 Z = true) {n0 : Nat} (x b : Addr) {o : Int32} {h0 : Heap} (E : Exa Z h0 x "java/lang/String") (V : Fld Z h0 x "java/lang/String" "value" "[B" .null) (C : Fld Z h0 x "java/lang/String" "coder" "B" (.int 0)) (ge : n0 ≤ x) :
    Ok true l Z consts_1 n0 [x] (⟨"java/lang/String", "<init>", "([CIILjava/lang/Void;)V"⟩ : MethodName) jdk_42_method_149_code 6 (Option.none : Option Jvm.ClassFile.FieldType) ({ frames := 1, cells := 4, slots := 8, locals := 12 } : Room) #[(.ref x), (.ref b), (.int o), (.int (0 : Int32)), .null] h0 (fun v h => v = none ∧ Keep h0 h [x] ∧ (∃ t, Str Z h x t [])) (fun _ => []) := by
  refine Ok.of_run (ls0 := #[.val (.ref x), .val (.ref b), .val (.int o), .val (.int (0 : Int32)), .val .null, .unset]) (plainFor_of_name (by first | (simp [plainName, overriddenIn]; done) | decide +kernel)) (fun m => by first | (simp [entryFrame, mkF, argsToLocals, Value.category]; done) | rfl) rfl ?_
  refine Run.old fun hO => ?_
  have hn0 : n0 ≤ h0.size := hO.1 ▸ hO.2.1
  have lt_1 : @LT.lt Nat instLTNat x (Array.size h0) := E.lt
  refine r_aloadN d12_0 rfl rfl rfl ?_
  refine r_initO (W := 0) d12_1 rfl (wd64 hw) (wd7 hw) (wd8 hw) (by decide) (Nat.le_of_ble_eq_true rfl) (by decide) ?_
  refine r_iloadN d12_4 rfl rfl ?_
  refine r_ifne (pc2 := 27) d12_5 rfl rfl (fun cc => absurd rfl cc) (fun _ => ?_)
  refine r_aloadN d12_8 rfl rfl rfl ?_
  refine r_ldcS (z := 0) (n := 0) (vs := []) rfl d12_9 rfl (wd111 hw) (strAtoms hw) (by simp [consts_1]) ⟨by decide, by decide⟩ (by decide) (by decide) (by decide) (by decide) (by decide) (by decide) ?_
  intro h_2 a_3 t_4 k_5 E_6 A_7 C_8 V_9 K_10 N_11
  have szh_2 := E_6.1
  have ne_12 := N_11 x (by simp)
  refine r_getfield (host := "") d12_11 rfl (Or.inl (wd79 hw)) Via.refl V_9 ?_
  have F_13 : Fld Z h_2 x "java/lang/String" "value" "[B" .null := (Fld.ext E_6 V)
  have A_14 : Exa Z h_2 x "java/lang/String" := (Exa.ext E_6 E)
  refine r_putfield (ty := (.array .byte)) (v' := (.ref t_4)) d12_14 rfl (wd79 hw) Via.refl F_13 A_14 (Or.inr ⟨(wd80 hw), rfl, rfl⟩) (wd44 hw) (by decide) rfl rfl ge (Sf.my (by simp)) ?_
  intro h_15 W_16
  have szh_15 := Wr.size W_16
  have F_17 : Fld Z h_15 x "java/lang/String" "value" "[B" (.ref t_4) := Fld.same W_16 F_13
  refine r_aloadN d12_17 rfl rfl rfl ?_
  refine r_ldcS (z := 0) (n := 0) (vs := []) rfl d12_18 rfl (wd111 hw) (strAtoms hw) (by simp [consts_1]) ⟨by decide, by decide⟩ (by decide) (by decide) (by decide) (by decide) (by decide) (by decide) ?_
  intro h_18 a_19 t_20 k_21 E_22 A_23 C_24 V_25 K_26 N_27
  have szh_18 := E_22.1
  have ne_28 := N_27 x (by simp)
  refine r_getfield (host := "") d12_20 rfl (Or.inl (wd77 hw)) Via.refl C_24 ?_
  have F_29 : Fld Z h_18 x "java/lang/String" "coder" "B" (.int (0 : Int32)) := (Fld.ext E_22 (Fld.other W_16 (Fld.ext E_6 C) (Or.inr (slot_ne (Or.inr (wd78 hw)) (Or.inr (wd80 hw)) (by decide) (t := .byte) (t' := (.array .byte)) (by decide) (by decide)))))
  have A_30 : Exa Z h_18 x "java/lang/String" := (Exa.ext E_22 (Exa.wr W_16 A_14))
  refine r_putfield (ty := .byte) (v' := (.int 0)) d12_23 rfl (wd77 hw) Via.refl F_29 A_30 (Or.inr ⟨(wd78 hw), rfl, rfl⟩) (wd44 hw) (by decide) rfl rfl ge (Sf.my (by simp)) ?_
  intro h_31 W_32
  have szh_31 := Wr.size W_32
  have F_33 : Fld Z h_31 x "java/lang/String" "coder" "B" (.int 0) := Fld.same W_32 F_29
  have F_34 : Fld Z h_31 x "java/lang/String" "value" "[B" (.ref t_4) := (Fld.other W_32 (Fld.ext E_22 F_17) (Or.inr (slot_ne (Or.inr (wd80 hw)) (Or.inr (wd78 hw)) (by decide) (t := (.array .byte)) (t' := .byte) (by decide) (by decide))))
  have A_35 : Exa Z h_31 x "java/lang/String" := (Exa.wr W_32 A_30)
  have K_36 : Arv Z h_31 t_4 k_5 .byte (0 : Int32) [] (.int 0) := (Arv.other ((Arv.other K_10 W_16 (Ne.symm ne_12.2)).ext E_22) W_32 (Ne.symm ne_12.2))
  exact r_return d12_26 rfl ⟨rfl, (Keep.wr (Keep.ext (Keep.wr (Keep.ext (Keep.refl _ _) E_6) W_16 (Or.inl (by simp))) E_22) W_32 (Or.inl (by simp))), ⟨t_4, A_35, F_33, F_34, ⟨k_5, K_36⟩, fun q => absurd rfl q⟩⟩ (by simp) (by decide) (by decide)
def imin (a b : Int32) : Int32 := if b < a then b else a
def imax (a b : Int32) : Int32 := if a < b then b else a
theorem imin_of {i j : Nat} (hi : i < 2 ^ 31) (hj : j < 2 ^ 31) : imin (Int32.ofNat i) (Int32.ofNat j) = Int32.ofNat (min i j) := by
  unfold imin
  by_cases q : j < i
  · rw [if_pos (ofNat_in q hi).2, Nat.min_eq_right (by omega)]
  · rw [if_neg (ofNat_nlt (by omega) hj), Nat.min_eq_left (by omega)]
set_option maxRecDepth 65536 in
set_option maxHeartbeats 40000000 in
theorem ok_min {l : Launch} {Z : State} {a0 : Array Value} (hw : ∀ d ∈ tables_1, d.before a0 Z = true) {n0 : Nat} (a b : Int32) {h0 : Heap} :
    Ok false l Z [] n0 [] (⟨"java/lang/Math", "min", "(II)I"⟩ : MethodName) jdk_29_method_69_code 2 (Option.some Jvm.ClassFile.FieldType.int) ({ frames := 0, cells := 0, slots := 0, locals := 0 } : Room) #[(.int a), (.int b)] h0 (fun v h => v = some (.int (imin a b)) ∧ h = h0) (fun _ => []) := by
  refine Ok.of_run (ls0 := #[.val (.int a), .val (.int b)]) (Jvm.Free.JP.mathPlain rfl (by decide +kernel)) (fun m => by first | (simp [entryFrame, mkF, argsToLocals, Value.category]; done) | rfl) rfl ?_
  refine Run.old fun hO => ?_
  have hn0 : n0 ≤ h0.size := hO.1 ▸ hO.2.1
  refine r_iloadN d26_0 rfl rfl ?_
  refine r_iloadN d26_1 rfl rfl ?_
  refine r_icmpgt (pc2 := 9) d26_2 rfl rfl (fun c_1 => ?_) (fun c_1 => ?_)
  · refine r_iloadN d26_9 rfl rfl ?_
    exact r_ireturn d26_10 rfl ⟨by simp [imin, c_1], rfl⟩ (by simp) (by decide) (by decide)
  · refine r_iloadN d26_5 rfl rfl ?_
    refine r_goto (pc' := 10) d26_6 rfl ?_
    exact r_ireturn d26_10 rfl ⟨by simp [imin, c_1], rfl⟩ (by simp) (by decide) (by decide)
theorem set_bytes (cs : List Int32) (i n : Nat) (hi : i < n) : ((bv (cs.take i) ++ List.replicate (n - i) (Value.int 0)).set i (.int (nar .byte (cs.getD i 0).toInt8.toInt32))) = bv (cs.take i ++ [cs.getD i 0]) ++ List.replicate (n - (i + 1)) (Value.int 0) ∨ cs.length ≤ i := by
  rcases Nat.lt_or_ge i cs.length with h | h
  · left
    have e1 : (bv (cs.take i)).length = i := by simp [bv]; omega
    have e2 : List.replicate (n - i) (Value.int 0) = Value.int 0 :: List.replicate (n - (i + 1)) (Value.int 0) := by
      rw [← List.replicate_succ, show n - (i + 1) + 1 = n - i by omega]
    have e3 : nar .byte (cs.getD i 0).toInt8.toInt32 = (cs.getD i 0).toInt8.toInt32 := by
      show (cs.getD i 0).toInt8.toInt32.toInt8.toInt32 = _
      rw [Int8.toInt8_toInt32]
    rw [e2, e3, List.set_append_right _ _ (by omega), e1, Nat.sub_self]
    simp [bv]
  · exact Or.inr h
theorem take_snoc {cs : List Int32} {i : Nat} (h : i < cs.length) : cs.take i ++ [cs.getD i 0] = cs.take (i + 1) := by
  rw [List.take_succ, List.getElem?_eq_getElem h, List.getD_eq_getElem?_getD, List.getElem?_eq_getElem h]; rfl
set_option maxRecDepth 65536 in
theorem loop_cmp {l : Launch} {Z : State} {a0 : Array Value} (hw : ∀ d ∈ tables_1, d.before a0 Z = true) {n0 : Nat} {ka kb : ClassId} {ts cs : List Int32} {mm : Nat} (a b : Addr) (o : Nat) (hab : a ≠ b) (hcs : ∀ i, i < cs.length → ts.getD (o + i) 0 = cs.getD i 0) (hp : Lat cs) (hm1 : mm < 2 ^ 31) (hm2 : o + cs.length ≤ mm) (gb : n0 ≤ b) {R : Room} {Q : Option Value → Heap → Prop} {h0 : Heap} (hfin : ∀ h, Keep h0 h [b] → Arv Z h b kb .byte (Int32.ofNat cs.length) (bv cs) (.int 0) → Q (some (.int (Int32.ofNat cs.length))) h) :
    ∀ (m i : Nat) (h : Heap) (s6 : Slot), One s6 → i + m = cs.length → Keep h0 h [b] → Arv Z h a ka .char (Int32.ofNat mm) (ts.map Value.int) (.int 0) → Arv Z h b kb .byte (Int32.ofNat cs.length) (bv (cs.take i) ++ List.replicate (cs.length - i) (.int 0)) (.int 0) →
      Run false l Z [] n0 "java/lang/StringUTF16" "compress" jdk_52_method_21_code (some .int) R Q (fun _ => []) [] h 0 0 3 #[.val (.ref a), .val (.int (Int32.ofNat (o + i))), .val (.ref b), .val (.int (Int32.ofNat i)), .val (.int (Int32.ofNat cs.length)), .val (.int (Int32.ofNat i)), s6] [] := by
  intro m
  induction m with
  | zero =>
    intro i h s6 h6 hi K AA AB
    have hi' : i = cs.length := by omega
    subst hi'
    refine r_iload d14_3 rfl rfl ?_
    refine r_iload d14_5 rfl rfl ?_
    refine r_icmpge (pc2 := 44) d14_7 rfl rfl (fun _ => ?_) (fun cc => absurd cc (ofNat_nlt (Nat.le_refl _) (by omega)))
    refine r_iload d14_44 rfl rfl ?_
    exact r_ireturn d14_46 rfl (hfin _ K (by simpa using AB)) (by simp) (Nat.zero_le _) (Nat.zero_le _)
  | succ m ih =>
    intro i h s6 h6 hi K AA AB
    have hlt : i < cs.length := by omega
    refine r_iload d14_3 rfl rfl ?_
    refine r_iload d14_5 rfl rfl ?_
    refine r_icmpge (pc2 := 44) d14_7 rfl rfl (fun cc => absurd (ofNat_in hlt (by omega)).2 cc) (fun _ => ?_)
    refine r_aloadN d14_10 rfl rfl rfl ?_
    refine r_iloadN d14_11 rfl rfl ?_
    refine r_caload (v := (.int (cs.getD i 0))) d14_12 rfl AA (ofNat_in (by omega) hm1) (by rw [ofNat_cl (by omega), getD_map, hcs i hlt]) ?_
    refine r_istoreS (l' := #[.val (.ref a), .val (.int (Int32.ofNat (o + i))), .val (.ref b), .val (.int (Int32.ofNat i)), .val (.int (Int32.ofNat cs.length)), .val (.int (Int32.ofNat i)), .val (.int (cs.getD i 0))]) d14_13 rfl rfl h6 rfl ?_
    refine r_iload d14_15 rfl rfl ?_
    refine r_sipush (v := 255) d14_17 rfl rfl ?_
    refine r_icmple (pc2 := 26) d14_20 rfl rfl (fun _ => ?_) (fun cc => absurd cc (lat_at hp hlt).2)
    refine r_aloadN d14_26 rfl rfl rfl ?_
    refine r_iloadN d14_27 rfl rfl ?_
    refine r_iload d14_28 rfl rfl ?_
    refine r_i2b d14_30 rfl ?_
    refine r_bastore i d14_31 rfl AB (ofNat_in hlt (by omega)) (ofNat_cl (by omega)) (by simp [bv]; omega) gb (Or.inl rfl) ?_
    intro h_1 W_2 K_3
    have szh_1 := Wr.size W_2
    have AB2 : Arv Z h_1 b kb .byte (Int32.ofNat cs.length) (bv (cs.take (i + 1)) ++ List.replicate (cs.length - (i + 1)) (.int 0)) (.int 0) := by
      have q := (set_bytes cs i cs.length hlt).resolve_right (by omega)
      rw [take_snoc hlt] at q; rw [← q]; exact K_3
    refine r_iinc (l' := #[.val (.ref a), .val (.int ((Int32.ofNat (o + i)) + (1 : Int32))), .val (.ref b), .val (.int (Int32.ofNat i)), .val (.int (Int32.ofNat cs.length)), .val (.int (Int32.ofNat i)), .val (.int (cs.getD i 0))]) d14_32 rfl rfl rfl ?_
    refine r_iinc (l' := #[.val (.ref a), .val (.int ((Int32.ofNat (o + i)) + (1 : Int32))), .val (.ref b), .val (.int ((Int32.ofNat i) + (1 : Int32))), .val (.int (Int32.ofNat cs.length)), .val (.int (Int32.ofNat i)), .val (.int (cs.getD i 0))]) d14_35 rfl rfl rfl ?_
    refine r_iinc (l' := #[.val (.ref a), .val (.int ((Int32.ofNat (o + i)) + (1 : Int32))), .val (.ref b), .val (.int ((Int32.ofNat i) + (1 : Int32))), .val (.int (Int32.ofNat cs.length)), .val (.int ((Int32.ofNat i) + (1 : Int32))), .val (.int (cs.getD i 0))]) d14_38 rfl rfl rfl ?_
    refine r_goto (pc' := 3) d14_41 rfl ?_
    refine Run.castL (ls' := #[.val (.ref a), .val (.int (Int32.ofNat (o + (i + 1)))), .val (.ref b), .val (.int (Int32.ofNat (i + 1))), .val (.int (Int32.ofNat cs.length)), .val (.int (Int32.ofNat (i + 1))), .val (.int (cs.getD i 0))]) (by rw [← Nat.add_assoc, inc_ofNat, inc_ofNat]) ?_
    exact ih (i + 1) h_1 _ (One.val rfl) (by omega) (K.wr W_2 (Or.inl (by simp))) (Arv.other AA W_2 hab) AB2
set_option maxRecDepth 65536 in
set_option maxHeartbeats 40000000 in
theorem ok_cmp5 {l : Launch} {Z : State} {a0 : Array Value} (hw : ∀ d ∈ tables_1, d.before a0 Z = true) {n0 : Nat} {ka : ClassId} {ts cs : List Int32} {mm : Nat} (a : Addr) (o : Nat) (hcs : ∀ i, i < cs.length → ts.getD (o + i) 0 = cs.getD i 0) (hp : Lat cs) (hm1 : mm < 2 ^ 31) (hm2 : o + cs.length ≤ mm) {kb : ClassId} (b : Addr) (hab : a ≠ b) (gb : n0 ≤ b) {h0 : Heap} (AA : Arv Z h0 a ka .char (Int32.ofNat mm) (ts.map Value.int) (.int 0)) (AB : Arv Z h0 b kb .byte (Int32.ofNat cs.length) (List.replicate cs.length (.int 0)) (.int 0)) :
    Ok false l Z [] n0 [] (⟨"java/lang/StringUTF16", "compress", "([CI[BII)I"⟩ : MethodName) jdk_52_method_21_code 7 (Option.some Jvm.ClassFile.FieldType.int) ({ frames := 0, cells := 0, slots := 0, locals := 0 } : Room) #[(.ref a), (.int (Int32.ofNat o)), (.ref b), (.int (0 : Int32)), (.int (Int32.ofNat cs.length))] h0 (fun v h => v = some (.int (Int32.ofNat cs.length)) ∧ Keep h0 h [b] ∧ Arv Z h b kb .byte (Int32.ofNat cs.length) (bv cs) (.int 0)) (fun _ => []) := by
  refine Ok.of_run (ls0 := #[.val (.ref a), .val (.int (Int32.ofNat o)), .val (.ref b), .val (.int (0 : Int32)), .val (.int (Int32.ofNat cs.length)), .unset, .unset]) (plainFor_of_name (by first | (simp [plainName, overriddenIn]; done) | decide +kernel)) (fun m => by first | (simp [entryFrame, mkF, argsToLocals, Value.category]; done) | rfl) rfl ?_
  refine Run.old fun hO => ?_
  have hn0 : n0 ≤ h0.size := hO.1 ▸ hO.2.1
  refine r_iconst (v := 0) d14_0 rfl rfl ?_
  refine r_istore (l' := #[.val (.ref a), .val (.int (Int32.ofNat o)), .val (.ref b), .val (.int (0 : Int32)), .val (.int (Int32.ofNat cs.length)), .val (.int (0 : Int32)), .unset]) d14_1 rfl rfl ?_
  refine Run.castL (ls' := #[.val (.ref a), .val (.int (Int32.ofNat (o + 0))), .val (.ref b), .val (.int (Int32.ofNat 0)), .val (.int (Int32.ofNat cs.length)), .val (.int (Int32.ofNat 0)), .unset]) rfl ?_
  exact loop_cmp hw a b o hab hcs hp hm1 hm2 gb (fun h k q => ⟨rfl, k, q⟩) cs.length 0 _ _ One.u (by omega) (Keep.refl _ _) AA (by simpa using AB)
set_option maxRecDepth 65536 in
set_option maxHeartbeats 40000000 in
theorem ok_cmp3 {l : Launch} {Z : State} {a0 : Array Value} (hw : ∀ d ∈ tables_1, d.before a0 Z = true) {n0 : Nat} {ka : ClassId} {ts cs : List Int32} {mm : Nat} (a : Addr) (o : Nat) (hcs : ∀ i, i < cs.length → ts.getD (o + i) 0 = cs.getD i 0) (hp : Lat cs) (hm1 : mm < 2 ^ 31) (hm2 : o + cs.length ≤ mm) (hcap : cs.length ≤ 4) {h0 : Heap} (AA : Arv Z h0 a ka .char (Int32.ofNat mm) (ts.map Value.int) (.int 0)) :
    Ok false l Z [] n0 [] (⟨"java/lang/StringUTF16", "compress", "([CII)[B"⟩ : MethodName) jdk_52_method_16_code 6 (Option.some (Jvm.ClassFile.FieldType.array Jvm.ClassFile.FieldType.byte)) ({ frames := 1, cells := 1, slots := 4, locals := 18 } : Room) #[(.ref a), (.int (Int32.ofNat o)), (.int (Int32.ofNat cs.length))] h0 (fun v h => ∃ b2 k2, v = some (.ref b2) ∧ Keep h0 h [] ∧ h0.size ≤ b2 ∧ Arv Z h b2 k2 .byte (Int32.ofNat cs.length) (bv cs) (.int 0) ∧ Exa Z h b2 "[B") (fun _ => []) := by
  refine Ok.of_run (ls0 := #[.val (.ref a), .val (.int (Int32.ofNat o)), .val (.int (Int32.ofNat cs.length)), .unset, .unset, .unset]) (plainFor_of_name (by first | (simp [plainName, overriddenIn]; done) | decide +kernel)) (fun m => by first | (simp [entryFrame, mkF, argsToLocals, Value.category]; done) | rfl) rfl ?_
  refine Run.old fun hO => ?_
  have hn0 : n0 ≤ h0.size := hO.1 ▸ hO.2.1
  have lt_1 : @LT.lt Nat instLTNat a (Array.size h0) := AA.lt
  refine r_iloadN d13_0 rfl rfl ?_
  refine r_newP (cap := 4) (ad := "[B") d13_1 rfl (wd70 hw) (ofNat_in (n := 4001) (by omega) (by omega)).1 (by rw [ofNat_cl (by omega)]; omega) (by decide) (by decide) (by decide) (by decide) ?_
  intro h_3 b_2 k_7 gb_2 ltb_2 E_4 A_5 K_6
  have szh_3 := E_4.1
  have geb_2 : n0 ≤ b_2 := by omega
  have K_8 : Arv Z h_3 b_2 k_7 .byte (Int32.ofNat cs.length) (List.replicate cs.length (.int 0)) (.int 0) := Arv.pad K_6 (by intro q; have e := pad_rep [] (.int 0) cs.length q; simpa using e)
  refine r_astoreN (l' := #[.val (.ref a), .val (.int (Int32.ofNat o)), .val (.int (Int32.ofNat cs.length)), .val (.ref b_2), .unset, .unset]) d13_3 rfl rfl rfl ?_
  refine r_aloadN d13_4 rfl rfl rfl ?_
  refine r_iloadN d13_5 rfl rfl ?_
  refine r_aloadN d13_6 rfl rfl rfl ?_
  refine r_iconst (v := 0) d13_7 rfl rfl ?_
  refine r_iloadN d13_8 rfl rfl ?_
  have ne_9 : @Ne Nat a b_2 := by omega
  have K_10 : Arv Z h_3 a ka .char (Int32.ofNat mm) (ts.map Value.int) (.int 0) := (AA.ext E_4)
  refine r_static (y := (⟨"java/lang/StringUTF16", "compress", "([CI[BII)I"⟩ : MethodName)) (argsL := [(.ref a), (.int (Int32.ofNat o)), (.ref b_2), (.int (0 : Int32)), (.int (Int32.ofNat cs.length))]) (rest := []) (W := 0) (kc := 0) (ks := 0) (wl := [b_2]) d13_9 rfl (wd71 hw) (wd72 hw) (wd68 hw) (wd73 hw) (by decide) (lenOf pd_5 rfl) rfl rfl (Nat.le_of_ble_eq_true rfl) (Ok.pays (ok_cmp5 hw a o hcs hp hm1 hm2 b_2 ne_9 geb_2 K_10 K_8) (wd73 hw) (wd68 hw) (by decide) (by decide)) (fun v h' q => q.2.1) (allS ⟨geb_2, (Or.inl rfl)⟩ all0) (by decide) (by decide) ?_
  rintro _ h_11 ⟨rfl, KK, K2⟩
  refine Run.cast (st' := [(.int (Int32.ofNat cs.length))]) rfl ?_
  have szh_11 := KK.1
  refine r_istore (l' := #[.val (.ref a), .val (.int (Int32.ofNat o)), .val (.int (Int32.ofNat cs.length)), .val (.ref b_2), .val (.int (Int32.ofNat cs.length)), .unset]) d13_12 rfl rfl ?_
  refine r_iload d13_14 rfl rfl ?_
  refine r_iloadN d13_16 rfl rfl ?_
  refine r_icmpeq (pc2 := 57) d13_17 rfl rfl (fun _ => ?_) (fun cc => absurd rfl cc)
  refine r_aloadN d13_57 rfl rfl rfl ?_
  have A_12 : Exa Z h_11 b_2 "[B" := (Exa.keep A_5 KK)
  exact r_areturn d13_58 rfl rfl rfl rfl ⟨b_2, k_7, rfl, (Keep.trans (Keep.ext (Keep.refl _ _) E_4) KK (allS (Or.inr (by omega)) all0)), by omega, K2, A_12⟩ (by simp) (by decide) (by decide)
set_option maxRecDepth 65536 in
set_option maxHeartbeats 40000000 in
theorem ok_codl {l : Launch} {Z : State} {a0 : Array Value} (hw : ∀ d ∈ tables_1, d.before a0 Z = true) {n0 : Nat} {k : ClassId} {vs : List Value} {dv : Value} (b : Addr) (n : Nat) {h0 : Heap} (K : Arv Z h0 b k .byte (Int32.ofNat n) vs dv) :
    Ok false l Z [] n0 [] (⟨"java/lang/StringUTF16", "coderFromArrayLen", "([BI)B"⟩ : MethodName) jdk_52_method_15_code 2 (Option.some Jvm.ClassFile.FieldType.byte) ({ frames := 0, cells := 0, slots := 0, locals := 0 } : Room) #[(.ref b), (.int (Int32.ofNat n))] h0 (fun v h => v = some (.int 0) ∧ h = h0) (fun _ => []) := by
  refine Ok.of_run (ls0 := #[.val (.ref b), .val (.int (Int32.ofNat n))]) (plainFor_of_name (by first | (simp [plainName, overriddenIn]; done) | decide +kernel)) (fun m => by first | (simp [entryFrame, mkF, argsToLocals, Value.category]; done) | rfl) rfl ?_
  refine Run.old fun hO => ?_
  have hn0 : n0 ≤ h0.size := hO.1 ▸ hO.2.1
  refine r_iloadN d15_0 rfl rfl ?_
  refine r_aloadN d15_1 rfl rfl rfl ?_
  refine r_arraylength d15_2 rfl K ?_
  refine r_isub d15_3 rfl ?_
  rw [show ((Int32.ofNat n) - (Int32.ofNat n)) = (0 : Int32) from (Int32.sub_self _)]
  refine r_bipush (v := 31) d15_4 rfl rfl ?_
  refine r_iushr d15_6 rfl ?_
  refine r_i2b d15_7 rfl ?_
  exact r_ireturnN (t := .byte) d15_8 rfl (by simp) ⟨rfl, rfl⟩ (by simp) (by decide) (by decide)
set_option maxRecDepth 65536 in
set_option maxHeartbeats 40000000 in
theorem ok_i4f {l : Launch} {Z : State} {a0 : Array Value} (hw : ∀ d ∈ tables_1, d.before a0 Z = true) {n0 : Nat} (x : Addr) {ka : ClassId} {ts cs : List Int32} {mm : Nat} (a : Addr) (o : Nat) (hcs : ∀ i, i < cs.length → ts.getD (o + i) 0 = cs.getD i 0) (hp : Lat cs) (hm1 : mm < 2 ^ 31) (hm2 : o + cs.length ≤ mm) (hcap : cs.length ≤ 4) (hpos : 0 < cs.length) {zC : Int32} {h0 : Heap} (SC : Sta Z Z.heap "java/lang/String" "COMPACT_STRINGS" "Z" (.int zC)) (nC : ¬ zC = 0) (E : Exa Z h0 x "java/lang/String") (V : Fld Z h0 x "java/lang/String" "value" "[B" .null) (C : Fld Z h0 x "java/lang/String" "coder" "B" (.int 0)) (ge : n0 ≤ x) (AA : Arv Z h0 a ka .char (Int32.ofNat mm) (ts.map Value.int) (.int 0)) :
    Ok false l Z [] n0 [] (⟨"java/lang/String", "<init>", "([CIILjava/lang/Void;)V"⟩ : MethodName) jdk_42_method_149_code 6 (Option.none : Option Jvm.ClassFile.FieldType) ({ frames := 2, cells := 1, slots := 4, locals := 35 } : Room) #[(.ref x), (.ref a), (.int (Int32.ofNat o)), (.int (Int32.ofNat cs.length)), .null] h0 (fun v h => v = none ∧ Keep h0 h [x] ∧ ∃ t, h0.size ≤ t ∧ Str Z h x t cs) (fun _ => []) := by
  refine Ok.of_run (ls0 := #[.val (.ref x), .val (.ref a), .val (.int (Int32.ofNat o)), .val (.int (Int32.ofNat cs.length)), .val .null, .unset]) (plainFor_of_name (by first | (simp [plainName, overriddenIn]; done) | decide +kernel)) (fun m => by first | (simp [entryFrame, mkF, argsToLocals, Value.category]; done) | rfl) rfl ?_
  refine Run.old fun hO => ?_
  have hn0 : n0 ≤ h0.size := hO.1 ▸ hO.2.1
  have lt_1 : @LT.lt Nat instLTNat x (Array.size h0) := E.lt
  have nax : x ≠ a := E.neArv AA (wd44 hw)
  refine r_aloadN d12_0 rfl rfl rfl ?_
  refine r_initO (W := 0) d12_1 rfl (wd64 hw) (wd7 hw) (wd8 hw) (by decide) (Nat.le_of_ble_eq_true rfl) (by decide) ?_
  refine r_iloadN d12_4 rfl rfl ?_
  refine r_ifne (pc2 := 27) d12_5 rfl rfl (fun _ => ?_) (fun cc => absurd (ofNat_inj' (j := 0) (by omega) (by omega) cc) (by omega))
  refine r_getstatic (host := "") d12_27 rfl (Or.inl (wd65 hw)) Via.refl SC ?_
  refine r_ifeq (pc2 := 58) d12_30 rfl rfl (fun cc => absurd cc nC) (fun _ => ?_)
  refine r_aloadN d12_33 rfl rfl rfl ?_
  refine r_iloadN d12_34 rfl rfl ?_
  refine r_iloadN d12_35 rfl rfl ?_
  refine r_static (y := (⟨"java/lang/StringUTF16", "compress", "([CII)[B"⟩ : MethodName)) (argsL := [(.ref a), (.int (Int32.ofNat o)), (.int (Int32.ofNat cs.length))]) (rest := []) (W := 0) (kc := 1) (ks := 4) (wl := []) d12_36 rfl (wd66 hw) (wd67 hw) (wd68 hw) (wd69 hw) (by decide) (lenOf pd_6 rfl) rfl rfl (Nat.le_of_ble_eq_true rfl) (Ok.pays (ok_cmp3 hw a o hcs hp hm1 hm2 hcap AA) (wd69 hw) (wd68 hw) (by decide) (by decide)) (fun v h' q => by obtain ⟨_, _, _, K, _⟩ := q; exact K) all0 (by decide) (by decide) ?_
  rintro _ h_2 ⟨b2, k2, rfl, KK, hge, K2, E2⟩
  refine Run.cast (st' := [(.ref b2)]) rfl ?_
  have szh_2 := KK.1
  have lt_3 : @LT.lt Nat instLTNat b2 (Array.size h_2) := K2.lt
  refine r_astore (l' := #[.val (.ref x), .val (.ref a), .val (.int (Int32.ofNat o)), .val (.int (Int32.ofNat cs.length)), .val .null, .val (.ref b2)]) d12_39 rfl rfl rfl ?_
  refine r_aloadN d12_41 rfl rfl rfl ?_
  refine r_aload d12_42 rfl rfl rfl ?_
  refine r_iloadN d12_44 rfl rfl ?_
  refine r_static (y := (⟨"java/lang/StringUTF16", "coderFromArrayLen", "([BI)B"⟩ : MethodName)) (argsL := [(.ref b2), (.int (Int32.ofNat cs.length))]) (rest := [(.ref x)]) (W := 1) (kc := 0) (ks := 0) (wl := []) d12_45 rfl (wd74 hw) (wd75 hw) (wd68 hw) (wd76 hw) (by decide) (lenOf pd_7 rfl) rfl rfl (Nat.le_of_ble_eq_true rfl) (Ok.pays (ok_codl hw b2 cs.length K2) (wd76 hw) (wd68 hw) (by decide) (by decide)) (fun v h' q => q.2 ▸ Keep.refl _ _) all0 (by decide) (by decide) ?_
  rintro _ h_4 ⟨rfl, eqh⟩
  subst h_4
  refine Run.cast (st' := [(.int (0 : Int32)), (.ref x)]) rfl ?_
  have F_5 : Fld Z h_2 x "java/lang/String" "coder" "B" (.int (0 : Int32)) := (Fld.keep C KK nin0)
  have A_6 : Exa Z h_2 x "java/lang/String" := (Exa.keep E KK)
  refine r_putfield (ty := .byte) (v' := (.int 0)) d12_48 rfl (wd77 hw) Via.refl F_5 A_6 (Or.inr ⟨(wd78 hw), rfl, rfl⟩) (wd44 hw) (by decide) rfl rfl ge (Or.inl rfl) ?_
  intro h_7 W_8
  have szh_7 := Wr.size W_8
  have F_9 : Fld Z h_7 x "java/lang/String" "coder" "B" (.int 0) := Fld.same W_8 F_5
  refine r_aloadN d12_51 rfl rfl rfl ?_
  refine r_aload d12_52 rfl rfl rfl ?_
  have F_10 : Fld Z h_7 x "java/lang/String" "value" "[B" .null := (Fld.other W_8 (Fld.keep V KK nin0) (Or.inr (slot_ne (Or.inr (wd80 hw)) (Or.inr (wd78 hw)) (by decide) (t := (.array .byte)) (t' := .byte) (by decide) (by decide))))
  have A_11 : Exa Z h_7 x "java/lang/String" := (Exa.wr W_8 A_6)
  refine r_putfield (ty := (.array .byte)) (v' := (.ref b2)) d12_54 rfl (wd79 hw) Via.refl F_10 A_11 (Or.inr ⟨(wd80 hw), rfl, rfl⟩) (wd44 hw) (by decide) rfl rfl ge (Or.inl rfl) ?_
  intro h_12 W_13
  have szh_12 := Wr.size W_13
  have F_14 : Fld Z h_12 x "java/lang/String" "value" "[B" (.ref b2) := Fld.same W_13 F_10
  have F_15 : Fld Z h_12 x "java/lang/String" "coder" "B" (.int 0) := (Fld.other W_13 F_9 (Or.inr (slot_ne (Or.inr (wd78 hw)) (Or.inr (wd80 hw)) (by decide) (t := .byte) (t' := (.array .byte)) (by decide) (by decide))))
  have A_16 : Exa Z h_12 x "java/lang/String" := (Exa.wr W_13 A_11)
  have ne_17 : @Ne Nat b2 x := by omega
  have K_18 : Arv Z h_12 b2 k2 .byte (Int32.ofNat cs.length) (bv cs) (.int 0) := (Arv.other (Arv.other K2 W_8 ne_17) W_13 ne_17)
  have A_19 : Exa Z h_12 b2 "[B" := (Exa.wr W_13 (Exa.wr W_8 E2))
  exact r_return d12_57 rfl ⟨rfl, (Keep.wr (Keep.wr (Keep.trans (Keep.refl _ _) KK all0) W_8 (Or.inl (by simp))) W_13 (Or.inl (by simp))), ⟨b2, by omega, A_16, F_15, F_14, ⟨k2, K_18⟩, fun _ => A_19⟩⟩ (by simp) (by decide) (by decide)
def RB (Z : State) (h : Heap) (n0 : Nat) (x a b : Addr) (ts en : List Int32) (cap : Nat) : Prop :=
  Exa Z h x "com/example/chunkwise/chunkwise/item/RecordBuilder" ∧ Fld Z h x "com/example/chunkwise/chunkwise/item/RecordBuilder" "text" "[C" (.ref a) ∧ Fld Z h x "com/example/chunkwise/chunkwise/item/RecordBuilder" "ends" "[I" (.ref b) ∧ Fld Z h x "com/example/chunkwise/chunkwise/item/RecordBuilder" "length" "I" (.int (Int32.ofNat ts.length)) ∧ Fld Z h x "com/example/chunkwise/chunkwise/item/RecordBuilder" "count" "I" (.int (Int32.ofNat en.length)) ∧ (∃ k, Arv Z h a k .char (Int32.ofNat 256) (ts.map Value.int) (.int 0)) ∧ (∃ k, Arv Z h b k .int (Int32.ofNat cap) (en.map Value.int) (.int 0)) ∧ @Ne Nat a b ∧ @LE.le Nat instLENat n0 x ∧ @LE.le Nat instLENat n0 a ∧ @LE.le Nat instLENat n0 b
theorem RB.keep {Z : State} {h h' : Heap} {n0 : Nat} {x a b : Addr} {ts en : List Int32} {cap : Nat} (F : RB Z h n0 x a b ts en cap) (K : Keep h h' []) : RB Z h' n0 x a b ts en cap := by
  obtain ⟨f1, f2, f3, f4, f5, ⟨k, f6⟩, ⟨k2, f7⟩, f8⟩ := F
  exact ⟨f1.keep K, f2.keep K nin0, f3.keep K nin0, f4.keep K nin0, f5.keep K nin0, ⟨k, f6.keep K nin0⟩, ⟨k2, f7.keep K nin0⟩, f8⟩
theorem RB.ext {Z : State} {h h' : Heap} {n0 : Nat} {x a b : Addr} {ts en : List Int32} {cap : Nat} (F : RB Z h n0 x a b ts en cap) (K : Ext h h') : RB Z h' n0 x a b ts en cap := by
  obtain ⟨f1, f2, f3, f4, f5, ⟨k, f6⟩, ⟨k2, f7⟩, f8⟩ := F
  exact ⟨f1.ext K, f2.ext K, f3.ext K, f4.ext K, f5.ext K, ⟨k, f6.ext K⟩, ⟨k2, f7.ext K⟩, f8⟩
theorem RB.exa {Z : State} {h : Heap} {n0 : Nat} {x a b : Addr} {ts en : List Int32} {cap : Nat} (F : RB Z h n0 x a b ts en cap) : Exa Z h x "com/example/chunkwise/chunkwise/item/RecordBuilder" := F.1
theorem RB.gx {Z : State} {h : Heap} {n0 : Nat} {x a b : Addr} {ts en : List Int32} {cap : Nat} (F : RB Z h n0 x a b ts en cap) : n0 ≤ x := F.2.2.2.2.2.2.2.2.1
theorem RB.ga {Z : State} {h : Heap} {n0 : Nat} {x a b : Addr} {ts en : List Int32} {cap : Nat} (F : RB Z h n0 x a b ts en cap) : n0 ≤ a := F.2.2.2.2.2.2.2.2.2.1
theorem RB.gb {Z : State} {h : Heap} {n0 : Nat} {x a b : Addr} {ts en : List Int32} {cap : Nat} (F : RB Z h n0 x a b ts en cap) : n0 ≤ b := F.2.2.2.2.2.2.2.2.2.2
theorem RB.sfa {Z : State} {h : Heap} {n0 : Nat} {x a b : Addr} {ts en : List Int32} {cap : Nat} {w : Bool} {My : List Addr} (F : RB Z h n0 x a b ts en cap) : Sf w Z h My a := by
  obtain ⟨f1, f2, f3, f4, f5, ⟨k, f6⟩, ⟨k2, f7⟩, f8⟩ := F
  exact Sf.arv f6 (by decide)
theorem RB.sfb {Z : State} {h : Heap} {n0 : Nat} {x a b : Addr} {ts en : List Int32} {cap : Nat} {w : Bool} {My : List Addr} (F : RB Z h n0 x a b ts en cap) : Sf w Z h My b := by
  obtain ⟨f1, f2, f3, f4, f5, ⟨k, f6⟩, ⟨k2, f7⟩, f8⟩ := F
  exact Sf.arv f7 (by decide)
theorem snoc_arv {Z : State} {h : Heap} {a : Addr} {k : ClassId} {ty : FieldType} {n : Int32} {ts : List Int32} (F : Arv Z h a k ty n (ts.map Value.int) (.int 0)) : Arv Z h a k ty n (ts.map Value.int ++ [.int 0]) (.int 0) := Arv.pad F (pad_rep _ (.int 0) 1)
theorem snoc_set (ts : List Int32) (c : Int32) : (ts.map Value.int ++ [Value.int 0]).set ts.length (.int c) = (ts ++ [c]).map Value.int := by
  rw [List.set_append_right _ _ (by simp)]; simp
theorem ior_nneg {a b : Int32} (ha : ¬ a < 0) (hb : ¬ b < 0) : ¬ (a ||| b) < 0 := by
  have key : ∀ x : Int32, (x < 0) ↔ x.toBitVec.msb = true := fun x => by
    rw [Int32.lt_iff_toInt_lt, BitVec.msb_eq_toInt]
    show x.toBitVec.toInt < 0 ↔ _
    simp
  rw [key] at ha hb ⊢
  rw [Int32.toBitVec_or, BitVec.msb_or]
  simp at ha hb ⊢
  exact ⟨ha, hb⟩
set_option maxRecDepth 65536 in
set_option maxHeartbeats 40000000 in
theorem ok_ri {l : Launch} {Z : State} {a0 : Array Value} (hw : ∀ d ∈ tables_1, d.before a0 Z = true) {n0 : Nat} (x : Addr) {h0 : Heap} (E : Exa Z h0 x "com/example/chunkwise/chunkwise/item/RecordBuilder") (F1 : Fld Z h0 x "com/example/chunkwise/chunkwise/item/RecordBuilder" "text" "[C" .null) (F2 : Fld Z h0 x "com/example/chunkwise/chunkwise/item/RecordBuilder" "ends" "[I" .null) (F3 : Fld Z h0 x "com/example/chunkwise/chunkwise/item/RecordBuilder" "length" "I" (.int 0)) (F4 : Fld Z h0 x "com/example/chunkwise/chunkwise/item/RecordBuilder" "count" "I" (.int 0)) (ge : n0 ≤ x) :
    Ok false l Z [] n0 [] (⟨"com/example/chunkwise/chunkwise/item/RecordBuilder", "<init>", "()V"⟩ : MethodName) prog_61_method_1_code 1 (Option.none : Option Jvm.ClassFile.FieldType) ({ frames := 1, cells := 2, slots := 272, locals := 12 } : Room) #[(.ref x)] h0 (fun v h => v = none ∧ Keep h0 h [x] ∧ ∃ a b : Addr, @LE.le Nat instLENat h0.size a ∧ @LE.le Nat instLENat h0.size b ∧ RB Z h n0 x a b [] [] 16) (fun _ => []) := by
  refine Ok.of_run (ls0 := #[.val (.ref x)]) (plainFor_of_name (by first | (simp [plainName, overriddenIn]; done) | decide +kernel)) (fun m => by first | (simp [entryFrame, mkF, argsToLocals, Value.category]; done) | rfl) rfl ?_
  refine Run.old fun hO => ?_
  have hn0 : n0 ≤ h0.size := hO.1 ▸ hO.2.1
  have lt_1 : @LT.lt Nat instLTNat x (Array.size h0) := E.lt
  refine r_aloadN d1_0 rfl rfl rfl ?_
  refine r_initO (W := 0) d1_1 rfl (wd6 hw) (wd7 hw) (wd8 hw) (by decide) (Nat.le_of_ble_eq_true rfl) (by decide) ?_
  refine r_aloadN d1_4 rfl rfl rfl ?_
  refine r_sipush (v := 256) d1_5 rfl rfl ?_
  refine r_newP (cap := 256) (ad := "[C") d1_8 rfl (wd9 hw) (by decide) (by decide) (by decide) (by decide) (by decide) (by decide) ?_
  intro h_3 b_2 k_7 gb_2 ltb_2 E_4 A_5 K_6
  have szh_3 := E_4.1
  have geb_2 : n0 ≤ b_2 := by omega
  have F_8 : Fld Z h_3 x "com/example/chunkwise/chunkwise/item/RecordBuilder" "text" "[C" .null := (Fld.ext E_4 F1)
  have A_9 : Exa Z h_3 x "com/example/chunkwise/chunkwise/item/RecordBuilder" := (Exa.ext E_4 E)
  refine r_putfield (ty := (.array .char)) (v' := (.ref b_2)) d1_10 rfl (wd10 hw) Via.refl F_8 A_9 (Or.inl (wd11 hw)) (wd1 hw) (by decide) rfl rfl ge (Or.inl rfl) ?_
  intro h_10 W_11
  have szh_10 := Wr.size W_11
  have F_12 : Fld Z h_10 x "com/example/chunkwise/chunkwise/item/RecordBuilder" "text" "[C" (.ref b_2) := Fld.same W_11 F_8
  refine r_aloadN d1_13 rfl rfl rfl ?_
  refine r_bipush (v := 16) d1_14 rfl rfl ?_
  refine r_newP (cap := 16) (ad := "[I") d1_16 rfl (wd12 hw) (by decide) (by decide) (by decide) (by decide) (by decide) (by decide) ?_
  intro h_14 b_13 k_18 gb_13 ltb_13 E_15 A_16 K_17
  have szh_14 := E_15.1
  have geb_13 : n0 ≤ b_13 := by omega
  have F_19 : Fld Z h_14 x "com/example/chunkwise/chunkwise/item/RecordBuilder" "ends" "[I" .null := (Fld.ext E_15 (Fld.other W_11 (Fld.ext E_4 F2) (Or.inr (slot_ne (Or.inl (wd14 hw)) (Or.inl (wd11 hw)) (by decide) (t := (.array .int)) (t' := (.array .char)) (by decide) (by decide)))))
  have A_20 : Exa Z h_14 x "com/example/chunkwise/chunkwise/item/RecordBuilder" := (Exa.ext E_15 (Exa.wr W_11 A_9))
  refine r_putfield (ty := (.array .int)) (v' := (.ref b_13)) d1_18 rfl (wd13 hw) Via.refl F_19 A_20 (Or.inl (wd14 hw)) (wd1 hw) (by decide) rfl rfl ge (Or.inl rfl) ?_
  intro h_21 W_22
  have szh_21 := Wr.size W_22
  have F_23 : Fld Z h_21 x "com/example/chunkwise/chunkwise/item/RecordBuilder" "ends" "[I" (.ref b_13) := Fld.same W_22 F_19
  have A_24 : Exa Z h_21 x "com/example/chunkwise/chunkwise/item/RecordBuilder" := (Exa.wr W_22 A_20)
  have F_25 : Fld Z h_21 x "com/example/chunkwise/chunkwise/item/RecordBuilder" "text" "[C" (.ref b_2) := (Fld.other W_22 (Fld.ext E_15 F_12) (Or.inr (slot_ne (Or.inl (wd11 hw)) (Or.inl (wd14 hw)) (by decide) (t := (.array .char)) (t' := (.array .int)) (by decide) (by decide))))
  have F_26 : Fld Z h_21 x "com/example/chunkwise/chunkwise/item/RecordBuilder" "length" "I" (.int (0 : Int32)) := (Fld.other W_22 (Fld.ext E_15 (Fld.other W_11 (Fld.ext E_4 F3) (Or.inr (slot_ne (Or.inl (wd25 hw)) (Or.inl (wd11 hw)) (by decide) (t := .int) (t' := (.array .char)) (by decide) (by decide))))) (Or.inr (slot_ne (Or.inl (wd25 hw)) (Or.inl (wd14 hw)) (by decide) (t := .int) (t' := (.array .int)) (by decide) (by decide))))
  have F_27 : Fld Z h_21 x "com/example/chunkwise/chunkwise/item/RecordBuilder" "count" "I" (.int (0 : Int32)) := (Fld.other W_22 (Fld.ext E_15 (Fld.other W_11 (Fld.ext E_4 F4) (Or.inr (slot_ne (Or.inl (wd32 hw)) (Or.inl (wd11 hw)) (by decide) (t := .int) (t' := (.array .char)) (by decide) (by decide))))) (Or.inr (slot_ne (Or.inl (wd32 hw)) (Or.inl (wd14 hw)) (by decide) (t := .int) (t' := (.array .int)) (by decide) (by decide))))
  have ne_28 : @Ne Nat b_2 x := by omega
  have K_29 : Arv Z h_21 b_2 k_7 .char (256 : Int32) [] (.int 0) := (Arv.other ((Arv.other K_6 W_11 ne_28).ext E_15) W_22 ne_28)
  have ne_30 : @Ne Nat b_13 x := by omega
  have K_31 : Arv Z h_21 b_13 k_18 .int (16 : Int32) [] (.int 0) := (Arv.other K_17 W_22 ne_30)
  have ne_32 : @Ne Nat b_2 b_13 := by omega
  exact r_return d1_21 rfl ⟨rfl, (Keep.wr (Keep.ext (Keep.wr (Keep.ext (Keep.refl _ _) E_4) W_11 (Or.inl (by simp))) E_15) W_22 (Or.inl (by simp))), b_2, b_13, by omega, by omega, ⟨A_24, F_25, F_23, F_26, F_27, ⟨_, K_29⟩, ⟨_, K_31⟩, ne_32, ge, geb_2, geb_13⟩⟩ (by simp) (by decide) (by decide)
set_option maxRecDepth 65536 in
set_option maxHeartbeats 40000000 in
theorem ok_room {l : Launch} {Z : State} {a0 : Array Value} (hw : ∀ d ∈ tables_1, d.before a0 Z = true) {n0 : Nat} (x a b : Addr) {ts en : List Int32} {cap : Nat} (hl : ts.length < 256) {h0 : Heap} (F : RB Z h0 n0 x a b ts en cap) :
    Ok false l Z [] n0 [] (⟨"com/example/chunkwise/chunkwise/item/RecordBuilder", "room", "(I)V"⟩ : MethodName) prog_61_method_9_code 2 (Option.none : Option Jvm.ClassFile.FieldType) ({ frames := 0, cells := 0, slots := 0, locals := 0 } : Room) #[(.ref x), (.int (1 : Int32))] h0 (fun v h => v = none ∧ h = h0) (fun _ => []) := by
  refine Ok.of_run (ls0 := #[.val (.ref x), .val (.int (1 : Int32))]) (plainFor_of_name (by first | (simp [plainName, overriddenIn]; done) | decide +kernel)) (fun m => by first | (simp [entryFrame, mkF, argsToLocals, Value.category]; done) | rfl) rfl ?_
  refine Run.old fun hO => ?_
  have hn0 : n0 ≤ h0.size := hO.1 ▸ hO.2.1
  obtain ⟨q_1, q_2, q_3, q_4, q_5, ⟨ka_12, q_6⟩, ⟨kb_13, q_7⟩, q_8, q_9, q_10, q_11⟩ := F
  have ne_14 : x ≠ a := Exa.neArv q_1 q_6 (wd1 hw)
  have ne_15 : x ≠ b := Exa.neArv q_1 q_7 (wd1 hw)
  have lt_16 : @LT.lt Nat instLTNat x (Array.size h0) := Exa.lt q_1
  have lt_17 : @LT.lt Nat instLTNat a (Array.size h0) := Arv.lt q_6
  have lt_18 : @LT.lt Nat instLTNat b (Array.size h0) := Arv.lt q_7
  refine r_aloadN d4_0 rfl rfl rfl ?_
  refine r_getfield (host := "") d4_1 rfl (Or.inl (wd24 hw)) Via.refl q_4 ?_
  refine r_iloadN d4_4 rfl rfl ?_
  refine r_iadd d4_5 rfl ?_
  refine r_aloadN d4_6 rfl rfl rfl ?_
  refine r_getfield (host := "") d4_7 rfl (Or.inl (wd10 hw)) Via.refl q_2 ?_
  refine r_arraylength d4_10 rfl q_6 ?_
  refine r_icmple (pc2 := 41) d4_11 rfl rfl (fun _ => ?_) (fun cc => absurd cc (by rw [show Int32.ofNat ts.length + (1 : Int32) = Int32.ofNat (ts.length + 1) from (inc_ofNat _).symm]; exact ofNat_nlt (by omega) (by omega)))
  exact r_return d4_41 rfl ⟨rfl, rfl⟩ (by simp) (by decide) (by decide)
set_option maxRecDepth 65536 in
set_option maxHeartbeats 40000000 in
theorem ok_app {l : Launch} {Z : State} {a0 : Array Value} (hw : ∀ d ∈ tables_1, d.before a0 Z = true) {n0 : Nat} (x a b : Addr) {ts en : List Int32} {cap : Nat} (c : Int32) (hc : nar .char c = c) (hl : ts.length < 256) {h0 : Heap} (F : RB Z h0 n0 x a b ts en cap) :
    Ok false l Z [] n0 [] (⟨"com/example/chunkwise/chunkwise/item/RecordBuilder", "append", "(C)V"⟩ : MethodName) prog_61_method_4_code 2 (Option.none : Option Jvm.ClassFile.FieldType) ({ frames := 1, cells := 0, slots := 0, locals := 13 } : Room) #[(.ref x), (.int c)] h0 (fun v h => v = none ∧ Keep h0 h [x, a] ∧ RB Z h n0 x a b (ts ++ [c]) en cap) (fun _ => []) := by
  refine Ok.of_run (ls0 := #[.val (.ref x), .val (.int c)]) (plainFor_of_name (by first | (simp [plainName, overriddenIn]; done) | decide +kernel)) (fun m => by first | (simp [entryFrame, mkF, argsToLocals, Value.category]; done) | rfl) rfl ?_
  refine Run.old fun hO => ?_
  have hn0 : n0 ≤ h0.size := hO.1 ▸ hO.2.1
  obtain ⟨q_1, q_2, q_3, q_4, q_5, ⟨ka_12, q_6⟩, ⟨kb_13, q_7⟩, q_8, q_9, q_10, q_11⟩ := (id F)
  have ne_14 : x ≠ a := Exa.neArv q_1 q_6 (wd1 hw)
  have ne_15 : x ≠ b := Exa.neArv q_1 q_7 (wd1 hw)
  have lt_16 : @LT.lt Nat instLTNat x (Array.size h0) := Exa.lt q_1
  have lt_17 : @LT.lt Nat instLTNat a (Array.size h0) := Arv.lt q_6
  have lt_18 : @LT.lt Nat instLTNat b (Array.size h0) := Arv.lt q_7
  refine r_aloadN d3_0 rfl rfl rfl ?_
  refine r_iconst (v := 1) d3_1 rfl rfl ?_
  refine r_private (y := (⟨"com/example/chunkwise/chunkwise/item/RecordBuilder", "room", "(I)V"⟩ : MethodName)) (argsL := [(.int (1 : Int32))]) (rest := []) (W := 0) (kc := 0) (ks := 0) (wl := []) d3_2 rfl (wd20 hw) (wd21 hw) (selP (wd22 hw) (wd21 hw) (wd1 hw) (by decide)) (wd22 hw) (wd23 hw) (by decide) q_1 (lenOf pd_8 rfl) rfl rfl (Nat.le_of_ble_eq_true rfl) (Ok.pays (ok_room hw x a b hl F) (wd23 hw) (wd2 hw) (by decide) (by decide)) (fun v h' q => q.2 ▸ Keep.refl _ _) all0 (by decide) (by decide) ?_
  rintro _ h_19 ⟨rfl, eqh⟩
  subst h_19
  refine Run.cast (st' := []) rfl ?_
  refine r_aloadN d3_5 rfl rfl rfl ?_
  refine r_getfield (host := "") d3_6 rfl (Or.inl (wd10 hw)) Via.refl q_2 ?_
  refine r_aloadN d3_9 rfl rfl rfl ?_
  refine r_dup d3_10 rfl rfl ?_
  refine r_getfield (host := "") d3_11 rfl (Or.inl (wd24 hw)) Via.refl q_4 ?_
  refine r_dupX1 d3_14 rfl rfl rfl ?_
  refine r_iconst (v := 1) d3_15 rfl rfl ?_
  refine r_iadd d3_16 rfl ?_
  refine r_putfield (ty := .int) (v' := (.int ((Int32.ofNat ts.length) + (1 : Int32)))) d3_17 rfl (wd24 hw) Via.refl q_4 q_1 (Or.inl (wd25 hw)) (wd1 hw) (by decide) rfl rfl q_9 (Or.inl rfl) ?_
  intro h_20 W_21
  have szh_20 := Wr.size W_21
  have F_22 : Fld Z h_20 x "com/example/chunkwise/chunkwise/item/RecordBuilder" "length" "I" (.int ((Int32.ofNat ts.length) + (1 : Int32))) := Fld.same W_21 q_4
  refine r_iloadN d3_20 rfl rfl ?_
  have K_23 : Arv Z h_20 a ka_12 .char (Int32.ofNat 256) (ts.map Value.int) (.int 0) := (Arv.other q_6 W_21 (Ne.symm ne_14))
  have K_24 := snoc_arv K_23
  refine r_castore ts.length d3_21 rfl K_24 (ofNat_in hl (by decide)) (ofNat_cl (by omega)) (by simp) q_10 ?_
  intro h_25 W_26 K_27
  have szh_25 := Wr.size W_26
  have K_28 : Arv Z h_25 a ka_12 .char (Int32.ofNat 256) ((ts ++ [c]).map Value.int) (.int 0) := by have q := K_27; rw [hc, snoc_set] at q; exact q
  have F_29 : Fld Z h_25 x "com/example/chunkwise/chunkwise/item/RecordBuilder" "length" "I" (.int ((Int32.ofNat ts.length) + (1 : Int32))) := (Fld.other W_26 F_22 (Or.inl ne_14))
  have FL : Fld Z h_25 x "com/example/chunkwise/chunkwise/item/RecordBuilder" "length" "I" (.int (Int32.ofNat (ts ++ [c]).length)) := by rw [List.length_append, show (ts.length + [c].length) = ts.length + 1 from rfl, inc_ofNat]; exact F_29
  have A_30 : Exa Z h_25 x "com/example/chunkwise/chunkwise/item/RecordBuilder" := (Exa.wr W_26 (Exa.wr W_21 q_1))
  have F_31 : Fld Z h_25 x "com/example/chunkwise/chunkwise/item/RecordBuilder" "text" "[C" (.ref a) := (Fld.other W_26 (Fld.other W_21 q_2 (Or.inr (slot_ne (Or.inl (wd11 hw)) (Or.inl (wd25 hw)) (by decide) (t := (.array .char)) (t' := .int) (by decide) (by decide)))) (Or.inl ne_14))
  have F_32 : Fld Z h_25 x "com/example/chunkwise/chunkwise/item/RecordBuilder" "ends" "[I" (.ref b) := (Fld.other W_26 (Fld.other W_21 q_3 (Or.inr (slot_ne (Or.inl (wd14 hw)) (Or.inl (wd25 hw)) (by decide) (t := (.array .int)) (t' := .int) (by decide) (by decide)))) (Or.inl ne_14))
  have F_33 : Fld Z h_25 x "com/example/chunkwise/chunkwise/item/RecordBuilder" "count" "I" (.int (Int32.ofNat en.length)) := (Fld.other W_26 (Fld.other W_21 q_5 (Or.inr (slot_ne (Or.inl (wd32 hw)) (Or.inl (wd25 hw)) (by decide) (t := .int) (t' := .int) (by decide) (by decide)))) (Or.inl ne_14))
  have K_34 : Arv Z h_25 b kb_13 .int (Int32.ofNat cap) (en.map Value.int) (.int 0) := (Arv.other (Arv.other q_7 W_21 (Ne.symm ne_15)) W_26 (Ne.symm q_8))
  exact r_return d3_22 rfl ⟨rfl, (Keep.wr (Keep.wr (Keep.refl _ _) W_21 (Or.inl (by simp))) W_26 (Or.inl (by simp))), ⟨A_30, F_31, F_32, FL, F_33, ⟨_, K_28⟩, ⟨_, K_34⟩, q_8, q_9, q_10, q_11⟩⟩ (by simp) (by decide) (by decide)
set_option maxRecDepth 65536 in
set_option maxHeartbeats 40000000 in
theorem ok_end {l : Launch} {Z : State} {a0 : Array Value} (hw : ∀ d ∈ tables_1, d.before a0 Z = true) {n0 : Nat} (x a b : Addr) {ts en : List Int32} {cap : Nat} (hl : en.length < cap) (hc : cap ≤ 32) {h0 : Heap} (F : RB Z h0 n0 x a b ts en cap) :
    Ok false l Z [] n0 [] (⟨"com/example/chunkwise/chunkwise/item/RecordBuilder", "endValue", "()V"⟩ : MethodName) prog_61_method_5_code 1 (Option.none : Option Jvm.ClassFile.FieldType) ({ frames := 0, cells := 0, slots := 0, locals := 0 } : Room) #[(.ref x)] h0 (fun v h => v = none ∧ Keep h0 h [x, b] ∧ RB Z h n0 x a b ts (en ++ [Int32.ofNat ts.length]) cap) (fun _ => []) := by
  refine Ok.of_run (ls0 := #[.val (.ref x)]) (plainFor_of_name (by first | (simp [plainName, overriddenIn]; done) | decide +kernel)) (fun m => by first | (simp [entryFrame, mkF, argsToLocals, Value.category]; done) | rfl) rfl ?_
  refine Run.old fun hO => ?_
  have hn0 : n0 ≤ h0.size := hO.1 ▸ hO.2.1
  obtain ⟨q_1, q_2, q_3, q_4, q_5, ⟨ka_12, q_6⟩, ⟨kb_13, q_7⟩, q_8, q_9, q_10, q_11⟩ := F
  have ne_14 : x ≠ a := Exa.neArv q_1 q_6 (wd1 hw)
  have ne_15 : x ≠ b := Exa.neArv q_1 q_7 (wd1 hw)
  have lt_16 : @LT.lt Nat instLTNat x (Array.size h0) := Exa.lt q_1
  have lt_17 : @LT.lt Nat instLTNat a (Array.size h0) := Arv.lt q_6
  have lt_18 : @LT.lt Nat instLTNat b (Array.size h0) := Arv.lt q_7
  refine r_aloadN d5_0 rfl rfl rfl ?_
  refine r_getfield (host := "") d5_1 rfl (Or.inl (wd31 hw)) Via.refl q_5 ?_
  refine r_aloadN d5_4 rfl rfl rfl ?_
  refine r_getfield (host := "") d5_5 rfl (Or.inl (wd13 hw)) Via.refl q_3 ?_
  refine r_arraylength d5_8 rfl q_7 ?_
  refine r_icmpne (pc2 := 29) d5_9 rfl rfl (fun _ => ?_) (fun cc => absurd (ofNat_inj' (by omega) (by omega) cc) (by omega))
  refine r_aloadN d5_29 rfl rfl rfl ?_
  refine r_getfield (host := "") d5_30 rfl (Or.inl (wd13 hw)) Via.refl q_3 ?_
  refine r_aloadN d5_33 rfl rfl rfl ?_
  refine r_dup d5_34 rfl rfl ?_
  refine r_getfield (host := "") d5_35 rfl (Or.inl (wd31 hw)) Via.refl q_5 ?_
  refine r_dupX1 d5_38 rfl rfl rfl ?_
  refine r_iconst (v := 1) d5_39 rfl rfl ?_
  refine r_iadd d5_40 rfl ?_
  refine r_putfield (ty := .int) (v' := (.int ((Int32.ofNat en.length) + (1 : Int32)))) d5_41 rfl (wd31 hw) Via.refl q_5 q_1 (Or.inl (wd32 hw)) (wd1 hw) (by decide) rfl rfl q_9 (Or.inl rfl) ?_
  intro h_19 W_20
  have szh_19 := Wr.size W_20
  have F_21 : Fld Z h_19 x "com/example/chunkwise/chunkwise/item/RecordBuilder" "count" "I" (.int ((Int32.ofNat en.length) + (1 : Int32))) := Fld.same W_20 q_5
  refine r_aloadN d5_44 rfl rfl rfl ?_
  have F_22 : Fld Z h_19 x "com/example/chunkwise/chunkwise/item/RecordBuilder" "length" "I" (.int (Int32.ofNat ts.length)) := (Fld.other W_20 q_4 (Or.inr (slot_ne (Or.inl (wd25 hw)) (Or.inl (wd32 hw)) (by decide) (t := .int) (t' := .int) (by decide) (by decide))))
  refine r_getfield (host := "") d5_45 rfl (Or.inl (wd24 hw)) Via.refl F_22 ?_
  have K_23 : Arv Z h_19 b kb_13 .int (Int32.ofNat cap) (en.map Value.int) (.int 0) := (Arv.other q_7 W_20 (Ne.symm ne_15))
  have K_24 := snoc_arv K_23
  refine r_iastore en.length d5_48 rfl K_24 (ofNat_in (by omega) (by omega)) (ofNat_cl (by omega)) (by simp) q_11 ?_
  intro h_25 W_26 K_27
  have szh_25 := Wr.size W_26
  have K_28 : Arv Z h_25 b kb_13 .int (Int32.ofNat cap) ((en ++ [Int32.ofNat ts.length]).map Value.int) (.int 0) := by have q := K_27; rw [snoc_set] at q; exact q
  have F_29 : Fld Z h_25 x "com/example/chunkwise/chunkwise/item/RecordBuilder" "count" "I" (.int ((Int32.ofNat en.length) + (1 : Int32))) := (Fld.other W_26 F_21 (Or.inl ne_15))
  have FL : Fld Z h_25 x "com/example/chunkwise/chunkwise/item/RecordBuilder" "count" "I" (.int (Int32.ofNat (en ++ [Int32.ofNat ts.length]).length)) := by rw [List.length_append, show (en.length + [Int32.ofNat ts.length].length) = en.length + 1 from rfl, inc_ofNat]; exact F_29
  have A_30 : Exa Z h_25 x "com/example/chunkwise/chunkwise/item/RecordBuilder" := (Exa.wr W_26 (Exa.wr W_20 q_1))
  have F_31 : Fld Z h_25 x "com/example/chunkwise/chunkwise/item/RecordBuilder" "text" "[C" (.ref a) := (Fld.other W_26 (Fld.other W_20 q_2 (Or.inr (slot_ne (Or.inl (wd11 hw)) (Or.inl (wd32 hw)) (by decide) (t := (.array .char)) (t' := .int) (by decide) (by decide)))) (Or.inl ne_15))
  have F_32 : Fld Z h_25 x "com/example/chunkwise/chunkwise/item/RecordBuilder" "ends" "[I" (.ref b) := (Fld.other W_26 (Fld.other W_20 q_3 (Or.inr (slot_ne (Or.inl (wd14 hw)) (Or.inl (wd32 hw)) (by decide) (t := (.array .int)) (t' := .int) (by decide) (by decide)))) (Or.inl ne_15))
  have F_33 : Fld Z h_25 x "com/example/chunkwise/chunkwise/item/RecordBuilder" "length" "I" (.int (Int32.ofNat ts.length)) := (Fld.other W_26 F_22 (Or.inl ne_15))
  have K_34 : Arv Z h_25 a ka_12 .char (Int32.ofNat 256) (ts.map Value.int) (.int 0) := (Arv.other (Arv.other q_6 W_20 (Ne.symm ne_14)) W_26 q_8)
  exact r_return d5_49 rfl ⟨rfl, (Keep.wr (Keep.wr (Keep.refl _ _) W_20 (Or.inl (by simp))) W_26 (Or.inl (by simp))), ⟨A_30, F_31, F_32, F_33, FL, ⟨_, K_34⟩, ⟨_, K_28⟩, q_8, q_9, q_10, q_11⟩⟩ (by simp) (by decide) (by decide)
theorem own_range (bs : List Int32) (i n : Nat) (h : i + n ≤ bs.length) : ((bs.drop i).take n).map Value.int = (List.range n).map fun q => (bs.map Value.int).getD (i + q) (.int 0) := by
  apply List.ext_getElem
  · simp; omega
  · intro q h1 h2
    simp only [List.length_map, List.length_range] at h2
    simp only [List.getElem_map, List.getElem_take, List.getElem_drop, List.getElem_range, getD_map]
    rw [List.getD_eq_getElem?_getD, List.getElem?_eq_getElem (by omega)]
    rfl
set_option maxRecDepth 65536 in
set_option maxHeartbeats 40000000 in
theorem ok_cpi {l : Launch} {Z : State} {a0 : Array Value} (hw : ∀ d ∈ tables_1, d.before a0 Z = true) {n0 : Nat} (b : Addr) {k : ClassId} {en : List Int32} (hl : en.length = 16) {h0 : Heap} (K : Arv Z h0 b k .int (16 : Int32) (en.map Value.int) (.int 0)) :
    Ok false l Z [] n0 [] (⟨"java/util/Arrays", "copyOf", "([II)[I"⟩ : MethodName) jdk_65_method_123_code 3 (Option.some (Jvm.ClassFile.FieldType.array Jvm.ClassFile.FieldType.int)) ({ frames := 1, cells := 1, slots := 32, locals := 20 } : Room) #[(.ref b), (.int (32 : Int32))] h0 (fun v h => ∃ (b2 : Addr) (k2 : ClassId), v = some (.ref b2) ∧ Keep h0 h [] ∧ @LE.le Nat instLENat h0.size b2 ∧ Arv Z h b2 k2 .int (32 : Int32) (en.map Value.int) (.int 0)) (fun _ => []) := by
  refine Ok.of_run (ls0 := #[.val (.ref b), .val (.int (32 : Int32)), .unset]) (plainFor_of_name (by first | (simp [plainName, overriddenIn]; done) | decide +kernel)) (fun m => by first | (simp [entryFrame, mkF, argsToLocals, Value.category]; done) | rfl) rfl ?_
  refine Run.old fun hO => ?_
  have hn0 : n0 ≤ h0.size := hO.1 ▸ hO.2.1
  have lt_1 : @LT.lt Nat instLTNat b (Array.size h0) := K.lt
  refine r_iloadN d25_0 rfl rfl ?_
  refine r_aloadN d25_1 rfl rfl rfl ?_
  refine r_arraylength d25_2 rfl K ?_
  refine r_icmpne (pc2 := 14) d25_3 rfl rfl (fun _ => ?_) (fun cc => absurd cc (by decide))
  refine r_iloadN d25_14 rfl rfl ?_
  refine r_newP (cap := 32) (ad := "[I") d25_15 rfl (wd12 hw) (by decide) (by decide) (by decide) (by decide) (by decide) (by decide) ?_
  intro h_3 b_2 k_7 gb_2 ltb_2 E_4 A_5 K_6
  have szh_3 := E_4.1
  have geb_2 : n0 ≤ b_2 := by omega
  have K_8 : Arv Z h_3 b_2 k_7 .int (32 : Int32) [(.int 0), (.int 0), (.int 0), (.int 0), (.int 0), (.int 0), (.int 0), (.int 0), (.int 0), (.int 0), (.int 0), (.int 0), (.int 0), (.int 0), (.int 0), (.int 0), (.int 0), (.int 0), (.int 0), (.int 0), (.int 0), (.int 0), (.int 0), (.int 0), (.int 0), (.int 0), (.int 0), (.int 0), (.int 0), (.int 0), (.int 0), (.int 0)] (.int 0) := Arv.pad K_6 (pad_rep [] (.int 0) 32)
  refine r_astoreN (l' := #[.val (.ref b), .val (.int (32 : Int32)), .val (.ref b_2)]) d25_17 rfl rfl rfl ?_
  refine r_aloadN d25_18 rfl rfl rfl ?_
  refine r_iconst (v := 0) d25_19 rfl rfl ?_
  refine r_aloadN d25_20 rfl rfl rfl ?_
  refine r_iconst (v := 0) d25_21 rfl rfl ?_
  refine r_aloadN d25_22 rfl rfl rfl ?_
  have K_9 : Arv Z h_3 b k .int (16 : Int32) (en.map Value.int) (.int 0) := (K.ext E_4)
  refine r_arraylength d25_23 rfl K_9 ?_
  refine r_iloadN d25_24 rfl rfl ?_
  refine r_static (y := (⟨"java/lang/Math", "min", "(II)I"⟩ : MethodName)) (argsL := [(.int (16 : Int32)), (.int (32 : Int32))]) (rest := [(.int (0 : Int32)), (.ref b_2), (.int (0 : Int32)), (.ref b)]) (W := 4) (kc := 0) (ks := 0) (wl := []) d25_25 rfl (wd127 hw) (wd128 hw) (wd129 hw) (wd130 hw) (by decide) (lenOf pd_9 rfl) rfl rfl (Nat.le_of_ble_eq_true rfl) (Ok.pays (ok_min hw 16 32) (wd130 hw) (wd129 hw) (by decide) (by decide)) (fun v h' q => q.2 ▸ Keep.refl _ _) all0 (by decide) (by decide) ?_
  rintro _ h_10 ⟨rfl, eqh⟩
  subst h_10
  refine Run.cast (st' := [(.int (imin 16 32)), (.int (0 : Int32)), (.ref b_2), (.int (0 : Int32)), (.ref b)]) rfl ?_
  rw [show (imin 16 32) = (16 : Int32) from (by decide)]
  have ek : en.length = 16 := hl
  refine r_arraycopy (us := en.map Value.int) (W := 0) d25_28 rfl (wd131 hw) (wd134 hw) (wd132 hw) (wd133 hw) K_9 K_8 (Or.inl ⟨rfl, rfl⟩) (by decide) (by decide) (by decide) (by decide) (by decide) (by rw [show (0 : Int32).toNatClampNeg = 0 from rfl, show (16 : Int32).toNatClampNeg = 16 from rfl]; have q := own_range en 0 16 (by omega); rw [List.drop_zero, List.take_of_length_le (by omega)] at q; exact q) (by decide) geb_2 (Or.inl rfl) (by decide) (Nat.le_of_ble_eq_true rfl) (by decide) ?_
  intro h_11 KC KA
  have szh_11 := KC.1
  have KB : Arv Z h_11 b_2 k_7 .int (32 : Int32) (en.map Value.int) (.int 0) := by
    refine Arv.pad KA fun i => ?_
    have q := pad_rep (en.map Value.int) (.int 0) 16 i; exact q.symm
  refine r_aloadN d25_31 rfl rfl rfl ?_
  exact r_areturn d25_32 rfl rfl rfl rfl ⟨b_2, k_7, rfl, (Keep.trans (Keep.ext (Keep.refl _ _) E_4) KC (allS (Or.inr (by omega)) all0)), by omega, KB⟩ (by simp) (by decide) (by decide)
set_option maxRecDepth 65536 in
set_option maxHeartbeats 40000000 in
theorem ok_endg {l : Launch} {Z : State} {a0 : Array Value} (hw : ∀ d ∈ tables_1, d.before a0 Z = true) {n0 : Nat} (x a b : Addr) {ts en : List Int32} (hl : en.length = 16) {h0 : Heap} (F : RB Z h0 n0 x a b ts en 16) :
    Ok false l Z [] n0 [] (⟨"com/example/chunkwise/chunkwise/item/RecordBuilder", "endValue", "()V"⟩ : MethodName) prog_61_method_5_code 1 (Option.none : Option Jvm.ClassFile.FieldType) ({ frames := 2, cells := 1, slots := 32, locals := 35 } : Room) #[(.ref x)] h0 (fun v h => v = none ∧ Keep h0 h [x] ∧ ∃ b2 : Addr, @LE.le Nat instLENat h0.size b2 ∧ RB Z h n0 x a b2 ts (en ++ [Int32.ofNat ts.length]) 32) (fun _ => []) := by
  refine Ok.of_run (ls0 := #[.val (.ref x)]) (plainFor_of_name (by first | (simp [plainName, overriddenIn]; done) | decide +kernel)) (fun m => by first | (simp [entryFrame, mkF, argsToLocals, Value.category]; done) | rfl) rfl ?_
  refine Run.old fun hO => ?_
  have hn0 : n0 ≤ h0.size := hO.1 ▸ hO.2.1
  obtain ⟨q_1, q_2, q_3, q_4, q_5, ⟨ka_12, q_6⟩, ⟨kb_13, q_7⟩, q_8, q_9, q_10, q_11⟩ := F
  have ne_14 : x ≠ a := Exa.neArv q_1 q_6 (wd1 hw)
  have ne_15 : x ≠ b := Exa.neArv q_1 q_7 (wd1 hw)
  have lt_16 : @LT.lt Nat instLTNat x (Array.size h0) := Exa.lt q_1
  have lt_17 : @LT.lt Nat instLTNat a (Array.size h0) := Arv.lt q_6
  have lt_18 : @LT.lt Nat instLTNat b (Array.size h0) := Arv.lt q_7
  refine r_aloadN d5_0 rfl rfl rfl ?_
  refine r_getfield (host := "") d5_1 rfl (Or.inl (wd31 hw)) Via.refl q_5 ?_
  refine r_aloadN d5_4 rfl rfl rfl ?_
  refine r_getfield (host := "") d5_5 rfl (Or.inl (wd13 hw)) Via.refl q_3 ?_
  refine r_arraylength d5_8 rfl q_7 ?_
  refine r_icmpne (pc2 := 29) d5_9 rfl rfl (fun cc => absurd (by rw [hl]) cc) (fun _ => ?_)
  refine r_aloadN d5_12 rfl rfl rfl ?_
  refine r_aloadN d5_13 rfl rfl rfl ?_
  refine r_getfield (host := "") d5_14 rfl (Or.inl (wd13 hw)) Via.refl q_3 ?_
  refine r_iconst (v := 2) d5_17 rfl rfl ?_
  refine r_aloadN d5_18 rfl rfl rfl ?_
  refine r_getfield (host := "") d5_19 rfl (Or.inl (wd31 hw)) Via.refl q_5 ?_
  refine r_imul d5_22 rfl ?_
  rw [show ((2 : Int32) * (Int32.ofNat en.length)) = (32 : Int32) from (by rw [hl]; rfl)]
  refine r_static (y := (⟨"java/util/Arrays", "copyOf", "([II)[I"⟩ : MethodName)) (argsL := [(.ref b), (.int (32 : Int32))]) (rest := [(.ref x)]) (W := 1) (kc := 1) (ks := 32) (wl := []) d5_23 rfl (wd123 hw) (wd124 hw) (wd125 hw) (wd126 hw) (by decide) (lenOf pd_10 rfl) rfl rfl (Nat.le_of_ble_eq_true rfl) (Ok.pays (ok_cpi hw b hl q_7) (wd126 hw) (wd125 hw) (by decide) (by decide)) (fun v h' q => by obtain ⟨_, _, _, K, _⟩ := q; exact K) all0 (by decide) (by decide) ?_
  rintro _ h_19 ⟨b2, k2, rfl, KK, hge, K2⟩
  refine Run.cast (st' := [(.ref b2), (.ref x)]) rfl ?_
  have szh_19 := KK.1
  have lt_20 : @LT.lt Nat instLTNat b2 (Array.size h_19) := K2.lt
  have gb2 : n0 ≤ b2 := Nat.le_trans hn0 hge
  have ne_21 : @Ne Nat a b2 := by omega
  have ne_22 : @Ne Nat x b2 := by omega
  have F_23 : Fld Z h_19 x "com/example/chunkwise/chunkwise/item/RecordBuilder" "ends" "[I" (.ref b) := (Fld.keep q_3 KK nin0)
  have A_24 : Exa Z h_19 x "com/example/chunkwise/chunkwise/item/RecordBuilder" := (Exa.keep q_1 KK)
  refine r_putfield (ty := (.array .int)) (v' := (.ref b2)) d5_26 rfl (wd13 hw) Via.refl F_23 A_24 (Or.inl (wd14 hw)) (wd1 hw) (by decide) rfl rfl q_9 (Or.inl rfl) ?_
  intro h_25 W_26
  have szh_25 := Wr.size W_26
  have F_27 : Fld Z h_25 x "com/example/chunkwise/chunkwise/item/RecordBuilder" "ends" "[I" (.ref b2) := Fld.same W_26 F_23
  refine r_aloadN d5_29 rfl rfl rfl ?_
  refine r_getfield (host := "") d5_30 rfl (Or.inl (wd13 hw)) Via.refl F_27 ?_
  refine r_aloadN d5_33 rfl rfl rfl ?_
  refine r_dup d5_34 rfl rfl ?_
  have F_28 : Fld Z h_25 x "com/example/chunkwise/chunkwise/item/RecordBuilder" "count" "I" (.int (Int32.ofNat en.length)) := (Fld.other W_26 (Fld.keep q_5 KK nin0) (Or.inr (slot_ne (Or.inl (wd32 hw)) (Or.inl (wd14 hw)) (by decide) (t := .int) (t' := (.array .int)) (by decide) (by decide))))
  refine r_getfield (host := "") d5_35 rfl (Or.inl (wd31 hw)) Via.refl F_28 ?_
  refine r_dupX1 d5_38 rfl rfl rfl ?_
  refine r_iconst (v := 1) d5_39 rfl rfl ?_
  refine r_iadd d5_40 rfl ?_
  have A_29 : Exa Z h_25 x "com/example/chunkwise/chunkwise/item/RecordBuilder" := (Exa.wr W_26 A_24)
  refine r_putfield (ty := .int) (v' := (.int ((Int32.ofNat en.length) + (1 : Int32)))) d5_41 rfl (wd31 hw) Via.refl F_28 A_29 (Or.inl (wd32 hw)) (wd1 hw) (by decide) rfl rfl q_9 (Or.inl rfl) ?_
  intro h_30 W_31
  have szh_30 := Wr.size W_31
  have F_32 : Fld Z h_30 x "com/example/chunkwise/chunkwise/item/RecordBuilder" "count" "I" (.int ((Int32.ofNat en.length) + (1 : Int32))) := Fld.same W_31 F_28
  refine r_aloadN d5_44 rfl rfl rfl ?_
  have F_33 : Fld Z h_30 x "com/example/chunkwise/chunkwise/item/RecordBuilder" "length" "I" (.int (Int32.ofNat ts.length)) := (Fld.other W_31 (Fld.other W_26 (Fld.keep q_4 KK nin0) (Or.inr (slot_ne (Or.inl (wd25 hw)) (Or.inl (wd14 hw)) (by decide) (t := .int) (t' := (.array .int)) (by decide) (by decide)))) (Or.inr (slot_ne (Or.inl (wd25 hw)) (Or.inl (wd32 hw)) (by decide) (t := .int) (t' := .int) (by decide) (by decide))))
  refine r_getfield (host := "") d5_45 rfl (Or.inl (wd24 hw)) Via.refl F_33 ?_
  have K_34 : Arv Z h_30 b2 k2 .int (Int32.ofNat 32) (en.map Value.int) (.int 0) := (Arv.other (Arv.other K2 W_26 (Ne.symm ne_22)) W_31 (Ne.symm ne_22))
  have K_35 := snoc_arv K_34
  refine r_iastore en.length d5_48 rfl K_35 (ofNat_in (by omega) (by omega)) (ofNat_cl (by omega)) (by simp) gb2 ?_
  intro h_36 W_37 K_38
  have szh_36 := Wr.size W_37
  have K_39 : Arv Z h_36 b2 k2 .int (Int32.ofNat 32) ((en ++ [Int32.ofNat ts.length]).map Value.int) (.int 0) := by have q := K_38; rw [snoc_set] at q; exact q
  have F_40 : Fld Z h_36 x "com/example/chunkwise/chunkwise/item/RecordBuilder" "count" "I" (.int ((Int32.ofNat en.length) + (1 : Int32))) := (Fld.other W_37 F_32 (Or.inl ne_22))
  have FL : Fld Z h_36 x "com/example/chunkwise/chunkwise/item/RecordBuilder" "count" "I" (.int (Int32.ofNat (en ++ [Int32.ofNat ts.length]).length)) := by rw [List.length_append, show (en.length + [Int32.ofNat ts.length].length) = en.length + 1 from rfl, inc_ofNat]; exact F_40
  have A_41 : Exa Z h_36 x "com/example/chunkwise/chunkwise/item/RecordBuilder" := (Exa.wr W_37 (Exa.wr W_31 A_29))
  have F_42 : Fld Z h_36 x "com/example/chunkwise/chunkwise/item/RecordBuilder" "text" "[C" (.ref a) := (Fld.other W_37 (Fld.other W_31 (Fld.other W_26 (Fld.keep q_2 KK nin0) (Or.inr (slot_ne (Or.inl (wd11 hw)) (Or.inl (wd14 hw)) (by decide) (t := (.array .char)) (t' := (.array .int)) (by decide) (by decide)))) (Or.inr (slot_ne (Or.inl (wd11 hw)) (Or.inl (wd32 hw)) (by decide) (t := (.array .char)) (t' := .int) (by decide) (by decide)))) (Or.inl ne_22))
  have F_43 : Fld Z h_36 x "com/example/chunkwise/chunkwise/item/RecordBuilder" "ends" "[I" (.ref b2) := (Fld.other W_37 (Fld.other W_31 F_27 (Or.inr (slot_ne (Or.inl (wd14 hw)) (Or.inl (wd32 hw)) (by decide) (t := (.array .int)) (t' := .int) (by decide) (by decide)))) (Or.inl ne_22))
  have F_44 : Fld Z h_36 x "com/example/chunkwise/chunkwise/item/RecordBuilder" "length" "I" (.int (Int32.ofNat ts.length)) := (Fld.other W_37 F_33 (Or.inl ne_22))
  have K_45 : Arv Z h_36 a ka_12 .char (Int32.ofNat 256) (ts.map Value.int) (.int 0) := (Arv.other (Arv.other (Arv.other (Arv.keep q_6 KK nin0) W_26 (Ne.symm ne_14)) W_31 (Ne.symm ne_14)) W_37 ne_21)
  exact r_return d5_49 rfl ⟨rfl, (Keep.wr (Keep.wr (Keep.wr (Keep.trans (Keep.refl _ _) KK all0) W_26 (Or.inl (by simp))) W_31 (Or.inl (by simp))) W_37 (Or.inr (by omega))), b2, hge, ⟨A_41, F_42, F_43, F_44, FL, ⟨_, K_45⟩, ⟨_, K_39⟩, ne_21, q_9, q_10, gb2⟩⟩ (by simp) (by decide) (by decide)
def en4 (ts en : List Int32) : List Int32 := en ++ [Int32.ofNat ts.length, Int32.ofNat ts.length, Int32.ofNat ts.length, Int32.ofNat ts.length]
set_option maxRecDepth 65536 in
set_option maxHeartbeats 40000000 in
theorem ok_four {l : Launch} {Z : State} {a0 : Array Value} (hw : ∀ d ∈ tables_1, d.before a0 Z = true) {n0 : Nat} (x a b : Addr) {ts en : List Int32} {cap : Nat} (hl : en.length + 4 ≤ cap) (hc : cap ≤ 32) {h0 : Heap} (F : RB Z h0 n0 x a b ts en cap) :
    Ok false l Z [] n0 [] (⟨"com/example/chunkwise/chunkwise/item/RecordBuilderEndValuePinLaw", "four", "(Lcom/example/chunkwise/chunkwise/item/RecordBuilder;)V"⟩ : MethodName) method_3_code 1 (Option.none : Option Jvm.ClassFile.FieldType) ({ frames := 1, cells := 0, slots := 0, locals := 12 } : Room) #[(.ref x)] h0 (fun v h => v = none ∧ Keep h0 h [x, b] ∧ RB Z h n0 x a b ts (en ++ [Int32.ofNat ts.length, Int32.ofNat ts.length, Int32.ofNat ts.length, Int32.ofNat ts.length]) cap) (fun _ => []) := by
  refine Ok.of_run (ls0 := #[.val (.ref x)]) (plainFor_of_name (by first | (simp [plainName, overriddenIn]; done) | decide +kernel)) (fun m => by first | (simp [entryFrame, mkF, argsToLocals, Value.category]; done) | rfl) rfl ?_
  refine Run.old fun hO => ?_
  have hn0 : n0 ≤ h0.size := hO.1 ▸ hO.2.1
  refine r_aloadN d24_0 rfl rfl rfl ?_
  refine r_virtual (y := (⟨"com/example/chunkwise/chunkwise/item/RecordBuilder", "endValue", "()V"⟩ : MethodName)) (argsL := []) (rest := []) (W := 0) (kc := 0) (ks := 0) (wl := [x, b]) d24_1 rfl (wd26 hw) (wd27 hw) (wd29 hw) (wd28 hw) (by decide) ⟨rfl, rfl⟩ (RB.exa F) (lenOf pd_11 rfl) rfl rfl (Nat.le_of_ble_eq_true rfl) (Ok.pays (ok_end hw x a b (by first | omega | (simp only [List.length_append, List.length_cons, List.length_nil]; omega)) hc F) (wd30 hw) (wd2 hw) (by decide) (by decide)) (fun v h' q => q.2.1) (allS ⟨(RB.gx F), (Or.inl rfl)⟩ (allS ⟨(RB.gb F), (Or.inl rfl)⟩ all0)) (by decide) (by decide) ?_
  rintro _ h_3 ⟨rfl, KK_1, FF_2⟩
  refine Run.cast (st' := []) rfl ?_
  have szh_3 := KK_1.1
  refine r_aloadN d24_4 rfl rfl rfl ?_
  refine r_virtual (y := (⟨"com/example/chunkwise/chunkwise/item/RecordBuilder", "endValue", "()V"⟩ : MethodName)) (argsL := []) (rest := []) (W := 0) (kc := 0) (ks := 0) (wl := [x, b]) d24_5 rfl (wd26 hw) (wd27 hw) (wd29 hw) (wd28 hw) (by decide) ⟨rfl, rfl⟩ (RB.exa FF_2) (lenOf pd_11 rfl) rfl rfl (Nat.le_of_ble_eq_true rfl) (Ok.pays (ok_end hw x a b (by first | omega | (simp only [List.length_append, List.length_cons, List.length_nil]; omega)) hc FF_2) (wd30 hw) (wd2 hw) (by decide) (by decide)) (fun v h' q => q.2.1) (allS ⟨(RB.gx FF_2), (Or.inl rfl)⟩ (allS ⟨(RB.gb FF_2), (Or.inl rfl)⟩ all0)) (by decide) (by decide) ?_
  rintro _ h_6 ⟨rfl, KK_4, FF_5⟩
  refine Run.cast (st' := []) rfl ?_
  have szh_6 := KK_4.1
  refine r_aloadN d24_8 rfl rfl rfl ?_
  refine r_virtual (y := (⟨"com/example/chunkwise/chunkwise/item/RecordBuilder", "endValue", "()V"⟩ : MethodName)) (argsL := []) (rest := []) (W := 0) (kc := 0) (ks := 0) (wl := [x, b]) d24_9 rfl (wd26 hw) (wd27 hw) (wd29 hw) (wd28 hw) (by decide) ⟨rfl, rfl⟩ (RB.exa FF_5) (lenOf pd_11 rfl) rfl rfl (Nat.le_of_ble_eq_true rfl) (Ok.pays (ok_end hw x a b (by first | omega | (simp only [List.length_append, List.length_cons, List.length_nil]; omega)) hc FF_5) (wd30 hw) (wd2 hw) (by decide) (by decide)) (fun v h' q => q.2.1) (allS ⟨(RB.gx FF_5), (Or.inl rfl)⟩ (allS ⟨(RB.gb FF_5), (Or.inl rfl)⟩ all0)) (by decide) (by decide) ?_
  rintro _ h_9 ⟨rfl, KK_7, FF_8⟩
  refine Run.cast (st' := []) rfl ?_
  have szh_9 := KK_7.1
  refine r_aloadN d24_12 rfl rfl rfl ?_
  refine r_virtual (y := (⟨"com/example/chunkwise/chunkwise/item/RecordBuilder", "endValue", "()V"⟩ : MethodName)) (argsL := []) (rest := []) (W := 0) (kc := 0) (ks := 0) (wl := [x, b]) d24_13 rfl (wd26 hw) (wd27 hw) (wd29 hw) (wd28 hw) (by decide) ⟨rfl, rfl⟩ (RB.exa FF_8) (lenOf pd_11 rfl) rfl rfl (Nat.le_of_ble_eq_true rfl) (Ok.pays (ok_end hw x a b (by first | omega | (simp only [List.length_append, List.length_cons, List.length_nil]; omega)) hc FF_8) (wd30 hw) (wd2 hw) (by decide) (by decide)) (fun v h' q => q.2.1) (allS ⟨(RB.gx FF_8), (Or.inl rfl)⟩ (allS ⟨(RB.gb FF_8), (Or.inl rfl)⟩ all0)) (by decide) (by decide) ?_
  rintro _ h_12 ⟨rfl, KK_10, FF_11⟩
  refine Run.cast (st' := []) rfl ?_
  have szh_12 := KK_10.1
  exact r_return d24_16 rfl ⟨rfl, (Keep.trans (Keep.trans (Keep.trans (Keep.trans (Keep.refl _ _) KK_1 (allS (Or.inl (by simp)) (allS (Or.inl (by simp)) all0))) KK_4 (allS (Or.inl (by simp)) (allS (Or.inl (by simp)) all0))) KK_7 (allS (Or.inl (by simp)) (allS (Or.inl (by simp)) all0))) KK_10 (allS (Or.inl (by simp)) (allS (Or.inl (by simp)) all0))), by simpa using FF_11⟩ (by simp) (by decide) (by decide)
set_option maxRecDepth 65536 in
set_option maxHeartbeats 40000000 in
theorem ok_fourg {l : Launch} {Z : State} {a0 : Array Value} (hw : ∀ d ∈ tables_1, d.before a0 Z = true) {n0 : Nat} (x a b : Addr) {ts en : List Int32} (hl : en.length = 14) {h0 : Heap} (F : RB Z h0 n0 x a b ts en 16) :
    Ok false l Z [] n0 [] (⟨"com/example/chunkwise/chunkwise/item/RecordBuilderEndValuePinLaw", "four", "(Lcom/example/chunkwise/chunkwise/item/RecordBuilder;)V"⟩ : MethodName) method_3_code 1 (Option.none : Option Jvm.ClassFile.FieldType) ({ frames := 3, cells := 1, slots := 32, locals := 47 } : Room) #[(.ref x)] h0 (fun v h => v = none ∧ Keep h0 h [x, b] ∧ ∃ b2 : Addr, @LE.le Nat instLENat h0.size b2 ∧ RB Z h n0 x a b2 ts (en ++ [Int32.ofNat ts.length, Int32.ofNat ts.length, Int32.ofNat ts.length, Int32.ofNat ts.length]) 32) (fun _ => []) := by
  refine Ok.of_run (ls0 := #[.val (.ref x)]) (plainFor_of_name (by first | (simp [plainName, overriddenIn]; done) | decide +kernel)) (fun m => by first | (simp [entryFrame, mkF, argsToLocals, Value.category]; done) | rfl) rfl ?_
  refine Run.old fun hO => ?_
  have hn0 : n0 ≤ h0.size := hO.1 ▸ hO.2.1
  refine r_aloadN d24_0 rfl rfl rfl ?_
  refine r_virtual (y := (⟨"com/example/chunkwise/chunkwise/item/RecordBuilder", "endValue", "()V"⟩ : MethodName)) (argsL := []) (rest := []) (W := 0) (kc := 0) (ks := 0) (wl := [x, b]) d24_1 rfl (wd26 hw) (wd27 hw) (wd29 hw) (wd28 hw) (by decide) ⟨rfl, rfl⟩ (RB.exa F) (lenOf pd_11 rfl) rfl rfl (Nat.le_of_ble_eq_true rfl) (Ok.pays (ok_end hw x a b (by first | omega | (simp only [List.length_append, List.length_cons, List.length_nil]; omega)) (by decide) F) (wd30 hw) (wd2 hw) (by decide) (by decide)) (fun v h' q => q.2.1) (allS ⟨(RB.gx F), (Or.inl rfl)⟩ (allS ⟨(RB.gb F), (Or.inl rfl)⟩ all0)) (by decide) (by decide) ?_
  rintro _ h_3 ⟨rfl, KK_1, FF_2⟩
  refine Run.cast (st' := []) rfl ?_
  have szh_3 := KK_1.1
  refine r_aloadN d24_4 rfl rfl rfl ?_
  refine r_virtual (y := (⟨"com/example/chunkwise/chunkwise/item/RecordBuilder", "endValue", "()V"⟩ : MethodName)) (argsL := []) (rest := []) (W := 0) (kc := 0) (ks := 0) (wl := [x, b]) d24_5 rfl (wd26 hw) (wd27 hw) (wd29 hw) (wd28 hw) (by decide) ⟨rfl, rfl⟩ (RB.exa FF_2) (lenOf pd_11 rfl) rfl rfl (Nat.le_of_ble_eq_true rfl) (Ok.pays (ok_end hw x a b (by first | omega | (simp only [List.length_append, List.length_cons, List.length_nil]; omega)) (by decide) FF_2) (wd30 hw) (wd2 hw) (by decide) (by decide)) (fun v h' q => q.2.1) (allS ⟨(RB.gx FF_2), (Or.inl rfl)⟩ (allS ⟨(RB.gb FF_2), (Or.inl rfl)⟩ all0)) (by decide) (by decide) ?_
  rintro _ h_6 ⟨rfl, KK_4, FF_5⟩
  refine Run.cast (st' := []) rfl ?_
  have szh_6 := KK_4.1
  refine r_aloadN d24_8 rfl rfl rfl ?_
  refine r_virtual (y := (⟨"com/example/chunkwise/chunkwise/item/RecordBuilder", "endValue", "()V"⟩ : MethodName)) (argsL := []) (rest := []) (W := 0) (kc := 1) (ks := 32) (wl := [x]) d24_9 rfl (wd26 hw) (wd27 hw) (wd29 hw) (wd28 hw) (by decide) ⟨rfl, rfl⟩ (RB.exa FF_5) (lenOf pd_11 rfl) rfl rfl (Nat.le_of_ble_eq_true rfl) (Ok.pays (ok_endg hw x a b (by first | omega | (simp only [List.length_append, List.length_cons, List.length_nil]; omega)) FF_5) (wd30 hw) (wd2 hw) (by decide) (by decide)) (fun v h' q => q.2.1) (allS ⟨(RB.gx FF_5), (Or.inl rfl)⟩ all0) (by decide) (by decide) ?_
  rintro _ h_10 ⟨rfl, KK_7, b2, hge_9, FF_8⟩
  refine Run.cast (st' := []) rfl ?_
  have szh_10 := KK_7.1
  refine r_aloadN d24_12 rfl rfl rfl ?_
  refine r_virtual (y := (⟨"com/example/chunkwise/chunkwise/item/RecordBuilder", "endValue", "()V"⟩ : MethodName)) (argsL := []) (rest := []) (W := 0) (kc := 0) (ks := 0) (wl := [x, b2]) d24_13 rfl (wd26 hw) (wd27 hw) (wd29 hw) (wd28 hw) (by decide) ⟨rfl, rfl⟩ (RB.exa FF_8) (lenOf pd_11 rfl) rfl rfl (Nat.le_of_ble_eq_true rfl) (Ok.pays (ok_end hw x a b2 (by first | omega | (simp only [List.length_append, List.length_cons, List.length_nil]; omega)) (by decide) FF_8) (wd30 hw) (wd2 hw) (by decide) (by decide)) (fun v h' q => q.2.1) (allS ⟨(RB.gx FF_8), (Or.inl rfl)⟩ (allS ⟨(RB.gb FF_8), (Or.inl rfl)⟩ all0)) (by decide) (by decide) ?_
  rintro _ h_13 ⟨rfl, KK_11, FF_12⟩
  refine Run.cast (st' := []) rfl ?_
  have szh_13 := KK_11.1
  exact r_return d24_16 rfl ⟨rfl, (Keep.trans (Keep.trans (Keep.trans (Keep.trans (Keep.refl _ _) KK_1 (allS (Or.inl (by simp)) (allS (Or.inl (by simp)) all0))) KK_4 (allS (Or.inl (by simp)) (allS (Or.inl (by simp)) all0))) KK_7 (allS (Or.inl (by simp)) all0)) KK_11 (allS (Or.inl (by simp)) (allS (Or.inr (by omega)) all0))), b2, by omega, by simpa using FF_12⟩ (by simp) (by decide) (by decide)
set_option maxRecDepth 65536 in
set_option maxHeartbeats 40000000 in
theorem ok_size {l : Launch} {Z : State} {a0 : Array Value} (hw : ∀ d ∈ tables_1, d.before a0 Z = true) {n0 : Nat} (x a b : Addr) {ts en : List Int32} {cap : Nat} {h0 : Heap} (F : RB Z h0 n0 x a b ts en cap) :
    Ok false l Z [] n0 [] (⟨"com/example/chunkwise/chunkwise/item/RecordBuilder", "size", "()I"⟩ : MethodName) prog_61_method_6_code 1 (Option.some Jvm.ClassFile.FieldType.int) ({ frames := 0, cells := 0, slots := 0, locals := 0 } : Room) #[(.ref x)] h0 (fun v h => v = some (.int (Int32.ofNat en.length)) ∧ h = h0) (fun _ => []) := by
  refine Ok.of_run (ls0 := #[.val (.ref x)]) (plainFor_of_name (by first | (simp [plainName, overriddenIn]; done) | decide +kernel)) (fun m => by first | (simp [entryFrame, mkF, argsToLocals, Value.category]; done) | rfl) rfl ?_
  refine Run.old fun hO => ?_
  have hn0 : n0 ≤ h0.size := hO.1 ▸ hO.2.1
  obtain ⟨q_1, q_2, q_3, q_4, q_5, ⟨ka_12, q_6⟩, ⟨kb_13, q_7⟩, q_8, q_9, q_10, q_11⟩ := F
  have ne_14 : x ≠ a := Exa.neArv q_1 q_6 (wd1 hw)
  have ne_15 : x ≠ b := Exa.neArv q_1 q_7 (wd1 hw)
  have lt_16 : @LT.lt Nat instLTNat x (Array.size h0) := Exa.lt q_1
  have lt_17 : @LT.lt Nat instLTNat a (Array.size h0) := Arv.lt q_6
  have lt_18 : @LT.lt Nat instLTNat b (Array.size h0) := Arv.lt q_7
  refine r_aloadN d6_0 rfl rfl rfl ?_
  refine r_getfield (host := "") d6_1 rfl (Or.inl (wd31 hw)) Via.refl q_5 ?_
  exact r_ireturn d6_4 rfl ⟨rfl, rfl⟩ (by simp) (by decide) (by decide)
set_option maxRecDepth 65536 in
set_option maxHeartbeats 40000000 in
theorem ok_cfis {l : Launch} {Z : State} {a0 : Array Value} (hw : ∀ d ∈ tables_1, d.before a0 Z = true) {n0 : Nat} (o c m : Nat) (hoc : o + c ≤ m) (hm : m ≤ 4000) {vF : Value} {h0 : Heap} (rF : vF.isRef = true) :
    Ok false l Z [] n0 [] (⟨"jdk/internal/util/Preconditions", "checkFromIndexSize", "(IIILjava/util/function/BiFunction;)I"⟩ : MethodName) jdk_41_method_13_code 4 (Option.some Jvm.ClassFile.FieldType.int) ({ frames := 0, cells := 0, slots := 0, locals := 0 } : Room) #[(.int (Int32.ofNat o)), (.int (Int32.ofNat c)), (.int (Int32.ofNat m)), vF] h0 (fun v h => v = some (.int (Int32.ofNat o)) ∧ h = h0) (fun _ => []) := by
  refine Ok.of_run (ls0 := #[.val (.int (Int32.ofNat o)), .val (.int (Int32.ofNat c)), .val (.int (Int32.ofNat m)), .val vF]) (plainFor_of_name (by first | (simp [plainName, overriddenIn]; done) | decide +kernel)) (fun m => by rcases ref_cases rF with rfl | ⟨q, rfl⟩ <;> first | (simp [entryFrame, mkF, argsToLocals, Value.category]; done) | rfl) rfl ?_
  refine Run.old fun hO => ?_
  have hn0 : n0 ≤ h0.size := hO.1 ▸ hO.2.1
  refine r_iloadN d11_0 rfl rfl ?_
  refine r_iloadN d11_1 rfl rfl ?_
  refine r_ior d11_2 rfl ?_
  refine r_iloadN d11_3 rfl rfl ?_
  refine r_ior d11_4 rfl ?_
  refine r_iflt (pc2 := 15) d11_5 rfl rfl (fun cc => absurd cc (ior_nneg (ior_nneg (ofNat_in (n := 4001) (by omega) (by omega)).1 (ofNat_in (n := 4001) (by omega) (by omega)).1) (ofNat_in (n := 4001) (by omega) (by omega)).1)) (fun _ => ?_)
  refine r_iloadN d11_8 rfl rfl ?_
  refine r_iloadN d11_9 rfl rfl ?_
  refine r_iloadN d11_10 rfl rfl ?_
  refine r_isub d11_11 rfl ?_
  refine r_icmple (pc2 := 23) d11_12 rfl rfl (fun _ => ?_) (fun cc => absurd cc (by rw [ofNat_sub (by omega)]; exact ofNat_nlt (by omega) (by omega)))
  refine r_iloadN d11_23 rfl rfl ?_
  exact r_ireturn d11_24 rfl ⟨rfl, rfl⟩ (by simp) (by decide) (by decide)
set_option maxRecDepth 65536 in
set_option maxHeartbeats 40000000 in
theorem ok_cboc {l : Launch} {Z : State} {a0 : Array Value} (hw : ∀ d ∈ tables_1, d.before a0 Z = true) {n0 : Nat} (o c m : Nat) (hoc : o + c ≤ m) (hm : m ≤ 4000) {vF : Value} {h0 : Heap} (SF : Sta Z Z.heap "jdk/internal/util/Preconditions" "SIOOBE_FORMATTER" "Ljava/util/function/BiFunction;" vF) (rF : vF.isRef = true) :
    Ok false l Z [] n0 [] (⟨"java/lang/String", "checkBoundsOffCount", "(III)I"⟩ : MethodName) jdk_42_method_157_code 3 (Option.some Jvm.ClassFile.FieldType.int) ({ frames := 1, cells := 0, slots := 0, locals := 15 } : Room) #[(.int (Int32.ofNat o)), (.int (Int32.ofNat c)), (.int (Int32.ofNat m))] h0 (fun v h => v = some (.int (Int32.ofNat o)) ∧ h = h0) (fun _ => []) := by
  refine Ok.of_run (ls0 := #[.val (.int (Int32.ofNat o)), .val (.int (Int32.ofNat c)), .val (.int (Int32.ofNat m))]) (plainFor_of_name (by first | (simp [plainName, overriddenIn]; done) | decide +kernel)) (fun m => by first | (simp [entryFrame, mkF, argsToLocals, Value.category]; done) | rfl) rfl ?_
  refine Run.old fun hO => ?_
  have hn0 : n0 ≤ h0.size := hO.1 ▸ hO.2.1
  refine r_iloadN d10_0 rfl rfl ?_
  refine r_iloadN d10_1 rfl rfl ?_
  refine r_iloadN d10_2 rfl rfl ?_
  refine r_getstatic (host := "") d10_3 rfl (Or.inl (wd55 hw)) Via.refl SF ?_
  refine r_static (y := (⟨"jdk/internal/util/Preconditions", "checkFromIndexSize", "(IIILjava/util/function/BiFunction;)I"⟩ : MethodName)) (argsL := [(.int (Int32.ofNat o)), (.int (Int32.ofNat c)), (.int (Int32.ofNat m)), vF]) (rest := []) (W := 0) (kc := 0) (ks := 0) (wl := []) d10_6 rfl (wd57 hw) (wd58 hw) (wd56 hw) (wd59 hw) (by decide) (lenOf pd_12 rfl) rfl rfl (Nat.le_of_ble_eq_true rfl) (Ok.pays (ok_cfis hw o c m hoc hm rF) (wd59 hw) (wd56 hw) (by decide) (by decide)) (fun v h' q => q.2 ▸ Keep.refl _ _) all0 (by decide) (by decide) ?_
  rintro _ h_1 ⟨rfl, eqh⟩
  subst h_1
  refine Run.cast (st' := [(.int (Int32.ofNat o))]) rfl ?_
  exact r_ireturn d10_9 rfl ⟨rfl, rfl⟩ (by simp) (by decide) (by decide)
set_option maxRecDepth 65536 in
set_option maxHeartbeats 40000000 in
theorem ok_rchk {l : Launch} {Z : State} {a0 : Array Value} (hw : ∀ d ∈ tables_1, d.before a0 Z = true) {n0 : Nat} (a : Addr) {k : ClassId} {vs : List Value} (o c m : Nat) (hoc : o + c ≤ m) (hm : m ≤ 4000) {vF : Value} {h0 : Heap} (SF : Sta Z Z.heap "jdk/internal/util/Preconditions" "SIOOBE_FORMATTER" "Ljava/util/function/BiFunction;" vF) (rF : vF.isRef = true) (K : Arv Z h0 a k .char (Int32.ofNat m) vs (.int 0)) :
    Ok false l Z [] n0 [] (⟨"java/lang/String", "rangeCheck", "([CII)Ljava/lang/Void;"⟩ : MethodName) jdk_42_method_5_code 3 (Option.some (Jvm.ClassFile.FieldType.object "java/lang/Void")) ({ frames := 2, cells := 0, slots := 0, locals := 29 } : Room) #[(.ref a), (.int (Int32.ofNat o)), (.int (Int32.ofNat c))] h0 (fun v h => v = some .null ∧ h = h0) (fun _ => []) := by
  refine Ok.of_run (ls0 := #[.val (.ref a), .val (.int (Int32.ofNat o)), .val (.int (Int32.ofNat c))]) (plainFor_of_name (by first | (simp [plainName, overriddenIn]; done) | decide +kernel)) (fun m => by first | (simp [entryFrame, mkF, argsToLocals, Value.category]; done) | rfl) rfl ?_
  refine Run.old fun hO => ?_
  have hn0 : n0 ≤ h0.size := hO.1 ▸ hO.2.1
  refine r_iloadN d9_0 rfl rfl ?_
  refine r_iloadN d9_1 rfl rfl ?_
  refine r_aloadN d9_2 rfl rfl rfl ?_
  refine r_arraylength d9_3 rfl K ?_
  refine r_static (y := (⟨"java/lang/String", "checkBoundsOffCount", "(III)I"⟩ : MethodName)) (argsL := [(.int (Int32.ofNat o)), (.int (Int32.ofNat c)), (.int (Int32.ofNat m))]) (rest := []) (W := 0) (kc := 0) (ks := 0) (wl := []) d9_4 rfl (wd52 hw) (wd53 hw) (wd45 hw) (wd54 hw) (by decide) (lenOf pd_13 rfl) rfl rfl (Nat.le_of_ble_eq_true rfl) (Ok.pays (ok_cboc hw o c m hoc hm SF rF) (wd54 hw) (wd45 hw) (by decide) (by decide)) (fun v h' q => q.2 ▸ Keep.refl _ _) all0 (by decide) (by decide) ?_
  rintro _ h_1 ⟨rfl, eqh⟩
  subst h_1
  refine Run.cast (st' := [(.int (Int32.ofNat o))]) rfl ?_
  refine r_pop d9_7 rfl rfl ?_
  refine r_aconst d9_8 rfl ?_
  exact r_areturn d9_9 rfl rfl rfl rfl ⟨rfl, rfl⟩ (by simp) (by decide) (by decide)
set_option maxRecDepth 65536 in
set_option maxHeartbeats 40000000 in
theorem ok_ciie {l : Launch} {Z : State} {a0 : Array Value} (hw : ∀ d ∈ tables_1, d.before a0 Z = true) {n0 : Nat} (x a : Addr) {k : ClassId} {vs : List Value} (o m : Nat) (hom : o + 0 ≤ m) (hm : m ≤ 4000) {vF : Value} {h0 : Heap} (SF : Sta Z Z.heap "jdk/internal/util/Preconditions" "SIOOBE_FORMATTER" "Ljava/util/function/BiFunction;" vF) (rF : vF.isRef = true) (E : Exa Z h0 x "java/lang/String") (V : Fld Z h0 x "java/lang/String" "value" "[B" .null) (C : Fld Z h0 x "java/lang/String" "coder" "B" (.int 0)) (ge : n0 ≤ x) (K : Arv Z h0 a k .char (Int32.ofNat m) vs (.int 0)) :
    Ok true l Z consts_1 n0 [x] (⟨"java/lang/String", "<init>", "([CII)V"⟩ : MethodName) jdk_42_method_4_code 4 (Option.none : Option Jvm.ClassFile.FieldType) ({ frames := 3, cells := 4, slots := 8, locals := 47 } : Room) #[(.ref x), (.ref a), (.int (Int32.ofNat o)), (.int (0 : Int32))] h0 (fun v h => v = none ∧ Keep h0 h [x] ∧ (∃ t, Str Z h x t [])) (fun _ => []) := by
  refine Ok.of_run (ls0 := #[.val (.ref x), .val (.ref a), .val (.int (Int32.ofNat o)), .val (.int (0 : Int32))]) (plainFor_of_name (by first | (simp [plainName, overriddenIn]; done) | decide +kernel)) (fun m => by first | (simp [entryFrame, mkF, argsToLocals, Value.category]; done) | rfl) rfl ?_
  refine Run.old fun hO => ?_
  have hn0 : n0 ≤ h0.size := hO.1 ▸ hO.2.1
  refine r_aloadN d8_0 rfl rfl rfl ?_
  refine r_aloadN d8_1 rfl rfl rfl ?_
  refine r_iloadN d8_2 rfl rfl ?_
  refine r_iloadN d8_3 rfl rfl ?_
  refine r_aloadN d8_4 rfl rfl rfl ?_
  refine r_iloadN d8_5 rfl rfl ?_
  refine r_iloadN d8_6 rfl rfl ?_
  refine r_static (y := (⟨"java/lang/String", "rangeCheck", "([CII)Ljava/lang/Void;"⟩ : MethodName)) (argsL := [(.ref a), (.int (Int32.ofNat o)), (.int (0 : Int32))]) (rest := [(.int (0 : Int32)), (.int (Int32.ofNat o)), (.ref a), (.ref x)]) (W := 4) (kc := 0) (ks := 0) (wl := []) d8_7 rfl (wd49 hw) (wd50 hw) (wd45 hw) (wd51 hw) (by decide) (lenOf pd_14 rfl) rfl rfl (Nat.le_of_ble_eq_true rfl) (Ok.pays (ok_rchk hw a o 0 m hom hm SF rF K) (wd51 hw) (wd45 hw) (by decide) (by decide)) (fun v h' q => q.2 ▸ Keep.refl _ _) all0 (by decide) (by decide) ?_
  rintro _ h_1 ⟨rfl, eqh⟩
  subst h_1
  refine Run.cast (st' := [.null, (.int (0 : Int32)), (.int (Int32.ofNat o)), (.ref a), (.ref x)]) rfl ?_
  refine r_specialW (y := (⟨"java/lang/String", "<init>", "([CIILjava/lang/Void;)V"⟩ : MethodName)) (argsL := [(.ref a), (.int (Int32.ofNat o)), (.int (0 : Int32)), .null]) (rest := []) (W := 0) (kc := 4) (ks := 8) (wl := [x]) rfl d8_10 rfl rfl (wd60 hw) (wd61 hw) (wd63 hw) (by decide) (lenOf pd_15 rfl) rfl rfl (Nat.le_of_ble_eq_true rfl) (Ok.paysW (ok_i4 hw x a E V C ge) (wd63 hw) (wd45 hw) (by decide) (by decide)) (by simp) (fun v h' q => q.2.1) (allS ge all0) (by decide) (by decide) ?_
  rintro _ h_2 ⟨rfl, q⟩
  refine Run.forget (My' := [x]) (by simp [refs]) ?_
  refine Run.cast (st' := []) rfl ?_
  exact r_return d8_13 rfl ⟨rfl, q⟩ (by simp) (by decide) (by decide)
set_option maxRecDepth 65536 in
set_option maxHeartbeats 40000000 in
theorem ok_ciif {l : Launch} {Z : State} {a0 : Array Value} (hw : ∀ d ∈ tables_1, d.before a0 Z = true) {n0 : Nat} (x : Addr) {ka : ClassId} {ts cs : List Int32} {mm : Nat} (a : Addr) (o : Nat) (hcs : ∀ i, i < cs.length → ts.getD (o + i) 0 = cs.getD i 0) (hp : Lat cs) (hm : mm ≤ 4000) (hm2 : o + cs.length ≤ mm) (hcap : cs.length ≤ 4) (hpos : 0 < cs.length) {zC : Int32} {vF : Value} {h0 : Heap} (SC : Sta Z Z.heap "java/lang/String" "COMPACT_STRINGS" "Z" (.int zC)) (nC : ¬ zC = 0) (SF : Sta Z Z.heap "jdk/internal/util/Preconditions" "SIOOBE_FORMATTER" "Ljava/util/function/BiFunction;" vF) (rF : vF.isRef = true) (E : Exa Z h0 x "java/lang/String") (V : Fld Z h0 x "java/lang/String" "value" "[B" .null) (C : Fld Z h0 x "java/lang/String" "coder" "B" (.int 0)) (ge : n0 ≤ x) (AA : Arv Z h0 a ka .char (Int32.ofNat mm) (ts.map Value.int) (.int 0)) :
    Ok false l Z [] n0 [] (⟨"java/lang/String", "<init>", "([CII)V"⟩ : MethodName) jdk_42_method_4_code 4 (Option.none : Option Jvm.ClassFile.FieldType) ({ frames := 3, cells := 1, slots := 4, locals := 52 } : Room) #[(.ref x), (.ref a), (.int (Int32.ofNat o)), (.int (Int32.ofNat cs.length))] h0 (fun v h => v = none ∧ Keep h0 h [x] ∧ ∃ t, @LE.le Nat instLENat h0.size t ∧ Str Z h x t cs) (fun _ => []) := by
  refine Ok.of_run (ls0 := #[.val (.ref x), .val (.ref a), .val (.int (Int32.ofNat o)), .val (.int (Int32.ofNat cs.length))]) (plainFor_of_name (by first | (simp [plainName, overriddenIn]; done) | decide +kernel)) (fun m => by first | (simp [entryFrame, mkF, argsToLocals, Value.category]; done) | rfl) rfl ?_
  refine Run.old fun hO => ?_
  have hn0 : n0 ≤ h0.size := hO.1 ▸ hO.2.1
  refine r_aloadN d8_0 rfl rfl rfl ?_
  refine r_aloadN d8_1 rfl rfl rfl ?_
  refine r_iloadN d8_2 rfl rfl ?_
  refine r_iloadN d8_3 rfl rfl ?_
  refine r_aloadN d8_4 rfl rfl rfl ?_
  refine r_iloadN d8_5 rfl rfl ?_
  refine r_iloadN d8_6 rfl rfl ?_
  refine r_static (y := (⟨"java/lang/String", "rangeCheck", "([CII)Ljava/lang/Void;"⟩ : MethodName)) (argsL := [(.ref a), (.int (Int32.ofNat o)), (.int (Int32.ofNat cs.length))]) (rest := [(.int (Int32.ofNat cs.length)), (.int (Int32.ofNat o)), (.ref a), (.ref x)]) (W := 4) (kc := 0) (ks := 0) (wl := []) d8_7 rfl (wd49 hw) (wd50 hw) (wd45 hw) (wd51 hw) (by decide) (lenOf pd_14 rfl) rfl rfl (Nat.le_of_ble_eq_true rfl) (Ok.pays (ok_rchk hw a o cs.length mm hm2 hm SF rF AA) (wd51 hw) (wd45 hw) (by decide) (by decide)) (fun v h' q => q.2 ▸ Keep.refl _ _) all0 (by decide) (by decide) ?_
  rintro _ h_1 ⟨rfl, eqh⟩
  subst h_1
  refine Run.cast (st' := [.null, (.int (Int32.ofNat cs.length)), (.int (Int32.ofNat o)), (.ref a), (.ref x)]) rfl ?_
  refine r_special (y := (⟨"java/lang/String", "<init>", "([CIILjava/lang/Void;)V"⟩ : MethodName)) (argsL := [(.ref a), (.int (Int32.ofNat o)), (.int (Int32.ofNat cs.length)), .null]) (rest := []) (W := 0) (kc := 1) (ks := 4) (wl := [x]) d8_10 rfl rfl (wd60 hw) (wd61 hw) (wd63 hw) (by decide) (lenOf pd_15 rfl) rfl rfl (Nat.le_of_ble_eq_true rfl) (Ok.pays (ok_i4f hw x a o hcs hp (by omega) hm2 hcap hpos SC nC E V C ge AA) (wd63 hw) (wd45 hw) (by decide) (by decide)) (fun v h' q => q.2.1) (allS ⟨ge, (Or.inl rfl)⟩ all0) (by decide) (by decide) ?_
  rintro _ h_2 ⟨rfl, q⟩
  refine Run.cast (st' := []) rfl ?_
  exact r_return d8_13 rfl ⟨rfl, q⟩ (by simp) (by decide) (by decide)
set_option maxRecDepth 65536 in
set_option maxHeartbeats 40000000 in
theorem ok_gete {l : Launch} {Z : State} {a0 : Array Value} (hw : ∀ d ∈ tables_1, d.before a0 Z = true) {n0 : Nat} (x a b : Addr) {ts en : List Int32} {cap : Nat} (i s : Nat) (hi : i < en.length) (hcp : en.length ≤ cap) (hc : cap ≤ 32) (h0s : i = 0 → s = 0) (hS : 0 < i → en.getD (i - 1) 0 = Int32.ofNat s) (hE : en.getD i 0 = Int32.ofNat (s + 0)) (hs : s ≤ 256) {vF : Value} {h0 : Heap} (SF : Sta Z Z.heap "jdk/internal/util/Preconditions" "SIOOBE_FORMATTER" "Ljava/util/function/BiFunction;" vF) (rF : vF.isRef = true) (F : RB Z h0 n0 x a b ts en cap) :
    Ok true l Z consts_1 n0 [] (⟨"com/example/chunkwise/chunkwise/item/RecordBuilder", "get", "(I)Ljava/lang/String;"⟩ : MethodName) prog_61_method_7_code 3 (Option.some (Jvm.ClassFile.FieldType.object "java/lang/String")) ({ frames := 4, cells := 5, slots := 12, locals := 63 } : Room) #[(.ref x), (.int (Int32.ofNat i))] h0 (fun v h => ∃ a2 t2, v = some (.ref a2) ∧ Keep h0 h [] ∧ Str Z h a2 t2 []) (fun _ => []) := by
  refine Ok.of_run (ls0 := #[.val (.ref x), .val (.int (Int32.ofNat i)), .unset]) (plainFor_of_name (by first | (simp [plainName, overriddenIn]; done) | decide +kernel)) (fun m => by first | (simp [entryFrame, mkF, argsToLocals, Value.category]; done) | rfl) rfl ?_
  refine Run.old fun hO => ?_
  have hn0 : n0 ≤ h0.size := hO.1 ▸ hO.2.1
  obtain ⟨q_1, q_2, q_3, q_4, q_5, ⟨ka_12, q_6⟩, ⟨kb_13, q_7⟩, q_8, q_9, q_10, q_11⟩ := F
  have ne_14 : x ≠ a := Exa.neArv q_1 q_6 (wd1 hw)
  have ne_15 : x ≠ b := Exa.neArv q_1 q_7 (wd1 hw)
  have lt_16 : @LT.lt Nat instLTNat x (Array.size h0) := Exa.lt q_1
  have lt_17 : @LT.lt Nat instLTNat a (Array.size h0) := Arv.lt q_6
  have lt_18 : @LT.lt Nat instLTNat b (Array.size h0) := Arv.lt q_7
  refine r_iloadN d7_0 rfl rfl ?_
  refine Run.join (pc' := 16) (P := fun (k : Int32) => k = Int32.ofNat s) (ls' := fun k => #[.val (.ref x), .val (.int (Int32.ofNat i)), .unset]) (st' := fun k => [(.int k)]) ?_ ?_
  · intro k hv_20
    obtain rfl := hv_20
    refine r_istoreN (l' := #[.val (.ref x), .val (.int (Int32.ofNat i)), .val (.int (Int32.ofNat s))]) d7_16 rfl rfl ?_
    refine r_new d7_17 rfl (wd43 hw) (wd44 hw) (wd45 hw) (by decide) (by decide) ?_
    intro h_22 b_21 gb_21 ltb_21 E_23 A_24 D_25 U_26
    have szh_22 := E_23.1
    have geb_21 : n0 ≤ b_21 := by omega
    have F_27 : Fld Z h_22 b_21 "java/lang/String" "coder" "B" (.int (0 : Int32)) := D_25 (Or.inr (wd78 hw)) (ty := .byte) (by decide)
    have F_28 : Fld Z h_22 b_21 "java/lang/String" "value" "[B" .null := D_25 (Or.inr (wd80 hw)) (ty := (.array .byte)) (by decide)
    refine r_dup d7_20 rfl rfl ?_
    refine r_aloadN d7_21 rfl rfl rfl ?_
    have F_29 : Fld Z h_22 x "com/example/chunkwise/chunkwise/item/RecordBuilder" "text" "[C" (.ref a) := (Fld.ext E_23 q_2)
    refine r_getfield (host := "") d7_22 rfl (Or.inl (wd10 hw)) Via.refl F_29 ?_
    refine r_iloadN d7_25 rfl rfl ?_
    refine r_aloadN d7_26 rfl rfl rfl ?_
    have F_30 : Fld Z h_22 x "com/example/chunkwise/chunkwise/item/RecordBuilder" "ends" "[I" (.ref b) := (Fld.ext E_23 q_3)
    refine r_getfield (host := "") d7_27 rfl (Or.inl (wd13 hw)) Via.refl F_30 ?_
    refine r_iloadN d7_30 rfl rfl ?_
    have K_31 : Arv Z h_22 b kb_13 .int (Int32.ofNat cap) (en.map Value.int) (.int 0) := (q_7.ext E_23)
    refine r_iaload (v := (.int (Int32.ofNat (s + 0)))) d7_31 rfl K_31 (ofNat_in (by omega) (by omega)) (by rw [ofNat_cl (by omega), getD_map, hE]) ?_
    refine r_iloadN d7_32 rfl rfl ?_
    refine r_isub d7_33 rfl ?_
    rw [show ((Int32.ofNat (s + 0)) - (Int32.ofNat s)) = (0 : Int32) from (Int32.sub_self _)]
    have K_32 : Arv Z h_22 a ka_12 .char (Int32.ofNat 256) (ts.map Value.int) (.int 0) := (q_6.ext E_23)
    refine r_specialW (y := (⟨"java/lang/String", "<init>", "([CII)V"⟩ : MethodName)) (argsL := [(.ref a), (.int (Int32.ofNat s)), (.int (0 : Int32))]) (rest := [(.ref b_21)]) (W := 1) (kc := 4) (ks := 8) (wl := [b_21]) rfl d7_34 rfl rfl (wd46 hw) (wd47 hw) (wd48 hw) (by decide) (lenOf pd_16 rfl) rfl rfl (Nat.le_of_ble_eq_true rfl) (Ok.paysW (ok_ciie hw b_21 a s 256 (by omega) (by decide) SF rF A_24 F_28 F_27 geb_21 K_32) (wd48 hw) (wd45 hw) (by decide) (by decide)) (by simp) (fun v h' q => q.2.1) (allS geb_21 all0) (by decide) (by decide) ?_
    rintro _ h_33 ⟨rfl, KK, t2, SS⟩
    refine Run.forget (My' := [b_21]) (by simp [refs]) ?_
    refine Run.cast (st' := [(.ref b_21)]) rfl ?_
    have szh_33 := KK.1
    exact r_areturn d7_37 rfl rfl rfl rfl ⟨b_21, t2, rfl, (Keep.trans (Keep.ext (Keep.refl _ _) E_23) KK (allS (Or.inr (by omega)) all0)), SS⟩ (by simp) (by decide) (by decide)
  · intro J_19
    refine r_ifne (pc2 := 8) d7_1 rfl rfl (fun c_34 => ?_) (fun c_34 => ?_)
    · obtain ⟨j, hj⟩ : ∃ j, i = j + 1 := ⟨i - 1, by have : i ≠ 0 := (fun e => c_34 (by rw [e]; rfl)); omega⟩
      refine r_aloadN d7_8 rfl rfl rfl ?_
      refine r_getfield (host := "") d7_9 rfl (Or.inl (wd13 hw)) Via.refl q_3 ?_
      refine r_iloadN d7_12 rfl rfl ?_
      refine r_iconst (v := 1) d7_13 rfl rfl ?_
      refine r_isub d7_14 rfl ?_
      rw [show ((Int32.ofNat i) - (1 : Int32)) = (Int32.ofNat j) from (by rw [hj]; exact dec1 j)]
      refine r_iaload (v := (.int (Int32.ofNat s))) d7_15 rfl q_7 (ofNat_in (by omega) (by omega)) (by rw [ofNat_cl (by omega), getD_map]; have q := hS (by omega); rw [show i - 1 = j by omega] at q; rw [q]) ?_
      exact J_19 _ rfl
    · have i0 : i = 0 := ofNat_inj' (j := 0) (by omega) (by omega) c_34
      refine r_iconst (v := 0) d7_4 rfl rfl ?_
      refine r_goto (pc' := 16) d7_5 rfl ?_
      exact J_19 _ (by rw [h0s i0]; rfl)
set_option maxRecDepth 65536 in
set_option maxHeartbeats 40000000 in
theorem ok_getf {l : Launch} {Z : State} {a0 : Array Value} (hw : ∀ d ∈ tables_1, d.before a0 Z = true) {n0 : Nat} (x a b : Addr) {ts en : List Int32} {cap : Nat} {cs : List Int32} (i s : Nat) (hi : i < en.length) (hcp : en.length ≤ cap) (hc : cap ≤ 32) (h0s : i = 0 → s = 0) (hS : 0 < i → en.getD (i - 1) 0 = Int32.ofNat s) (hE : en.getD i 0 = Int32.ofNat (s + cs.length)) (hcs : ∀ i, i < cs.length → ts.getD (s + i) 0 = cs.getD i 0) (hp : Lat cs) (hs : s + cs.length ≤ 256) (hcap : cs.length ≤ 4) (hpos : 0 < cs.length) {zC : Int32} {vF : Value} {h0 : Heap} (SC : Sta Z Z.heap "java/lang/String" "COMPACT_STRINGS" "Z" (.int zC)) (nC : ¬ zC = 0) (SF : Sta Z Z.heap "jdk/internal/util/Preconditions" "SIOOBE_FORMATTER" "Ljava/util/function/BiFunction;" vF) (rF : vF.isRef = true) (F : RB Z h0 n0 x a b ts en cap) :
    Ok false l Z [] n0 [] (⟨"com/example/chunkwise/chunkwise/item/RecordBuilder", "get", "(I)Ljava/lang/String;"⟩ : MethodName) prog_61_method_7_code 3 (Option.some (Jvm.ClassFile.FieldType.object "java/lang/String")) ({ frames := 4, cells := 2, slots := 8, locals := 68 } : Room) #[(.ref x), (.int (Int32.ofNat i))] h0 (fun v h => ∃ a2 t2, v = some (.ref a2) ∧ Keep h0 h [] ∧ Str Z h a2 t2 cs) (fun _ => []) := by
  refine Ok.of_run (ls0 := #[.val (.ref x), .val (.int (Int32.ofNat i)), .unset]) (plainFor_of_name (by first | (simp [plainName, overriddenIn]; done) | decide +kernel)) (fun m => by first | (simp [entryFrame, mkF, argsToLocals, Value.category]; done) | rfl) rfl ?_
  refine Run.old fun hO => ?_
  have hn0 : n0 ≤ h0.size := hO.1 ▸ hO.2.1
  obtain ⟨q_1, q_2, q_3, q_4, q_5, ⟨ka_12, q_6⟩, ⟨kb_13, q_7⟩, q_8, q_9, q_10, q_11⟩ := F
  have ne_14 : x ≠ a := Exa.neArv q_1 q_6 (wd1 hw)
  have ne_15 : x ≠ b := Exa.neArv q_1 q_7 (wd1 hw)
  have lt_16 : @LT.lt Nat instLTNat x (Array.size h0) := Exa.lt q_1
  have lt_17 : @LT.lt Nat instLTNat a (Array.size h0) := Arv.lt q_6
  have lt_18 : @LT.lt Nat instLTNat b (Array.size h0) := Arv.lt q_7
  refine r_iloadN d7_0 rfl rfl ?_
  refine Run.join (pc' := 16) (P := fun (k : Int32) => k = Int32.ofNat s) (ls' := fun k => #[.val (.ref x), .val (.int (Int32.ofNat i)), .unset]) (st' := fun k => [(.int k)]) ?_ ?_
  · intro k hv_20
    obtain rfl := hv_20
    refine r_istoreN (l' := #[.val (.ref x), .val (.int (Int32.ofNat i)), .val (.int (Int32.ofNat s))]) d7_16 rfl rfl ?_
    refine r_new d7_17 rfl (wd43 hw) (wd44 hw) (wd45 hw) (by decide) (by decide) ?_
    intro h_22 b_21 gb_21 ltb_21 E_23 A_24 D_25 U_26
    have szh_22 := E_23.1
    have geb_21 : n0 ≤ b_21 := by omega
    have F_27 : Fld Z h_22 b_21 "java/lang/String" "coder" "B" (.int (0 : Int32)) := D_25 (Or.inr (wd78 hw)) (ty := .byte) (by decide)
    have F_28 : Fld Z h_22 b_21 "java/lang/String" "value" "[B" .null := D_25 (Or.inr (wd80 hw)) (ty := (.array .byte)) (by decide)
    refine r_dup d7_20 rfl rfl ?_
    refine r_aloadN d7_21 rfl rfl rfl ?_
    have F_29 : Fld Z h_22 x "com/example/chunkwise/chunkwise/item/RecordBuilder" "text" "[C" (.ref a) := (Fld.ext E_23 q_2)
    refine r_getfield (host := "") d7_22 rfl (Or.inl (wd10 hw)) Via.refl F_29 ?_
    refine r_iloadN d7_25 rfl rfl ?_
    refine r_aloadN d7_26 rfl rfl rfl ?_
    have F_30 : Fld Z h_22 x "com/example/chunkwise/chunkwise/item/RecordBuilder" "ends" "[I" (.ref b) := (Fld.ext E_23 q_3)
    refine r_getfield (host := "") d7_27 rfl (Or.inl (wd13 hw)) Via.refl F_30 ?_
    refine r_iloadN d7_30 rfl rfl ?_
    have K_31 : Arv Z h_22 b kb_13 .int (Int32.ofNat cap) (en.map Value.int) (.int 0) := (q_7.ext E_23)
    refine r_iaload (v := (.int (Int32.ofNat (s + cs.length)))) d7_31 rfl K_31 (ofNat_in (by omega) (by omega)) (by rw [ofNat_cl (by omega), getD_map, hE]) ?_
    refine r_iloadN d7_32 rfl rfl ?_
    refine r_isub d7_33 rfl ?_
    rw [show ((Int32.ofNat (s + cs.length)) - (Int32.ofNat s)) = (Int32.ofNat cs.length) from (by rw [ofNat_sub (by omega), Nat.add_sub_cancel_left])]
    have K_32 : Arv Z h_22 a ka_12 .char (Int32.ofNat 256) (ts.map Value.int) (.int 0) := (q_6.ext E_23)
    refine r_special (y := (⟨"java/lang/String", "<init>", "([CII)V"⟩ : MethodName)) (argsL := [(.ref a), (.int (Int32.ofNat s)), (.int (Int32.ofNat cs.length))]) (rest := [(.ref b_21)]) (W := 1) (kc := 1) (ks := 4) (wl := [b_21]) d7_34 rfl rfl (wd46 hw) (wd47 hw) (wd48 hw) (by decide) (lenOf pd_16 rfl) rfl rfl (Nat.le_of_ble_eq_true rfl) (Ok.pays (ok_ciif hw b_21 a s hcs hp (by decide) (by omega) hcap hpos SC nC SF rF A_24 F_28 F_27 geb_21 K_32) (wd48 hw) (wd45 hw) (by decide) (by decide)) (fun v h' q => q.2.1) (allS ⟨geb_21, (Or.inl rfl)⟩ all0) (by decide) (by decide) ?_
    rintro _ h_33 ⟨rfl, KK, t2, hge, SS⟩
    refine Run.cast (st' := [(.ref b_21)]) rfl ?_
    have szh_33 := KK.1
    exact r_areturn d7_37 rfl rfl rfl rfl ⟨b_21, t2, rfl, (Keep.trans (Keep.ext (Keep.refl _ _) E_23) KK (allS (Or.inr (by omega)) all0)), SS⟩ (by simp) (by decide) (by decide)
  · intro J_19
    refine r_ifne (pc2 := 8) d7_1 rfl rfl (fun c_34 => ?_) (fun c_34 => ?_)
    · obtain ⟨j, hj⟩ : ∃ j, i = j + 1 := ⟨i - 1, by have : i ≠ 0 := (fun e => c_34 (by rw [e]; rfl)); omega⟩
      refine r_aloadN d7_8 rfl rfl rfl ?_
      refine r_getfield (host := "") d7_9 rfl (Or.inl (wd13 hw)) Via.refl q_3 ?_
      refine r_iloadN d7_12 rfl rfl ?_
      refine r_iconst (v := 1) d7_13 rfl rfl ?_
      refine r_isub d7_14 rfl ?_
      rw [show ((Int32.ofNat i) - (1 : Int32)) = (Int32.ofNat j) from (by rw [hj]; exact dec1 j)]
      refine r_iaload (v := (.int (Int32.ofNat s))) d7_15 rfl q_7 (ofNat_in (by omega) (by omega)) (by rw [ofNat_cl (by omega), getD_map]; have q := hS (by omega); rw [show i - 1 = j by omega] at q; rw [q]) ?_
      exact J_19 _ rfl
    · have i0 : i = 0 := ofNat_inj' (j := 0) (by omega) (by omega) c_34
      refine r_iconst (v := 0) d7_4 rfl rfl ?_
      refine r_goto (pc' := 16) d7_5 rfl ?_
      exact J_19 _ (by rw [h0s i0]; rfl)
theorem and255_lat (x : Int32) : ¬ (x &&& (255 : Int32)).toUInt32.toUInt16.toUInt32.toInt32 < 0 ∧ ¬ (255 : Int32) < (x &&& (255 : Int32)).toUInt32.toUInt16.toUInt32.toInt32 := by
  have t : ∀ k : Fin 256, ¬ (Int32.ofNat k.val).toUInt32.toUInt16.toUInt32.toInt32 < 0 ∧ ¬ (255 : Int32) < (Int32.ofNat k.val).toUInt32.toUInt16.toUInt32.toInt32 := by decide +kernel
  have h : (x &&& 255).toBitVec.toNat < 256 := by
    simp only [Int32.toBitVec_and, BitVec.toNat_and]
    exact Nat.lt_succ_of_le Nat.and_le_right
  have e : (x &&& 255) = Int32.ofNat (x &&& 255).toBitVec.toNat := by
    apply Int32.toBitVec_inj.mp
    show _ = BitVec.ofNat 32 _
    rw [BitVec.ofNat_toNat]; simp
  rw [e]
  exact t ⟨_, h⟩
theorem lat_1 {a : Int32} (ha : ¬ a < 0 ∧ ¬ (255 : Int32) < a) : Lat [a] := fun c hc => by
  simp only [List.mem_singleton] at hc; subst hc; exact ha
theorem lat_2 {a b : Int32} (ha : ¬ a < 0 ∧ ¬ (255 : Int32) < a) (hb : ¬ b < 0 ∧ ¬ (255 : Int32) < b) : Lat [a, b] := fun c hc => by
  simp only [List.mem_cons, List.not_mem_nil, or_false] at hc; rcases hc with rfl | rfl; exact ha; exact hb
set_option maxRecDepth 65536 in
set_option maxHeartbeats 40000000 in
theorem ok_law {l : Launch} {Z : State} {a0 : Array Value} (hw : ∀ d ∈ tables_1, d.before a0 Z = true) {n0 : Nat} (p0 p1 p2 p3 : Int32) {zC : Int32} {vF : Value} {h0 : Heap} (SC : Sta Z Z.heap "java/lang/String" "COMPACT_STRINGS" "Z" (.int zC)) (nC : ¬ zC = 0) (SF : Sta Z Z.heap "jdk/internal/util/Preconditions" "SIOOBE_FORMATTER" "Ljava/util/function/BiFunction;" vF) (rF : vF.isRef = true) :
    Ok true l Z consts_1 n0 [] (⟨"com/example/chunkwise/chunkwise/item/RecordBuilderEndValuePinLaw", "law", "(IIII)Z"⟩ : MethodName) code maxLocals ret room_1 #[(.int p0), (.int p1), (.int p2), (.int p3)] h0 (fun v h => v = some (.int 1)) (fun _ => []) := by
  refine Ok.of_run (ls0 := #[.val (.int p0), .val (.int p1), .val (.int p2), .val (.int p3), .unset, .unset, .unset, .unset, .unset, .unset, .unset, .unset, .unset, .unset, .unset, .unset, .unset]) (plainFor_of_name (by first | (simp [plainName, overriddenIn]; done) | decide +kernel)) (fun m => by first | (simp [entryFrame, mkF, argsToLocals, Value.category, maxLocals]; done) | rfl) rfl ?_
  refine Run.old fun hO => ?_
  have hn0 : n0 ≤ h0.size := hO.1 ▸ hO.2.1
  refine r_iloadN at_0 rfl rfl ?_
  refine r_sipush (v := 255) at_1 rfl rfl ?_
  refine r_iand at_4 rfl ?_
  refine r_i2c at_5 rfl ?_
  have l0 := and255_lat p0
  generalize (p0 &&& (255 : Int32)).toUInt32.toUInt16.toUInt32.toInt32 = c0 at l0 ⊢
  refine r_istore (l' := #[.val (.int p0), .val (.int p1), .val (.int p2), .val (.int p3), .val (.int c0), .unset, .unset, .unset, .unset, .unset, .unset, .unset, .unset, .unset, .unset, .unset, .unset]) at_6 rfl rfl ?_
  refine r_iloadN at_8 rfl rfl ?_
  refine r_sipush (v := 255) at_9 rfl rfl ?_
  refine r_iand at_12 rfl ?_
  refine r_i2c at_13 rfl ?_
  have l1 := and255_lat p1
  generalize (p1 &&& (255 : Int32)).toUInt32.toUInt16.toUInt32.toInt32 = c1 at l1 ⊢
  refine r_istore (l' := #[.val (.int p0), .val (.int p1), .val (.int p2), .val (.int p3), .val (.int c0), .val (.int c1), .unset, .unset, .unset, .unset, .unset, .unset, .unset, .unset, .unset, .unset, .unset]) at_14 rfl rfl ?_
  refine r_iloadN at_16 rfl rfl ?_
  refine r_sipush (v := 255) at_17 rfl rfl ?_
  refine r_iand at_20 rfl ?_
  refine r_i2c at_21 rfl ?_
  have l2 := and255_lat p2
  generalize (p2 &&& (255 : Int32)).toUInt32.toUInt16.toUInt32.toInt32 = c2 at l2 ⊢
  refine r_istore (l' := #[.val (.int p0), .val (.int p1), .val (.int p2), .val (.int p3), .val (.int c0), .val (.int c1), .val (.int c2), .unset, .unset, .unset, .unset, .unset, .unset, .unset, .unset, .unset, .unset]) at_22 rfl rfl ?_
  refine r_iloadN at_24 rfl rfl ?_
  refine r_iconst (v := 1) at_25 rfl rfl ?_
  refine r_iand at_26 rfl ?_
  refine r_ifeq (pc2 := 34) at_27 rfl rfl (fun c_1 => ?_) (fun c_1 => ?_)
  · refine r_iconst (v := 0) at_34 rfl rfl ?_
    refine r_istore (l' := #[.val (.int p0), .val (.int p1), .val (.int p2), .val (.int p3), .val (.int c0), .val (.int c1), .val (.int c2), .val (.int (0 : Int32)), .unset, .unset, .unset, .unset, .unset, .unset, .unset, .unset, .unset]) at_35 rfl rfl ?_
    refine r_iloadN at_37 rfl rfl ?_
    refine r_iconst (v := 2) at_38 rfl rfl ?_
    refine r_iand at_39 rfl ?_
    refine r_ifeq (pc2 := 47) at_40 rfl rfl (fun c_2 => ?_) (fun c_2 => ?_)
    · refine r_iconst (v := 0) at_47 rfl rfl ?_
      refine r_istore (l' := #[.val (.int p0), .val (.int p1), .val (.int p2), .val (.int p3), .val (.int c0), .val (.int c1), .val (.int c2), .val (.int (0 : Int32)), .val (.int (0 : Int32)), .unset, .unset, .unset, .unset, .unset, .unset, .unset, .unset]) at_48 rfl rfl ?_
      refine r_new at_50 rfl (wd0 hw) (wd1 hw) (wd2 hw) (by decide) (by decide) ?_
      intro h_4 b_3 gb_3 ltb_3 E_5 A_6 D_7 U_8
      have szh_4 := E_5.1
      have geb_3 : n0 ≤ b_3 := by omega
      have F_9 : Fld Z h_4 b_3 "com/example/chunkwise/chunkwise/item/RecordBuilder" "text" "[C" .null := D_7 (Or.inl (wd11 hw)) (ty := (.array .char)) (by decide)
      have F_10 : Fld Z h_4 b_3 "com/example/chunkwise/chunkwise/item/RecordBuilder" "ends" "[I" .null := D_7 (Or.inl (wd14 hw)) (ty := (.array .int)) (by decide)
      have F_11 : Fld Z h_4 b_3 "com/example/chunkwise/chunkwise/item/RecordBuilder" "length" "I" (.int (0 : Int32)) := D_7 (Or.inl (wd25 hw)) (ty := .int) (by decide)
      have F_12 : Fld Z h_4 b_3 "com/example/chunkwise/chunkwise/item/RecordBuilder" "count" "I" (.int (0 : Int32)) := D_7 (Or.inl (wd32 hw)) (ty := .int) (by decide)
      refine r_dup at_53 rfl rfl ?_
      refine r_special (y := (⟨"com/example/chunkwise/chunkwise/item/RecordBuilder", "<init>", "()V"⟩ : MethodName)) (argsL := []) (rest := [(.ref b_3)]) (W := 1) (kc := 2) (ks := 272) (wl := [b_3]) at_54 rfl rfl (wd3 hw) (wd4 hw) (wd5 hw) (by decide) (lenOf pd_11 rfl) rfl rfl (Nat.le_of_ble_eq_true rfl) (Ok.pays (ok_ri hw b_3 A_6 F_9 F_10 F_11 F_12 geb_3) (wd5 hw) (wd2 hw) (by decide) (by decide)) (fun v h' q => q.2.1) (allS ⟨geb_3, (Sf.exa A_6 (by decide) (by decide))⟩ all0) (by decide) (by decide) ?_
      rintro _ h_19 ⟨rfl, KK_13, a_14, b_15, hg_17, hg_18, FF_16⟩
      refine Run.cast (st' := [(.ref b_3)]) rfl ?_
      have szh_19 := KK_13.1
      have R_20 : RB Z h_19 n0 b_3 a_14 b_15 ([] : List Int32) ([] : List Int32) 16 := FF_16
      refine r_astore (l' := #[.val (.int p0), .val (.int p1), .val (.int p2), .val (.int p3), .val (.int c0), .val (.int c1), .val (.int c2), .val (.int (0 : Int32)), .val (.int (0 : Int32)), .val (.ref b_3), .unset, .unset, .unset, .unset, .unset, .unset, .unset]) at_57 rfl rfl rfl ?_
      refine r_iload at_59 rfl rfl ?_
      refine r_ifeq (pc2 := 71) at_61 rfl rfl (fun _ => ?_) (fun cc => absurd rfl cc)
      refine r_aload at_71 rfl rfl rfl ?_
      refine r_virtual (y := (⟨"com/example/chunkwise/chunkwise/item/RecordBuilder", "endValue", "()V"⟩ : MethodName)) (argsL := []) (rest := []) (W := 0) (kc := 0) (ks := 0) (wl := [b_3, b_15]) at_73 rfl (wd26 hw) (wd27 hw) (wd29 hw) (wd28 hw) (by decide) ⟨rfl, rfl⟩ (RB.exa R_20) (lenOf pd_11 rfl) rfl rfl (Nat.le_of_ble_eq_true rfl) (Ok.pays (ok_end hw b_3 a_14 b_15 (Nat.le_of_ble_eq_true rfl) (by decide) R_20) (wd30 hw) (wd2 hw) (by decide) (by decide)) (fun v h' q => q.2.1) (allS ⟨(RB.gx R_20), (Sf.exa (RB.exa R_20) (by decide) (by decide))⟩ (allS ⟨(RB.gb R_20), (RB.sfb R_20)⟩ all0)) (by decide) (by decide) ?_
      rintro _ h_23 ⟨rfl, KK_21, FF_22⟩
      refine Run.cast (st' := []) rfl ?_
      have szh_23 := KK_21.1
      have R_24 : RB Z h_23 n0 b_3 a_14 b_15 ([] : List Int32) [Int32.ofNat 0] 16 := FF_22
      refine r_aload at_76 rfl rfl rfl ?_
      refine r_virtual (y := (⟨"com/example/chunkwise/chunkwise/item/RecordBuilder", "endValue", "()V"⟩ : MethodName)) (argsL := []) (rest := []) (W := 0) (kc := 0) (ks := 0) (wl := [b_3, b_15]) at_78 rfl (wd26 hw) (wd27 hw) (wd29 hw) (wd28 hw) (by decide) ⟨rfl, rfl⟩ (RB.exa R_24) (lenOf pd_11 rfl) rfl rfl (Nat.le_of_ble_eq_true rfl) (Ok.pays (ok_end hw b_3 a_14 b_15 (Nat.le_of_ble_eq_true rfl) (by decide) R_24) (wd30 hw) (wd2 hw) (by decide) (by decide)) (fun v h' q => q.2.1) (allS ⟨(RB.gx R_24), (Sf.exa (RB.exa R_24) (by decide) (by decide))⟩ (allS ⟨(RB.gb R_24), (RB.sfb R_24)⟩ all0)) (by decide) (by decide) ?_
      rintro _ h_27 ⟨rfl, KK_25, FF_26⟩
      refine Run.cast (st' := []) rfl ?_
      have szh_27 := KK_25.1
      have R_28 : RB Z h_27 n0 b_3 a_14 b_15 ([] : List Int32) [Int32.ofNat 0, Int32.ofNat 0] 16 := FF_26
      refine r_iload at_81 rfl rfl ?_
      refine r_ifeq (pc2 := 106) at_83 rfl rfl (fun _ => ?_) (fun cc => absurd rfl cc)
      refine r_aload at_106 rfl rfl rfl ?_
      refine r_iload at_108 rfl rfl ?_
      refine r_virtual (y := (⟨"com/example/chunkwise/chunkwise/item/RecordBuilder", "append", "(C)V"⟩ : MethodName)) (argsL := [(.int c1)]) (rest := []) (W := 0) (kc := 0) (ks := 0) (wl := [b_3, a_14]) at_110 rfl (wd15 hw) (wd16 hw) (wd18 hw) (wd17 hw) (by decide) ⟨rfl, rfl⟩ (RB.exa R_28) (lenOf pd_17 rfl) rfl rfl (Nat.le_of_ble_eq_true rfl) (Ok.pays (ok_app hw b_3 a_14 b_15 c1 (lat_char l1) (Nat.lt_of_lt_of_le (Nat.lt_succ_self _) (Nat.le_of_ble_eq_true rfl)) R_28) (wd19 hw) (wd2 hw) (by decide) (by decide)) (fun v h' q => q.2.1) (allS ⟨(RB.gx R_28), (Sf.exa (RB.exa R_28) (by decide) (by decide))⟩ (allS ⟨(RB.ga R_28), (RB.sfa R_28)⟩ all0)) (by decide) (by decide) ?_
      rintro _ h_31 ⟨rfl, KK_29, FF_30⟩
      refine Run.cast (st' := []) rfl ?_
      have szh_31 := KK_29.1
      have R_32 : RB Z h_31 n0 b_3 a_14 b_15 [c1] [Int32.ofNat 0, Int32.ofNat 0] 16 := FF_30
      refine r_aload at_113 rfl rfl rfl ?_
      refine r_iload at_115 rfl rfl ?_
      refine r_virtual (y := (⟨"com/example/chunkwise/chunkwise/item/RecordBuilder", "append", "(C)V"⟩ : MethodName)) (argsL := [(.int c2)]) (rest := []) (W := 0) (kc := 0) (ks := 0) (wl := [b_3, a_14]) at_117 rfl (wd15 hw) (wd16 hw) (wd18 hw) (wd17 hw) (by decide) ⟨rfl, rfl⟩ (RB.exa R_32) (lenOf pd_17 rfl) rfl rfl (Nat.le_of_ble_eq_true rfl) (Ok.pays (ok_app hw b_3 a_14 b_15 c2 (lat_char l2) (Nat.lt_of_lt_of_le (Nat.lt_succ_self _) (Nat.le_of_ble_eq_true rfl)) R_32) (wd19 hw) (wd2 hw) (by decide) (by decide)) (fun v h' q => q.2.1) (allS ⟨(RB.gx R_32), (Sf.exa (RB.exa R_32) (by decide) (by decide))⟩ (allS ⟨(RB.ga R_32), (RB.sfa R_32)⟩ all0)) (by decide) (by decide) ?_
      rintro _ h_35 ⟨rfl, KK_33, FF_34⟩
      refine Run.cast (st' := []) rfl ?_
      have szh_35 := KK_33.1
      have R_36 : RB Z h_35 n0 b_3 a_14 b_15 [c1, c2] [Int32.ofNat 0, Int32.ofNat 0] 16 := FF_34
      refine r_aload at_120 rfl rfl rfl ?_
      refine r_virtual (y := (⟨"com/example/chunkwise/chunkwise/item/RecordBuilder", "endValue", "()V"⟩ : MethodName)) (argsL := []) (rest := []) (W := 0) (kc := 0) (ks := 0) (wl := [b_3, b_15]) at_122 rfl (wd26 hw) (wd27 hw) (wd29 hw) (wd28 hw) (by decide) ⟨rfl, rfl⟩ (RB.exa R_36) (lenOf pd_11 rfl) rfl rfl (Nat.le_of_ble_eq_true rfl) (Ok.pays (ok_end hw b_3 a_14 b_15 (Nat.le_of_ble_eq_true rfl) (by decide) R_36) (wd30 hw) (wd2 hw) (by decide) (by decide)) (fun v h' q => q.2.1) (allS ⟨(RB.gx R_36), (Sf.exa (RB.exa R_36) (by decide) (by decide))⟩ (allS ⟨(RB.gb R_36), (RB.sfb R_36)⟩ all0)) (by decide) (by decide) ?_
      rintro _ h_39 ⟨rfl, KK_37, FF_38⟩
      refine Run.cast (st' := []) rfl ?_
      have szh_39 := KK_37.1
      have R_40 : RB Z h_39 n0 b_3 a_14 b_15 [c1, c2] [Int32.ofNat 0, Int32.ofNat 0, Int32.ofNat 2] 16 := FF_38
      refine r_iload at_125 rfl rfl ?_
      refine r_ifeq (pc2 := 135) at_127 rfl rfl (fun _ => ?_) (fun cc => absurd rfl cc)
      refine r_iconst (v := 2) at_135 rfl rfl ?_
      refine r_istore (l' := #[.val (.int p0), .val (.int p1), .val (.int p2), .val (.int p3), .val (.int c0), .val (.int c1), .val (.int c2), .val (.int (0 : Int32)), .val (.int (0 : Int32)), .val (.ref b_3), .val (.int (2 : Int32)), .unset, .unset, .unset, .unset, .unset, .unset]) at_136 rfl rfl ?_
      refine r_aload at_138 rfl rfl rfl ?_
      refine r_virtual (y := (⟨"com/example/chunkwise/chunkwise/item/RecordBuilder", "size", "()I"⟩ : MethodName)) (argsL := []) (rest := []) (W := 0) (kc := 0) (ks := 0) (wl := []) at_140 rfl (wd33 hw) (wd34 hw) (wd36 hw) (wd35 hw) (by decide) ⟨rfl, rfl⟩ (RB.exa R_40) (lenOf pd_18 rfl) rfl rfl (Nat.le_of_ble_eq_true rfl) (Ok.pays (ok_size hw b_3 a_14 b_15 R_40) (wd37 hw) (wd2 hw) (by decide) (by decide)) (fun v h' q => q.2 ▸ Keep.refl _ _) all0 (by decide) (by decide) ?_
      rintro _ h_41 ⟨rfl, eqh⟩
      subst h_41
      refine Run.cast (st' := [(.int (Int32.ofNat [Int32.ofNat 0, Int32.ofNat 0, Int32.ofNat 2].length))]) rfl ?_
      refine r_iload at_143 rfl rfl ?_
      refine r_iconst (v := 1) at_145 rfl rfl ?_
      refine r_iadd at_146 rfl ?_
      refine r_icmpeq (pc2 := 152) at_147 rfl rfl (fun _ => ?_) (fun cc => absurd (by first | rfl | decide) cc)
      refine r_aload at_152 rfl rfl rfl ?_
      refine r_iconst (v := 0) at_154 rfl rfl ?_
      rw [show (0 : Int32) = (Int32.ofNat 0) from rfl]
      refine r_virtualW (y := (⟨"com/example/chunkwise/chunkwise/item/RecordBuilder", "get", "(I)Ljava/lang/String;"⟩ : MethodName)) (argsL := [(.int (Int32.ofNat 0))]) (rest := []) (W := 0) (kc := 5) (ks := 12) (wl := []) rfl at_155 rfl (wd38 hw) (wd39 hw) (wd41 hw) (wd40 hw) (by decide) ⟨rfl, rfl⟩ (RB.exa R_40) (lenOf pd_19 rfl) rfl rfl (Nat.le_of_ble_eq_true rfl) (Ok.paysW (ok_gete hw b_3 a_14 b_15 0 0 (Nat.le_of_ble_eq_true rfl) (Nat.le_of_ble_eq_true rfl) (by decide) (fun _ => rfl) (fun q => absurd q (by decide)) rfl (by decide) SF rF R_40) (wd42 hw) (wd2 hw) (by decide) (by decide)) (by simp) (fun v h' q => by obtain ⟨_, _, _, K, _⟩ := q; exact K) all0 (by decide) (by decide) ?_
      rintro _ h_46 ⟨a_42, t_43, rfl, KK_44, SS_45⟩
      refine Run.forget (My' := [b_3]) (by simp [refs]) ?_
      refine Run.cast (st' := [(.ref a_42)]) rfl ?_
      have szh_46 := KK_44.1
      have R_47 : RB Z h_46 n0 b_3 a_14 b_15 [c1, c2] [Int32.ofNat 0, Int32.ofNat 0, Int32.ofNat 2] 16 := (RB.keep R_40 KK_44)
      have lt_48 : @LT.lt Nat instLTNat a_42 (Array.size h_46) := (Str.lt SS_45)
      have lt_49 : @LT.lt Nat instLTNat t_43 (Array.size h_46) := (Str.ltB SS_45)
      refine r_astore (l' := #[.val (.int p0), .val (.int p1), .val (.int p2), .val (.int p3), .val (.int c0), .val (.int c1), .val (.int c2), .val (.int (Int32.ofNat 0)), .val (.int (Int32.ofNat 0)), .val (.ref b_3), .val (.int (2 : Int32)), .val (.ref a_42), .unset, .unset, .unset, .unset, .unset]) at_158 rfl rfl rfl ?_
      refine r_iload at_160 rfl rfl ?_
      refine r_ifeq (pc2 := 193) at_162 rfl rfl (fun _ => ?_) (fun cc => absurd rfl cc)
      refine r_aload at_193 rfl rfl rfl ?_
      refine r_virtual (y := (⟨"java/lang/String", "isEmpty", "()Z"⟩ : MethodName)) (argsL := []) (rest := []) (W := 0) (kc := 0) (ks := 0) (wl := []) at_195 rfl (wd114 hw) (wd115 hw) (wd117 hw) (wd116 hw) (by decide) ⟨rfl, rfl⟩ (Str.exa SS_45) (lenOf pd_3 rfl) rfl rfl (Nat.le_of_ble_eq_true rfl) (Ok.pays (ok_semp hw a_42 t_43 (fun c hc => absurd hc List.not_mem_nil) (Nat.zero_le _) SS_45) (wd118 hw) (wd45 hw) (by decide) (by decide)) (fun v h' q => q.2 ▸ Keep.refl _ _) all0 (by decide) (by decide) ?_
      rintro _ h_50 ⟨rfl, eqh⟩
      subst h_50
      refine Run.cast (st' := [(.int (if ([] : List Int32).length = 0 then 1 else 0))]) rfl ?_
      rw [show (if ([] : List Int32).length = 0 then 1 else 0) = (1 : Int32) from rfl]
      refine r_istore (l' := #[.val (.int p0), .val (.int p1), .val (.int p2), .val (.int p3), .val (.int c0), .val (.int c1), .val (.int c2), .val (.int (Int32.ofNat 0)), .val (.int (Int32.ofNat 0)), .val (.ref b_3), .val (.int (2 : Int32)), .val (.ref a_42), .val (.int (1 : Int32)), .unset, .unset, .unset, .unset]) at_198 rfl rfl ?_
      refine r_aload at_200 rfl rfl rfl ?_
      refine r_iconst (v := 1) at_202 rfl rfl ?_
      rw [show (1 : Int32) = (Int32.ofNat 1) from rfl]
      refine r_virtualW (y := (⟨"com/example/chunkwise/chunkwise/item/RecordBuilder", "get", "(I)Ljava/lang/String;"⟩ : MethodName)) (argsL := [(.int (Int32.ofNat 1))]) (rest := []) (W := 0) (kc := 5) (ks := 12) (wl := []) rfl at_203 rfl (wd38 hw) (wd39 hw) (wd41 hw) (wd40 hw) (by decide) ⟨rfl, rfl⟩ (RB.exa R_47) (lenOf pd_19 rfl) rfl rfl (Nat.le_of_ble_eq_true rfl) (Ok.paysW (ok_gete hw b_3 a_14 b_15 1 0 (Nat.le_of_ble_eq_true rfl) (Nat.le_of_ble_eq_true rfl) (by decide) (fun _ => rfl) (fun _ => rfl) rfl (by decide) SF rF R_47) (wd42 hw) (wd2 hw) (by decide) (by decide)) (by simp) (fun v h' q => by obtain ⟨_, _, _, K, _⟩ := q; exact K) all0 (by decide) (by decide) ?_
      rintro _ h_55 ⟨a_51, t_52, rfl, KK_53, SS_54⟩
      refine Run.forget (My' := [b_3]) (by simp [refs]) ?_
      refine Run.cast (st' := [(.ref a_51)]) rfl ?_
      have szh_55 := KK_53.1
      have R_56 : RB Z h_55 n0 b_3 a_14 b_15 [c1, c2] [Int32.ofNat 0, Int32.ofNat 0, Int32.ofNat 2] 16 := (RB.keep R_47 KK_53)
      have lt_57 : @LT.lt Nat instLTNat a_51 (Array.size h_55) := (Str.lt SS_54)
      have lt_58 : @LT.lt Nat instLTNat t_52 (Array.size h_55) := (Str.ltB SS_54)
      refine r_virtual (y := (⟨"java/lang/String", "isEmpty", "()Z"⟩ : MethodName)) (argsL := []) (rest := []) (W := 0) (kc := 0) (ks := 0) (wl := []) at_206 rfl (wd114 hw) (wd115 hw) (wd117 hw) (wd116 hw) (by decide) ⟨rfl, rfl⟩ (Str.exa SS_54) (lenOf pd_3 rfl) rfl rfl (Nat.le_of_ble_eq_true rfl) (Ok.pays (ok_semp hw a_51 t_52 (fun c hc => absurd hc List.not_mem_nil) (Nat.zero_le _) SS_54) (wd118 hw) (wd45 hw) (by decide) (by decide)) (fun v h' q => q.2 ▸ Keep.refl _ _) all0 (by decide) (by decide) ?_
      rintro _ h_59 ⟨rfl, eqh⟩
      subst h_59
      refine Run.cast (st' := [(.int (if ([] : List Int32).length = 0 then 1 else 0))]) rfl ?_
      rw [show (if ([] : List Int32).length = 0 then 1 else 0) = (1 : Int32) from rfl]
      refine r_istore (l' := #[.val (.int p0), .val (.int p1), .val (.int p2), .val (.int p3), .val (.int c0), .val (.int c1), .val (.int c2), .val (.int (Int32.ofNat 0)), .val (.int (Int32.ofNat 0)), .val (.ref b_3), .val (.int (2 : Int32)), .val (.ref a_42), .val (.int (Int32.ofNat 1)), .val (.int (1 : Int32)), .unset, .unset, .unset]) at_209 rfl rfl ?_
      refine r_aload at_211 rfl rfl rfl ?_
      refine r_iload at_213 rfl rfl ?_
      rw [show (2 : Int32) = (Int32.ofNat 2) from rfl]
      refine r_virtual (y := (⟨"com/example/chunkwise/chunkwise/item/RecordBuilder", "get", "(I)Ljava/lang/String;"⟩ : MethodName)) (argsL := [(.int (Int32.ofNat 2))]) (rest := []) (W := 0) (kc := 2) (ks := 8) (wl := []) at_215 rfl (wd38 hw) (wd39 hw) (wd41 hw) (wd40 hw) (by decide) ⟨rfl, rfl⟩ (RB.exa R_56) (lenOf pd_19 rfl) rfl rfl (Nat.le_of_ble_eq_true rfl) (Ok.pays (ok_getf hw b_3 a_14 b_15 (cs := [c1, c2]) 2 0 (Nat.le_of_ble_eq_true rfl) (Nat.le_of_ble_eq_true rfl) (by decide) (fun _ => rfl) (fun _ => rfl) rfl (by intro i hi; match i, hi with | 0, _ => rfl | 1, _ => rfl) (lat_2 l1 l2) (Nat.le_of_ble_eq_true rfl) (Nat.le_of_ble_eq_true rfl) (Nat.le_of_ble_eq_true rfl) SC nC SF rF R_56) (wd42 hw) (wd2 hw) (by decide) (by decide)) (fun v h' q => by obtain ⟨_, _, _, K, _⟩ := q; exact K) all0 (by decide) (by decide) ?_
      rintro _ h_64 ⟨a_60, t_61, rfl, KK_62, SS_63⟩
      refine Run.cast (st' := [(.ref a_60)]) rfl ?_
      have szh_64 := KK_62.1
      have R_65 : RB Z h_64 n0 b_3 a_14 b_15 [c1, c2] [Int32.ofNat 0, Int32.ofNat 0, Int32.ofNat 2] 16 := (RB.keep R_56 KK_62)
      have lt_66 : @LT.lt Nat instLTNat a_60 (Array.size h_64) := (Str.lt SS_63)
      have lt_67 : @LT.lt Nat instLTNat t_61 (Array.size h_64) := (Str.ltB SS_63)
      refine r_astore (l' := #[.val (.int p0), .val (.int p1), .val (.int p2), .val (.int p3), .val (.int c0), .val (.int c1), .val (.int c2), .val (.int (Int32.ofNat 0)), .val (.int (Int32.ofNat 0)), .val (.ref b_3), .val (.int (Int32.ofNat 2)), .val (.ref a_42), .val (.int (Int32.ofNat 1)), .val (.int (1 : Int32)), .val (.ref a_60), .unset, .unset]) at_218 rfl rfl rfl ?_
      refine r_aload at_220 rfl rfl rfl ?_
      refine r_virtual (y := (⟨"java/lang/String", "length", "()I"⟩ : MethodName)) (argsL := []) (rest := []) (W := 0) (kc := 0) (ks := 0) (wl := []) at_222 rfl (wd81 hw) (wd82 hw) (wd84 hw) (wd83 hw) (by decide) ⟨rfl, rfl⟩ (Str.exa SS_63) (lenOf pd_18 rfl) rfl rfl (Nat.le_of_ble_eq_true rfl) (Ok.pays (ok_slen hw a_60 t_61 (lat_2 l1 l2) (Nat.le_of_ble_eq_true rfl) SC nC SS_63) (wd85 hw) (wd45 hw) (by decide) (by decide)) (fun v h' q => q.2 ▸ Keep.refl _ _) all0 (by decide) (by decide) ?_
      rintro _ h_68 ⟨rfl, eqh⟩
      subst h_68
      refine Run.cast (st' := [(.int (Int32.ofNat [c1, c2].length))]) rfl ?_
      refine r_iconst (v := 2) at_225 rfl rfl ?_
      refine r_icmpne (pc2 := 255) at_226 rfl rfl (fun cc => absurd (by rfl) cc) (fun _ => ?_)
      refine r_aload at_229 rfl rfl rfl ?_
      refine r_iconst (v := 0) at_231 rfl rfl ?_
      rw [show (0 : Int32) = (Int32.ofNat 0) from rfl]
      refine r_virtual (y := (⟨"java/lang/String", "charAt", "(I)C"⟩ : MethodName)) (argsL := [(.int (Int32.ofNat 0))]) (rest := []) (W := 0) (kc := 0) (ks := 0) (wl := []) at_232 rfl (wd91 hw) (wd92 hw) (wd94 hw) (wd93 hw) (by decide) ⟨rfl, rfl⟩ (Str.exa SS_63) (lenOf pd_20 rfl) rfl rfl (Nat.le_of_ble_eq_true rfl) (Ok.pays (ok_sch hw a_60 t_61 (lat_2 l1 l2) (Nat.le_of_ble_eq_true rfl) 0 (Nat.le_of_ble_eq_true rfl) SC nC SF rF SS_63) (wd95 hw) (wd45 hw) (by decide) (by decide)) (fun v h' q => q.2 ▸ Keep.refl _ _) all0 (by decide) (by decide) ?_
      rintro _ h_69 ⟨rfl, eqh⟩
      subst h_69
      refine Run.cast (st' := [(.int ([c1, c2].getD 0 0))]) rfl ?_
      refine r_iload at_235 rfl rfl ?_
      refine r_icmpne (pc2 := 255) at_237 rfl rfl (fun cc => absurd (by rfl) cc) (fun _ => ?_)
      refine r_aload at_240 rfl rfl rfl ?_
      refine r_iconst (v := 1) at_242 rfl rfl ?_
      rw [show (1 : Int32) = (Int32.ofNat 1) from rfl]
      refine r_virtual (y := (⟨"java/lang/String", "charAt", "(I)C"⟩ : MethodName)) (argsL := [(.int (Int32.ofNat 1))]) (rest := []) (W := 0) (kc := 0) (ks := 0) (wl := []) at_243 rfl (wd91 hw) (wd92 hw) (wd94 hw) (wd93 hw) (by decide) ⟨rfl, rfl⟩ (Str.exa SS_63) (lenOf pd_20 rfl) rfl rfl (Nat.le_of_ble_eq_true rfl) (Ok.pays (ok_sch hw a_60 t_61 (lat_2 l1 l2) (Nat.le_of_ble_eq_true rfl) 1 (Nat.le_of_ble_eq_true rfl) SC nC SF rF SS_63) (wd95 hw) (wd45 hw) (by decide) (by decide)) (fun v h' q => q.2 ▸ Keep.refl _ _) all0 (by decide) (by decide) ?_
      rintro _ h_70 ⟨rfl, eqh⟩
      subst h_70
      refine Run.cast (st' := [(.int ([c1, c2].getD 1 0))]) rfl ?_
      refine r_iload at_246 rfl rfl ?_
      refine r_icmpne (pc2 := 255) at_248 rfl rfl (fun cc => absurd (by rfl) cc) (fun _ => ?_)
      refine r_iconst (v := 1) at_251 rfl rfl ?_
      refine r_goto (pc' := 256) at_252 rfl ?_
      refine r_istore (l' := #[.val (.int p0), .val (.int p1), .val (.int p2), .val (.int p3), .val (.int c0), .val (.int c1), .val (.int c2), .val (.int (Int32.ofNat 0)), .val (.int (Int32.ofNat 0)), .val (.ref b_3), .val (.int (Int32.ofNat 2)), .val (.ref a_42), .val (.int (Int32.ofNat 1)), .val (.int (Int32.ofNat 1)), .val (.ref a_60), .val (.int (1 : Int32)), .unset]) at_256 rfl rfl ?_
      refine r_iload at_258 rfl rfl ?_
      refine r_ifeq (pc2 := 302) at_260 rfl rfl (fun _ => ?_) (fun cc => absurd rfl cc)
      refine r_iconst (v := 1) at_302 rfl rfl ?_
      refine r_goto (pc' := 307) at_303 rfl ?_
      refine r_istore (l' := #[.val (.int p0), .val (.int p1), .val (.int p2), .val (.int p3), .val (.int c0), .val (.int c1), .val (.int c2), .val (.int (Int32.ofNat 0)), .val (.int (Int32.ofNat 0)), .val (.ref b_3), .val (.int (Int32.ofNat 2)), .val (.ref a_42), .val (.int (Int32.ofNat 1)), .val (.int (Int32.ofNat 1)), .val (.ref a_60), .val (.int (1 : Int32)), .val (.int (1 : Int32))]) at_307 rfl rfl ?_
      refine r_iload at_309 rfl rfl ?_
      refine r_ifeq (pc2 := 333) at_311 rfl rfl (fun cc => absurd cc (by decide)) (fun _ => ?_)
      refine r_iload at_314 rfl rfl ?_
      refine r_ifeq (pc2 := 333) at_316 rfl rfl (fun cc => absurd cc (by decide)) (fun _ => ?_)
      refine r_iload at_319 rfl rfl ?_
      refine r_ifeq (pc2 := 333) at_321 rfl rfl (fun cc => absurd cc (by decide)) (fun _ => ?_)
      refine r_iload at_324 rfl rfl ?_
      refine r_ifeq (pc2 := 333) at_326 rfl rfl (fun cc => absurd cc (by decide)) (fun _ => ?_)
      refine r_iconst (v := 1) at_329 rfl rfl ?_
      refine r_goto (pc' := 334) at_330 rfl ?_
      exact r_ireturnN (t := .boolean) at_334 rfl (by simp) rfl (by simp) (by decide) (by decide)
    · refine r_iconst (v := 1) at_43 rfl rfl ?_
      refine r_goto (pc' := 48) at_44 rfl ?_
      refine r_istore (l' := #[.val (.int p0), .val (.int p1), .val (.int p2), .val (.int p3), .val (.int c0), .val (.int c1), .val (.int c2), .val (.int (0 : Int32)), .val (.int (1 : Int32)), .unset, .unset, .unset, .unset, .unset, .unset, .unset, .unset]) at_48 rfl rfl ?_
      refine r_new at_50 rfl (wd0 hw) (wd1 hw) (wd2 hw) (by decide) (by decide) ?_
      intro h_72 b_71 gb_71 ltb_71 E_73 A_74 D_75 U_76
      have szh_72 := E_73.1
      have geb_71 : n0 ≤ b_71 := by omega
      have F_77 : Fld Z h_72 b_71 "com/example/chunkwise/chunkwise/item/RecordBuilder" "text" "[C" .null := D_75 (Or.inl (wd11 hw)) (ty := (.array .char)) (by decide)
      have F_78 : Fld Z h_72 b_71 "com/example/chunkwise/chunkwise/item/RecordBuilder" "ends" "[I" .null := D_75 (Or.inl (wd14 hw)) (ty := (.array .int)) (by decide)
      have F_79 : Fld Z h_72 b_71 "com/example/chunkwise/chunkwise/item/RecordBuilder" "length" "I" (.int (0 : Int32)) := D_75 (Or.inl (wd25 hw)) (ty := .int) (by decide)
      have F_80 : Fld Z h_72 b_71 "com/example/chunkwise/chunkwise/item/RecordBuilder" "count" "I" (.int (0 : Int32)) := D_75 (Or.inl (wd32 hw)) (ty := .int) (by decide)
      refine r_dup at_53 rfl rfl ?_
      refine r_special (y := (⟨"com/example/chunkwise/chunkwise/item/RecordBuilder", "<init>", "()V"⟩ : MethodName)) (argsL := []) (rest := [(.ref b_71)]) (W := 1) (kc := 2) (ks := 272) (wl := [b_71]) at_54 rfl rfl (wd3 hw) (wd4 hw) (wd5 hw) (by decide) (lenOf pd_11 rfl) rfl rfl (Nat.le_of_ble_eq_true rfl) (Ok.pays (ok_ri hw b_71 A_74 F_77 F_78 F_79 F_80 geb_71) (wd5 hw) (wd2 hw) (by decide) (by decide)) (fun v h' q => q.2.1) (allS ⟨geb_71, (Sf.exa A_74 (by decide) (by decide))⟩ all0) (by decide) (by decide) ?_
      rintro _ h_87 ⟨rfl, KK_81, a_82, b_83, hg_85, hg_86, FF_84⟩
      refine Run.cast (st' := [(.ref b_71)]) rfl ?_
      have szh_87 := KK_81.1
      have R_88 : RB Z h_87 n0 b_71 a_82 b_83 ([] : List Int32) ([] : List Int32) 16 := FF_84
      refine r_astore (l' := #[.val (.int p0), .val (.int p1), .val (.int p2), .val (.int p3), .val (.int c0), .val (.int c1), .val (.int c2), .val (.int (0 : Int32)), .val (.int (1 : Int32)), .val (.ref b_71), .unset, .unset, .unset, .unset, .unset, .unset, .unset]) at_57 rfl rfl rfl ?_
      refine r_iload at_59 rfl rfl ?_
      refine r_ifeq (pc2 := 71) at_61 rfl rfl (fun _ => ?_) (fun cc => absurd rfl cc)
      refine r_aload at_71 rfl rfl rfl ?_
      refine r_virtual (y := (⟨"com/example/chunkwise/chunkwise/item/RecordBuilder", "endValue", "()V"⟩ : MethodName)) (argsL := []) (rest := []) (W := 0) (kc := 0) (ks := 0) (wl := [b_71, b_83]) at_73 rfl (wd26 hw) (wd27 hw) (wd29 hw) (wd28 hw) (by decide) ⟨rfl, rfl⟩ (RB.exa R_88) (lenOf pd_11 rfl) rfl rfl (Nat.le_of_ble_eq_true rfl) (Ok.pays (ok_end hw b_71 a_82 b_83 (Nat.le_of_ble_eq_true rfl) (by decide) R_88) (wd30 hw) (wd2 hw) (by decide) (by decide)) (fun v h' q => q.2.1) (allS ⟨(RB.gx R_88), (Sf.exa (RB.exa R_88) (by decide) (by decide))⟩ (allS ⟨(RB.gb R_88), (RB.sfb R_88)⟩ all0)) (by decide) (by decide) ?_
      rintro _ h_91 ⟨rfl, KK_89, FF_90⟩
      refine Run.cast (st' := []) rfl ?_
      have szh_91 := KK_89.1
      have R_92 : RB Z h_91 n0 b_71 a_82 b_83 ([] : List Int32) [Int32.ofNat 0] 16 := FF_90
      refine r_aload at_76 rfl rfl rfl ?_
      refine r_virtual (y := (⟨"com/example/chunkwise/chunkwise/item/RecordBuilder", "endValue", "()V"⟩ : MethodName)) (argsL := []) (rest := []) (W := 0) (kc := 0) (ks := 0) (wl := [b_71, b_83]) at_78 rfl (wd26 hw) (wd27 hw) (wd29 hw) (wd28 hw) (by decide) ⟨rfl, rfl⟩ (RB.exa R_92) (lenOf pd_11 rfl) rfl rfl (Nat.le_of_ble_eq_true rfl) (Ok.pays (ok_end hw b_71 a_82 b_83 (Nat.le_of_ble_eq_true rfl) (by decide) R_92) (wd30 hw) (wd2 hw) (by decide) (by decide)) (fun v h' q => q.2.1) (allS ⟨(RB.gx R_92), (Sf.exa (RB.exa R_92) (by decide) (by decide))⟩ (allS ⟨(RB.gb R_92), (RB.sfb R_92)⟩ all0)) (by decide) (by decide) ?_
      rintro _ h_95 ⟨rfl, KK_93, FF_94⟩
      refine Run.cast (st' := []) rfl ?_
      have szh_95 := KK_93.1
      have R_96 : RB Z h_95 n0 b_71 a_82 b_83 ([] : List Int32) [Int32.ofNat 0, Int32.ofNat 0] 16 := FF_94
      refine r_iload at_81 rfl rfl ?_
      refine r_ifeq (pc2 := 106) at_83 rfl rfl (fun cc => absurd cc (by decide)) (fun _ => ?_)
      refine r_aload at_86 rfl rfl rfl ?_
      refine r_static (y := (⟨"com/example/chunkwise/chunkwise/item/RecordBuilderEndValuePinLaw", "four", "(Lcom/example/chunkwise/chunkwise/item/RecordBuilder;)V"⟩ : MethodName)) (argsL := [(.ref b_71)]) (rest := []) (W := 0) (kc := 0) (ks := 0) (wl := [b_71, b_83]) at_88 rfl (wd119 hw) (wd120 hw) (wd121 hw) (wd122 hw) (by decide) (lenOf pd_21 rfl) rfl rfl (Nat.le_of_ble_eq_true rfl) (Ok.pays (ok_four hw b_71 a_82 b_83 (Nat.le_of_ble_eq_true rfl) (by decide) R_96) (wd122 hw) (wd121 hw) (by decide) (by decide)) (fun v h' q => q.2.1) (allS ⟨(RB.gx R_96), (Sf.exa (RB.exa R_96) (by decide) (by decide))⟩ (allS ⟨(RB.gb R_96), (RB.sfb R_96)⟩ all0)) (by decide) (by decide) ?_
      rintro _ h_99 ⟨rfl, KK_97, FF_98⟩
      refine Run.cast (st' := []) rfl ?_
      have szh_99 := KK_97.1
      have R_100 : RB Z h_99 n0 b_71 a_82 b_83 ([] : List Int32) [Int32.ofNat 0, Int32.ofNat 0, Int32.ofNat 0, Int32.ofNat 0, Int32.ofNat 0, Int32.ofNat 0] 16 := FF_98
      refine r_aload at_91 rfl rfl rfl ?_
      refine r_static (y := (⟨"com/example/chunkwise/chunkwise/item/RecordBuilderEndValuePinLaw", "four", "(Lcom/example/chunkwise/chunkwise/item/RecordBuilder;)V"⟩ : MethodName)) (argsL := [(.ref b_71)]) (rest := []) (W := 0) (kc := 0) (ks := 0) (wl := [b_71, b_83]) at_93 rfl (wd119 hw) (wd120 hw) (wd121 hw) (wd122 hw) (by decide) (lenOf pd_21 rfl) rfl rfl (Nat.le_of_ble_eq_true rfl) (Ok.pays (ok_four hw b_71 a_82 b_83 (Nat.le_of_ble_eq_true rfl) (by decide) R_100) (wd122 hw) (wd121 hw) (by decide) (by decide)) (fun v h' q => q.2.1) (allS ⟨(RB.gx R_100), (Sf.exa (RB.exa R_100) (by decide) (by decide))⟩ (allS ⟨(RB.gb R_100), (RB.sfb R_100)⟩ all0)) (by decide) (by decide) ?_
      rintro _ h_103 ⟨rfl, KK_101, FF_102⟩
      refine Run.cast (st' := []) rfl ?_
      have szh_103 := KK_101.1
      have R_104 : RB Z h_103 n0 b_71 a_82 b_83 ([] : List Int32) [Int32.ofNat 0, Int32.ofNat 0, Int32.ofNat 0, Int32.ofNat 0, Int32.ofNat 0, Int32.ofNat 0, Int32.ofNat 0, Int32.ofNat 0, Int32.ofNat 0, Int32.ofNat 0] 16 := FF_102
      refine r_aload at_96 rfl rfl rfl ?_
      refine r_static (y := (⟨"com/example/chunkwise/chunkwise/item/RecordBuilderEndValuePinLaw", "four", "(Lcom/example/chunkwise/chunkwise/item/RecordBuilder;)V"⟩ : MethodName)) (argsL := [(.ref b_71)]) (rest := []) (W := 0) (kc := 0) (ks := 0) (wl := [b_71, b_83]) at_98 rfl (wd119 hw) (wd120 hw) (wd121 hw) (wd122 hw) (by decide) (lenOf pd_21 rfl) rfl rfl (Nat.le_of_ble_eq_true rfl) (Ok.pays (ok_four hw b_71 a_82 b_83 (Nat.le_of_ble_eq_true rfl) (by decide) R_104) (wd122 hw) (wd121 hw) (by decide) (by decide)) (fun v h' q => q.2.1) (allS ⟨(RB.gx R_104), (Sf.exa (RB.exa R_104) (by decide) (by decide))⟩ (allS ⟨(RB.gb R_104), (RB.sfb R_104)⟩ all0)) (by decide) (by decide) ?_
      rintro _ h_107 ⟨rfl, KK_105, FF_106⟩
      refine Run.cast (st' := []) rfl ?_
      have szh_107 := KK_105.1
      have R_108 : RB Z h_107 n0 b_71 a_82 b_83 ([] : List Int32) [Int32.ofNat 0, Int32.ofNat 0, Int32.ofNat 0, Int32.ofNat 0, Int32.ofNat 0, Int32.ofNat 0, Int32.ofNat 0, Int32.ofNat 0, Int32.ofNat 0, Int32.ofNat 0, Int32.ofNat 0, Int32.ofNat 0, Int32.ofNat 0, Int32.ofNat 0] 16 := FF_106
      refine r_aload at_101 rfl rfl rfl ?_
      refine r_static (y := (⟨"com/example/chunkwise/chunkwise/item/RecordBuilderEndValuePinLaw", "four", "(Lcom/example/chunkwise/chunkwise/item/RecordBuilder;)V"⟩ : MethodName)) (argsL := [(.ref b_71)]) (rest := []) (W := 0) (kc := 1) (ks := 32) (wl := [b_71, b_83]) at_103 rfl (wd119 hw) (wd120 hw) (wd121 hw) (wd122 hw) (by decide) (lenOf pd_21 rfl) rfl rfl (Nat.le_of_ble_eq_true rfl) (Ok.pays (ok_fourg hw b_71 a_82 b_83 rfl R_108) (wd122 hw) (wd121 hw) (by decide) (by decide)) (fun v h' q => q.2.1) (allS ⟨(RB.gx R_108), (Sf.exa (RB.exa R_108) (by decide) (by decide))⟩ (allS ⟨(RB.gb R_108), (RB.sfb R_108)⟩ all0)) (by decide) (by decide) ?_
      rintro _ h_113 ⟨rfl, KK_109, b_111, hge_112, FF_110⟩
      refine Run.cast (st' := []) rfl ?_
      have szh_113 := KK_109.1
      have R_114 : RB Z h_113 n0 b_71 a_82 b_111 ([] : List Int32) [Int32.ofNat 0, Int32.ofNat 0, Int32.ofNat 0, Int32.ofNat 0, Int32.ofNat 0, Int32.ofNat 0, Int32.ofNat 0, Int32.ofNat 0, Int32.ofNat 0, Int32.ofNat 0, Int32.ofNat 0, Int32.ofNat 0, Int32.ofNat 0, Int32.ofNat 0, Int32.ofNat 0, Int32.ofNat 0, Int32.ofNat 0, Int32.ofNat 0] 32 := FF_110
      refine r_aload at_106 rfl rfl rfl ?_
      refine r_iload at_108 rfl rfl ?_
      refine r_virtual (y := (⟨"com/example/chunkwise/chunkwise/item/RecordBuilder", "append", "(C)V"⟩ : MethodName)) (argsL := [(.int c1)]) (rest := []) (W := 0) (kc := 0) (ks := 0) (wl := [b_71, a_82]) at_110 rfl (wd15 hw) (wd16 hw) (wd18 hw) (wd17 hw) (by decide) ⟨rfl, rfl⟩ (RB.exa R_114) (lenOf pd_17 rfl) rfl rfl (Nat.le_of_ble_eq_true rfl) (Ok.pays (ok_app hw b_71 a_82 b_111 c1 (lat_char l1) (Nat.lt_of_lt_of_le (Nat.lt_succ_self _) (Nat.le_of_ble_eq_true rfl)) R_114) (wd19 hw) (wd2 hw) (by decide) (by decide)) (fun v h' q => q.2.1) (allS ⟨(RB.gx R_114), (Sf.exa (RB.exa R_114) (by decide) (by decide))⟩ (allS ⟨(RB.ga R_114), (RB.sfa R_114)⟩ all0)) (by decide) (by decide) ?_
      rintro _ h_117 ⟨rfl, KK_115, FF_116⟩
      refine Run.cast (st' := []) rfl ?_
      have szh_117 := KK_115.1
      have R_118 : RB Z h_117 n0 b_71 a_82 b_111 [c1] [Int32.ofNat 0, Int32.ofNat 0, Int32.ofNat 0, Int32.ofNat 0, Int32.ofNat 0, Int32.ofNat 0, Int32.ofNat 0, Int32.ofNat 0, Int32.ofNat 0, Int32.ofNat 0, Int32.ofNat 0, Int32.ofNat 0, Int32.ofNat 0, Int32.ofNat 0, Int32.ofNat 0, Int32.ofNat 0, Int32.ofNat 0, Int32.ofNat 0] 32 := FF_116
      refine r_aload at_113 rfl rfl rfl ?_
      refine r_iload at_115 rfl rfl ?_
      refine r_virtual (y := (⟨"com/example/chunkwise/chunkwise/item/RecordBuilder", "append", "(C)V"⟩ : MethodName)) (argsL := [(.int c2)]) (rest := []) (W := 0) (kc := 0) (ks := 0) (wl := [b_71, a_82]) at_117 rfl (wd15 hw) (wd16 hw) (wd18 hw) (wd17 hw) (by decide) ⟨rfl, rfl⟩ (RB.exa R_118) (lenOf pd_17 rfl) rfl rfl (Nat.le_of_ble_eq_true rfl) (Ok.pays (ok_app hw b_71 a_82 b_111 c2 (lat_char l2) (Nat.lt_of_lt_of_le (Nat.lt_succ_self _) (Nat.le_of_ble_eq_true rfl)) R_118) (wd19 hw) (wd2 hw) (by decide) (by decide)) (fun v h' q => q.2.1) (allS ⟨(RB.gx R_118), (Sf.exa (RB.exa R_118) (by decide) (by decide))⟩ (allS ⟨(RB.ga R_118), (RB.sfa R_118)⟩ all0)) (by decide) (by decide) ?_
      rintro _ h_121 ⟨rfl, KK_119, FF_120⟩
      refine Run.cast (st' := []) rfl ?_
      have szh_121 := KK_119.1
      have R_122 : RB Z h_121 n0 b_71 a_82 b_111 [c1, c2] [Int32.ofNat 0, Int32.ofNat 0, Int32.ofNat 0, Int32.ofNat 0, Int32.ofNat 0, Int32.ofNat 0, Int32.ofNat 0, Int32.ofNat 0, Int32.ofNat 0, Int32.ofNat 0, Int32.ofNat 0, Int32.ofNat 0, Int32.ofNat 0, Int32.ofNat 0, Int32.ofNat 0, Int32.ofNat 0, Int32.ofNat 0, Int32.ofNat 0] 32 := FF_120
      refine r_aload at_120 rfl rfl rfl ?_
      refine r_virtual (y := (⟨"com/example/chunkwise/chunkwise/item/RecordBuilder", "endValue", "()V"⟩ : MethodName)) (argsL := []) (rest := []) (W := 0) (kc := 0) (ks := 0) (wl := [b_71, b_111]) at_122 rfl (wd26 hw) (wd27 hw) (wd29 hw) (wd28 hw) (by decide) ⟨rfl, rfl⟩ (RB.exa R_122) (lenOf pd_11 rfl) rfl rfl (Nat.le_of_ble_eq_true rfl) (Ok.pays (ok_end hw b_71 a_82 b_111 (Nat.le_of_ble_eq_true rfl) (by decide) R_122) (wd30 hw) (wd2 hw) (by decide) (by decide)) (fun v h' q => q.2.1) (allS ⟨(RB.gx R_122), (Sf.exa (RB.exa R_122) (by decide) (by decide))⟩ (allS ⟨(RB.gb R_122), (RB.sfb R_122)⟩ all0)) (by decide) (by decide) ?_
      rintro _ h_125 ⟨rfl, KK_123, FF_124⟩
      refine Run.cast (st' := []) rfl ?_
      have szh_125 := KK_123.1
      have R_126 : RB Z h_125 n0 b_71 a_82 b_111 [c1, c2] [Int32.ofNat 0, Int32.ofNat 0, Int32.ofNat 0, Int32.ofNat 0, Int32.ofNat 0, Int32.ofNat 0, Int32.ofNat 0, Int32.ofNat 0, Int32.ofNat 0, Int32.ofNat 0, Int32.ofNat 0, Int32.ofNat 0, Int32.ofNat 0, Int32.ofNat 0, Int32.ofNat 0, Int32.ofNat 0, Int32.ofNat 0, Int32.ofNat 0, Int32.ofNat 2] 32 := FF_124
      refine r_iload at_125 rfl rfl ?_
      refine r_ifeq (pc2 := 135) at_127 rfl rfl (fun cc => absurd cc (by decide)) (fun _ => ?_)
      refine r_bipush (v := 18) at_130 rfl rfl ?_
      refine r_goto (pc' := 136) at_132 rfl ?_
      refine r_istore (l' := #[.val (.int p0), .val (.int p1), .val (.int p2), .val (.int p3), .val (.int c0), .val (.int c1), .val (.int c2), .val (.int (0 : Int32)), .val (.int (1 : Int32)), .val (.ref b_71), .val (.int (18 : Int32)), .unset, .unset, .unset, .unset, .unset, .unset]) at_136 rfl rfl ?_
      refine r_aload at_138 rfl rfl rfl ?_
      refine r_virtual (y := (⟨"com/example/chunkwise/chunkwise/item/RecordBuilder", "size", "()I"⟩ : MethodName)) (argsL := []) (rest := []) (W := 0) (kc := 0) (ks := 0) (wl := []) at_140 rfl (wd33 hw) (wd34 hw) (wd36 hw) (wd35 hw) (by decide) ⟨rfl, rfl⟩ (RB.exa R_126) (lenOf pd_18 rfl) rfl rfl (Nat.le_of_ble_eq_true rfl) (Ok.pays (ok_size hw b_71 a_82 b_111 R_126) (wd37 hw) (wd2 hw) (by decide) (by decide)) (fun v h' q => q.2 ▸ Keep.refl _ _) all0 (by decide) (by decide) ?_
      rintro _ h_127 ⟨rfl, eqh⟩
      subst h_127
      refine Run.cast (st' := [(.int (Int32.ofNat [Int32.ofNat 0, Int32.ofNat 0, Int32.ofNat 0, Int32.ofNat 0, Int32.ofNat 0, Int32.ofNat 0, Int32.ofNat 0, Int32.ofNat 0, Int32.ofNat 0, Int32.ofNat 0, Int32.ofNat 0, Int32.ofNat 0, Int32.ofNat 0, Int32.ofNat 0, Int32.ofNat 0, Int32.ofNat 0, Int32.ofNat 0, Int32.ofNat 0, Int32.ofNat 2].length))]) rfl ?_
      refine r_iload at_143 rfl rfl ?_
      refine r_iconst (v := 1) at_145 rfl rfl ?_
      refine r_iadd at_146 rfl ?_
      refine r_icmpeq (pc2 := 152) at_147 rfl rfl (fun _ => ?_) (fun cc => absurd (by first | rfl | decide) cc)
      refine r_aload at_152 rfl rfl rfl ?_
      refine r_iconst (v := 0) at_154 rfl rfl ?_
      rw [show (0 : Int32) = (Int32.ofNat 0) from rfl]
      refine r_virtualW (y := (⟨"com/example/chunkwise/chunkwise/item/RecordBuilder", "get", "(I)Ljava/lang/String;"⟩ : MethodName)) (argsL := [(.int (Int32.ofNat 0))]) (rest := []) (W := 0) (kc := 5) (ks := 12) (wl := []) rfl at_155 rfl (wd38 hw) (wd39 hw) (wd41 hw) (wd40 hw) (by decide) ⟨rfl, rfl⟩ (RB.exa R_126) (lenOf pd_19 rfl) rfl rfl (Nat.le_of_ble_eq_true rfl) (Ok.paysW (ok_gete hw b_71 a_82 b_111 0 0 (Nat.le_of_ble_eq_true rfl) (Nat.le_of_ble_eq_true rfl) (by decide) (fun _ => rfl) (fun q => absurd q (by decide)) rfl (by decide) SF rF R_126) (wd42 hw) (wd2 hw) (by decide) (by decide)) (by simp) (fun v h' q => by obtain ⟨_, _, _, K, _⟩ := q; exact K) all0 (by decide) (by decide) ?_
      rintro _ h_132 ⟨a_128, t_129, rfl, KK_130, SS_131⟩
      refine Run.forget (My' := [b_71]) (by simp [refs]) ?_
      refine Run.cast (st' := [(.ref a_128)]) rfl ?_
      have szh_132 := KK_130.1
      have R_133 : RB Z h_132 n0 b_71 a_82 b_111 [c1, c2] [Int32.ofNat 0, Int32.ofNat 0, Int32.ofNat 0, Int32.ofNat 0, Int32.ofNat 0, Int32.ofNat 0, Int32.ofNat 0, Int32.ofNat 0, Int32.ofNat 0, Int32.ofNat 0, Int32.ofNat 0, Int32.ofNat 0, Int32.ofNat 0, Int32.ofNat 0, Int32.ofNat 0, Int32.ofNat 0, Int32.ofNat 0, Int32.ofNat 0, Int32.ofNat 2] 32 := (RB.keep R_126 KK_130)
      have lt_134 : @LT.lt Nat instLTNat a_128 (Array.size h_132) := (Str.lt SS_131)
      have lt_135 : @LT.lt Nat instLTNat t_129 (Array.size h_132) := (Str.ltB SS_131)
      refine r_astore (l' := #[.val (.int p0), .val (.int p1), .val (.int p2), .val (.int p3), .val (.int c0), .val (.int c1), .val (.int c2), .val (.int (Int32.ofNat 0)), .val (.int (1 : Int32)), .val (.ref b_71), .val (.int (18 : Int32)), .val (.ref a_128), .unset, .unset, .unset, .unset, .unset]) at_158 rfl rfl rfl ?_
      refine r_iload at_160 rfl rfl ?_
      refine r_ifeq (pc2 := 193) at_162 rfl rfl (fun _ => ?_) (fun cc => absurd rfl cc)
      refine r_aload at_193 rfl rfl rfl ?_
      refine r_virtual (y := (⟨"java/lang/String", "isEmpty", "()Z"⟩ : MethodName)) (argsL := []) (rest := []) (W := 0) (kc := 0) (ks := 0) (wl := []) at_195 rfl (wd114 hw) (wd115 hw) (wd117 hw) (wd116 hw) (by decide) ⟨rfl, rfl⟩ (Str.exa SS_131) (lenOf pd_3 rfl) rfl rfl (Nat.le_of_ble_eq_true rfl) (Ok.pays (ok_semp hw a_128 t_129 (fun c hc => absurd hc List.not_mem_nil) (Nat.zero_le _) SS_131) (wd118 hw) (wd45 hw) (by decide) (by decide)) (fun v h' q => q.2 ▸ Keep.refl _ _) all0 (by decide) (by decide) ?_
      rintro _ h_136 ⟨rfl, eqh⟩
      subst h_136
      refine Run.cast (st' := [(.int (if ([] : List Int32).length = 0 then 1 else 0))]) rfl ?_
      rw [show (if ([] : List Int32).length = 0 then 1 else 0) = (1 : Int32) from rfl]
      refine r_istore (l' := #[.val (.int p0), .val (.int p1), .val (.int p2), .val (.int p3), .val (.int c0), .val (.int c1), .val (.int c2), .val (.int (Int32.ofNat 0)), .val (.int (1 : Int32)), .val (.ref b_71), .val (.int (18 : Int32)), .val (.ref a_128), .val (.int (1 : Int32)), .unset, .unset, .unset, .unset]) at_198 rfl rfl ?_
      refine r_aload at_200 rfl rfl rfl ?_
      refine r_iconst (v := 1) at_202 rfl rfl ?_
      rw [show (1 : Int32) = (Int32.ofNat 1) from rfl]
      refine r_virtualW (y := (⟨"com/example/chunkwise/chunkwise/item/RecordBuilder", "get", "(I)Ljava/lang/String;"⟩ : MethodName)) (argsL := [(.int (Int32.ofNat 1))]) (rest := []) (W := 0) (kc := 5) (ks := 12) (wl := []) rfl at_203 rfl (wd38 hw) (wd39 hw) (wd41 hw) (wd40 hw) (by decide) ⟨rfl, rfl⟩ (RB.exa R_133) (lenOf pd_19 rfl) rfl rfl (Nat.le_of_ble_eq_true rfl) (Ok.paysW (ok_gete hw b_71 a_82 b_111 1 0 (Nat.le_of_ble_eq_true rfl) (Nat.le_of_ble_eq_true rfl) (by decide) (fun _ => rfl) (fun _ => rfl) rfl (by decide) SF rF R_133) (wd42 hw) (wd2 hw) (by decide) (by decide)) (by simp) (fun v h' q => by obtain ⟨_, _, _, K, _⟩ := q; exact K) all0 (by decide) (by decide) ?_
      rintro _ h_141 ⟨a_137, t_138, rfl, KK_139, SS_140⟩
      refine Run.forget (My' := [b_71]) (by simp [refs]) ?_
      refine Run.cast (st' := [(.ref a_137)]) rfl ?_
      have szh_141 := KK_139.1
      have R_142 : RB Z h_141 n0 b_71 a_82 b_111 [c1, c2] [Int32.ofNat 0, Int32.ofNat 0, Int32.ofNat 0, Int32.ofNat 0, Int32.ofNat 0, Int32.ofNat 0, Int32.ofNat 0, Int32.ofNat 0, Int32.ofNat 0, Int32.ofNat 0, Int32.ofNat 0, Int32.ofNat 0, Int32.ofNat 0, Int32.ofNat 0, Int32.ofNat 0, Int32.ofNat 0, Int32.ofNat 0, Int32.ofNat 0, Int32.ofNat 2] 32 := (RB.keep R_133 KK_139)
      have lt_143 : @LT.lt Nat instLTNat a_137 (Array.size h_141) := (Str.lt SS_140)
      have lt_144 : @LT.lt Nat instLTNat t_138 (Array.size h_141) := (Str.ltB SS_140)
      refine r_virtual (y := (⟨"java/lang/String", "isEmpty", "()Z"⟩ : MethodName)) (argsL := []) (rest := []) (W := 0) (kc := 0) (ks := 0) (wl := []) at_206 rfl (wd114 hw) (wd115 hw) (wd117 hw) (wd116 hw) (by decide) ⟨rfl, rfl⟩ (Str.exa SS_140) (lenOf pd_3 rfl) rfl rfl (Nat.le_of_ble_eq_true rfl) (Ok.pays (ok_semp hw a_137 t_138 (fun c hc => absurd hc List.not_mem_nil) (Nat.zero_le _) SS_140) (wd118 hw) (wd45 hw) (by decide) (by decide)) (fun v h' q => q.2 ▸ Keep.refl _ _) all0 (by decide) (by decide) ?_
      rintro _ h_145 ⟨rfl, eqh⟩
      subst h_145
      refine Run.cast (st' := [(.int (if ([] : List Int32).length = 0 then 1 else 0))]) rfl ?_
      rw [show (if ([] : List Int32).length = 0 then 1 else 0) = (1 : Int32) from rfl]
      refine r_istore (l' := #[.val (.int p0), .val (.int p1), .val (.int p2), .val (.int p3), .val (.int c0), .val (.int c1), .val (.int c2), .val (.int (Int32.ofNat 0)), .val (.int (Int32.ofNat 1)), .val (.ref b_71), .val (.int (18 : Int32)), .val (.ref a_128), .val (.int (Int32.ofNat 1)), .val (.int (1 : Int32)), .unset, .unset, .unset]) at_209 rfl rfl ?_
      refine r_aload at_211 rfl rfl rfl ?_
      refine r_iload at_213 rfl rfl ?_
      rw [show (18 : Int32) = (Int32.ofNat 18) from rfl]
      refine r_virtual (y := (⟨"com/example/chunkwise/chunkwise/item/RecordBuilder", "get", "(I)Ljava/lang/String;"⟩ : MethodName)) (argsL := [(.int (Int32.ofNat 18))]) (rest := []) (W := 0) (kc := 2) (ks := 8) (wl := []) at_215 rfl (wd38 hw) (wd39 hw) (wd41 hw) (wd40 hw) (by decide) ⟨rfl, rfl⟩ (RB.exa R_142) (lenOf pd_19 rfl) rfl rfl (Nat.le_of_ble_eq_true rfl) (Ok.pays (ok_getf hw b_71 a_82 b_111 (cs := [c1, c2]) 18 0 (Nat.le_of_ble_eq_true rfl) (Nat.le_of_ble_eq_true rfl) (by decide) (fun _ => rfl) (fun _ => rfl) rfl (by intro i hi; match i, hi with | 0, _ => rfl | 1, _ => rfl) (lat_2 l1 l2) (Nat.le_of_ble_eq_true rfl) (Nat.le_of_ble_eq_true rfl) (Nat.le_of_ble_eq_true rfl) SC nC SF rF R_142) (wd42 hw) (wd2 hw) (by decide) (by decide)) (fun v h' q => by obtain ⟨_, _, _, K, _⟩ := q; exact K) all0 (by decide) (by decide) ?_
      rintro _ h_150 ⟨a_146, t_147, rfl, KK_148, SS_149⟩
      refine Run.cast (st' := [(.ref a_146)]) rfl ?_
      have szh_150 := KK_148.1
      have R_151 : RB Z h_150 n0 b_71 a_82 b_111 [c1, c2] [Int32.ofNat 0, Int32.ofNat 0, Int32.ofNat 0, Int32.ofNat 0, Int32.ofNat 0, Int32.ofNat 0, Int32.ofNat 0, Int32.ofNat 0, Int32.ofNat 0, Int32.ofNat 0, Int32.ofNat 0, Int32.ofNat 0, Int32.ofNat 0, Int32.ofNat 0, Int32.ofNat 0, Int32.ofNat 0, Int32.ofNat 0, Int32.ofNat 0, Int32.ofNat 2] 32 := (RB.keep R_142 KK_148)
      have lt_152 : @LT.lt Nat instLTNat a_146 (Array.size h_150) := (Str.lt SS_149)
      have lt_153 : @LT.lt Nat instLTNat t_147 (Array.size h_150) := (Str.ltB SS_149)
      refine r_astore (l' := #[.val (.int p0), .val (.int p1), .val (.int p2), .val (.int p3), .val (.int c0), .val (.int c1), .val (.int c2), .val (.int (Int32.ofNat 0)), .val (.int (Int32.ofNat 1)), .val (.ref b_71), .val (.int (Int32.ofNat 18)), .val (.ref a_128), .val (.int (Int32.ofNat 1)), .val (.int (1 : Int32)), .val (.ref a_146), .unset, .unset]) at_218 rfl rfl rfl ?_
      refine r_aload at_220 rfl rfl rfl ?_
      refine r_virtual (y := (⟨"java/lang/String", "length", "()I"⟩ : MethodName)) (argsL := []) (rest := []) (W := 0) (kc := 0) (ks := 0) (wl := []) at_222 rfl (wd81 hw) (wd82 hw) (wd84 hw) (wd83 hw) (by decide) ⟨rfl, rfl⟩ (Str.exa SS_149) (lenOf pd_18 rfl) rfl rfl (Nat.le_of_ble_eq_true rfl) (Ok.pays (ok_slen hw a_146 t_147 (lat_2 l1 l2) (Nat.le_of_ble_eq_true rfl) SC nC SS_149) (wd85 hw) (wd45 hw) (by decide) (by decide)) (fun v h' q => q.2 ▸ Keep.refl _ _) all0 (by decide) (by decide) ?_
      rintro _ h_154 ⟨rfl, eqh⟩
      subst h_154
      refine Run.cast (st' := [(.int (Int32.ofNat [c1, c2].length))]) rfl ?_
      refine r_iconst (v := 2) at_225 rfl rfl ?_
      refine r_icmpne (pc2 := 255) at_226 rfl rfl (fun cc => absurd (by rfl) cc) (fun _ => ?_)
      refine r_aload at_229 rfl rfl rfl ?_
      refine r_iconst (v := 0) at_231 rfl rfl ?_
      rw [show (0 : Int32) = (Int32.ofNat 0) from rfl]
      refine r_virtual (y := (⟨"java/lang/String", "charAt", "(I)C"⟩ : MethodName)) (argsL := [(.int (Int32.ofNat 0))]) (rest := []) (W := 0) (kc := 0) (ks := 0) (wl := []) at_232 rfl (wd91 hw) (wd92 hw) (wd94 hw) (wd93 hw) (by decide) ⟨rfl, rfl⟩ (Str.exa SS_149) (lenOf pd_20 rfl) rfl rfl (Nat.le_of_ble_eq_true rfl) (Ok.pays (ok_sch hw a_146 t_147 (lat_2 l1 l2) (Nat.le_of_ble_eq_true rfl) 0 (Nat.le_of_ble_eq_true rfl) SC nC SF rF SS_149) (wd95 hw) (wd45 hw) (by decide) (by decide)) (fun v h' q => q.2 ▸ Keep.refl _ _) all0 (by decide) (by decide) ?_
      rintro _ h_155 ⟨rfl, eqh⟩
      subst h_155
      refine Run.cast (st' := [(.int ([c1, c2].getD 0 0))]) rfl ?_
      refine r_iload at_235 rfl rfl ?_
      refine r_icmpne (pc2 := 255) at_237 rfl rfl (fun cc => absurd (by rfl) cc) (fun _ => ?_)
      refine r_aload at_240 rfl rfl rfl ?_
      refine r_iconst (v := 1) at_242 rfl rfl ?_
      rw [show (1 : Int32) = (Int32.ofNat 1) from rfl]
      refine r_virtual (y := (⟨"java/lang/String", "charAt", "(I)C"⟩ : MethodName)) (argsL := [(.int (Int32.ofNat 1))]) (rest := []) (W := 0) (kc := 0) (ks := 0) (wl := []) at_243 rfl (wd91 hw) (wd92 hw) (wd94 hw) (wd93 hw) (by decide) ⟨rfl, rfl⟩ (Str.exa SS_149) (lenOf pd_20 rfl) rfl rfl (Nat.le_of_ble_eq_true rfl) (Ok.pays (ok_sch hw a_146 t_147 (lat_2 l1 l2) (Nat.le_of_ble_eq_true rfl) 1 (Nat.le_of_ble_eq_true rfl) SC nC SF rF SS_149) (wd95 hw) (wd45 hw) (by decide) (by decide)) (fun v h' q => q.2 ▸ Keep.refl _ _) all0 (by decide) (by decide) ?_
      rintro _ h_156 ⟨rfl, eqh⟩
      subst h_156
      refine Run.cast (st' := [(.int ([c1, c2].getD 1 0))]) rfl ?_
      refine r_iload at_246 rfl rfl ?_
      refine r_icmpne (pc2 := 255) at_248 rfl rfl (fun cc => absurd (by rfl) cc) (fun _ => ?_)
      refine r_iconst (v := 1) at_251 rfl rfl ?_
      refine r_goto (pc' := 256) at_252 rfl ?_
      refine r_istore (l' := #[.val (.int p0), .val (.int p1), .val (.int p2), .val (.int p3), .val (.int c0), .val (.int c1), .val (.int c2), .val (.int (Int32.ofNat 0)), .val (.int (Int32.ofNat 1)), .val (.ref b_71), .val (.int (Int32.ofNat 18)), .val (.ref a_128), .val (.int (Int32.ofNat 1)), .val (.int (Int32.ofNat 1)), .val (.ref a_146), .val (.int (1 : Int32)), .unset]) at_256 rfl rfl ?_
      refine r_iload at_258 rfl rfl ?_
      refine r_ifeq (pc2 := 302) at_260 rfl rfl (fun cc => absurd cc (by decide)) (fun _ => ?_)
      refine r_aload at_263 rfl rfl rfl ?_
      refine r_bipush (v := 15) at_265 rfl rfl ?_
      rw [show (15 : Int32) = (Int32.ofNat 15) from rfl]
      refine r_virtualW (y := (⟨"com/example/chunkwise/chunkwise/item/RecordBuilder", "get", "(I)Ljava/lang/String;"⟩ : MethodName)) (argsL := [(.int (Int32.ofNat 15))]) (rest := []) (W := 0) (kc := 5) (ks := 12) (wl := []) rfl at_267 rfl (wd38 hw) (wd39 hw) (wd41 hw) (wd40 hw) (by decide) ⟨rfl, rfl⟩ (RB.exa R_151) (lenOf pd_19 rfl) rfl rfl (Nat.le_of_ble_eq_true rfl) (Ok.paysW (ok_gete hw b_71 a_82 b_111 15 0 (Nat.le_of_ble_eq_true rfl) (Nat.le_of_ble_eq_true rfl) (by decide) (fun _ => rfl) (fun _ => rfl) rfl (by decide) SF rF R_151) (wd42 hw) (wd2 hw) (by decide) (by decide)) (by simp) (fun v h' q => by obtain ⟨_, _, _, K, _⟩ := q; exact K) all0 (by decide) (by decide) ?_
      rintro _ h_161 ⟨a_157, t_158, rfl, KK_159, SS_160⟩
      refine Run.forget (My' := [b_71]) (by simp [refs]) ?_
      refine Run.cast (st' := [(.ref a_157)]) rfl ?_
      have szh_161 := KK_159.1
      have R_162 : RB Z h_161 n0 b_71 a_82 b_111 [c1, c2] [Int32.ofNat 0, Int32.ofNat 0, Int32.ofNat 0, Int32.ofNat 0, Int32.ofNat 0, Int32.ofNat 0, Int32.ofNat 0, Int32.ofNat 0, Int32.ofNat 0, Int32.ofNat 0, Int32.ofNat 0, Int32.ofNat 0, Int32.ofNat 0, Int32.ofNat 0, Int32.ofNat 0, Int32.ofNat 0, Int32.ofNat 0, Int32.ofNat 0, Int32.ofNat 2] 32 := (RB.keep R_151 KK_159)
      have lt_163 : @LT.lt Nat instLTNat a_157 (Array.size h_161) := (Str.lt SS_160)
      have lt_164 : @LT.lt Nat instLTNat t_158 (Array.size h_161) := (Str.ltB SS_160)
      refine r_virtual (y := (⟨"java/lang/String", "isEmpty", "()Z"⟩ : MethodName)) (argsL := []) (rest := []) (W := 0) (kc := 0) (ks := 0) (wl := []) at_270 rfl (wd114 hw) (wd115 hw) (wd117 hw) (wd116 hw) (by decide) ⟨rfl, rfl⟩ (Str.exa SS_160) (lenOf pd_3 rfl) rfl rfl (Nat.le_of_ble_eq_true rfl) (Ok.pays (ok_semp hw a_157 t_158 (fun c hc => absurd hc List.not_mem_nil) (Nat.zero_le _) SS_160) (wd118 hw) (wd45 hw) (by decide) (by decide)) (fun v h' q => q.2 ▸ Keep.refl _ _) all0 (by decide) (by decide) ?_
      rintro _ h_165 ⟨rfl, eqh⟩
      subst h_165
      refine Run.cast (st' := [(.int (if ([] : List Int32).length = 0 then 1 else 0))]) rfl ?_
      rw [show (if ([] : List Int32).length = 0 then 1 else 0) = (1 : Int32) from rfl]
      refine r_ifeq (pc2 := 306) at_273 rfl rfl (fun cc => absurd cc (by decide)) (fun _ => ?_)
      refine r_aload at_276 rfl rfl rfl ?_
      refine r_bipush (v := 16) at_278 rfl rfl ?_
      rw [show (16 : Int32) = (Int32.ofNat 16) from rfl]
      refine r_virtualW (y := (⟨"com/example/chunkwise/chunkwise/item/RecordBuilder", "get", "(I)Ljava/lang/String;"⟩ : MethodName)) (argsL := [(.int (Int32.ofNat 16))]) (rest := []) (W := 0) (kc := 5) (ks := 12) (wl := []) rfl at_280 rfl (wd38 hw) (wd39 hw) (wd41 hw) (wd40 hw) (by decide) ⟨rfl, rfl⟩ (RB.exa R_162) (lenOf pd_19 rfl) rfl rfl (Nat.le_of_ble_eq_true rfl) (Ok.paysW (ok_gete hw b_71 a_82 b_111 16 0 (Nat.le_of_ble_eq_true rfl) (Nat.le_of_ble_eq_true rfl) (by decide) (fun _ => rfl) (fun _ => rfl) rfl (by decide) SF rF R_162) (wd42 hw) (wd2 hw) (by decide) (by decide)) (by simp) (fun v h' q => by obtain ⟨_, _, _, K, _⟩ := q; exact K) all0 (by decide) (by decide) ?_
      rintro _ h_170 ⟨a_166, t_167, rfl, KK_168, SS_169⟩
      refine Run.forget (My' := [b_71]) (by simp [refs]) ?_
      refine Run.cast (st' := [(.ref a_166)]) rfl ?_
      have szh_170 := KK_168.1
      have R_171 : RB Z h_170 n0 b_71 a_82 b_111 [c1, c2] [Int32.ofNat 0, Int32.ofNat 0, Int32.ofNat 0, Int32.ofNat 0, Int32.ofNat 0, Int32.ofNat 0, Int32.ofNat 0, Int32.ofNat 0, Int32.ofNat 0, Int32.ofNat 0, Int32.ofNat 0, Int32.ofNat 0, Int32.ofNat 0, Int32.ofNat 0, Int32.ofNat 0, Int32.ofNat 0, Int32.ofNat 0, Int32.ofNat 0, Int32.ofNat 2] 32 := (RB.keep R_162 KK_168)
      have lt_172 : @LT.lt Nat instLTNat a_166 (Array.size h_170) := (Str.lt SS_169)
      have lt_173 : @LT.lt Nat instLTNat t_167 (Array.size h_170) := (Str.ltB SS_169)
      refine r_virtual (y := (⟨"java/lang/String", "isEmpty", "()Z"⟩ : MethodName)) (argsL := []) (rest := []) (W := 0) (kc := 0) (ks := 0) (wl := []) at_283 rfl (wd114 hw) (wd115 hw) (wd117 hw) (wd116 hw) (by decide) ⟨rfl, rfl⟩ (Str.exa SS_169) (lenOf pd_3 rfl) rfl rfl (Nat.le_of_ble_eq_true rfl) (Ok.pays (ok_semp hw a_166 t_167 (fun c hc => absurd hc List.not_mem_nil) (Nat.zero_le _) SS_169) (wd118 hw) (wd45 hw) (by decide) (by decide)) (fun v h' q => q.2 ▸ Keep.refl _ _) all0 (by decide) (by decide) ?_
      rintro _ h_174 ⟨rfl, eqh⟩
      subst h_174
      refine Run.cast (st' := [(.int (if ([] : List Int32).length = 0 then 1 else 0))]) rfl ?_
      rw [show (if ([] : List Int32).length = 0 then 1 else 0) = (1 : Int32) from rfl]
      refine r_ifeq (pc2 := 306) at_286 rfl rfl (fun cc => absurd cc (by decide)) (fun _ => ?_)
      refine r_aload at_289 rfl rfl rfl ?_
      refine r_bipush (v := 17) at_291 rfl rfl ?_
      rw [show (17 : Int32) = (Int32.ofNat 17) from rfl]
      refine r_virtualW (y := (⟨"com/example/chunkwise/chunkwise/item/RecordBuilder", "get", "(I)Ljava/lang/String;"⟩ : MethodName)) (argsL := [(.int (Int32.ofNat 17))]) (rest := []) (W := 0) (kc := 5) (ks := 12) (wl := []) rfl at_293 rfl (wd38 hw) (wd39 hw) (wd41 hw) (wd40 hw) (by decide) ⟨rfl, rfl⟩ (RB.exa R_171) (lenOf pd_19 rfl) rfl rfl (Nat.le_of_ble_eq_true rfl) (Ok.paysW (ok_gete hw b_71 a_82 b_111 17 0 (Nat.le_of_ble_eq_true rfl) (Nat.le_of_ble_eq_true rfl) (by decide) (fun _ => rfl) (fun _ => rfl) rfl (by decide) SF rF R_171) (wd42 hw) (wd2 hw) (by decide) (by decide)) (by simp) (fun v h' q => by obtain ⟨_, _, _, K, _⟩ := q; exact K) all0 (by decide) (by decide) ?_
      rintro _ h_179 ⟨a_175, t_176, rfl, KK_177, SS_178⟩
      refine Run.forget (My' := [b_71]) (by simp [refs]) ?_
      refine Run.cast (st' := [(.ref a_175)]) rfl ?_
      have szh_179 := KK_177.1
      have R_180 : RB Z h_179 n0 b_71 a_82 b_111 [c1, c2] [Int32.ofNat 0, Int32.ofNat 0, Int32.ofNat 0, Int32.ofNat 0, Int32.ofNat 0, Int32.ofNat 0, Int32.ofNat 0, Int32.ofNat 0, Int32.ofNat 0, Int32.ofNat 0, Int32.ofNat 0, Int32.ofNat 0, Int32.ofNat 0, Int32.ofNat 0, Int32.ofNat 0, Int32.ofNat 0, Int32.ofNat 0, Int32.ofNat 0, Int32.ofNat 2] 32 := (RB.keep R_171 KK_177)
      have lt_181 : @LT.lt Nat instLTNat a_175 (Array.size h_179) := (Str.lt SS_178)
      have lt_182 : @LT.lt Nat instLTNat t_176 (Array.size h_179) := (Str.ltB SS_178)
      refine r_virtual (y := (⟨"java/lang/String", "isEmpty", "()Z"⟩ : MethodName)) (argsL := []) (rest := []) (W := 0) (kc := 0) (ks := 0) (wl := []) at_296 rfl (wd114 hw) (wd115 hw) (wd117 hw) (wd116 hw) (by decide) ⟨rfl, rfl⟩ (Str.exa SS_178) (lenOf pd_3 rfl) rfl rfl (Nat.le_of_ble_eq_true rfl) (Ok.pays (ok_semp hw a_175 t_176 (fun c hc => absurd hc List.not_mem_nil) (Nat.zero_le _) SS_178) (wd118 hw) (wd45 hw) (by decide) (by decide)) (fun v h' q => q.2 ▸ Keep.refl _ _) all0 (by decide) (by decide) ?_
      rintro _ h_183 ⟨rfl, eqh⟩
      subst h_183
      refine Run.cast (st' := [(.int (if ([] : List Int32).length = 0 then 1 else 0))]) rfl ?_
      rw [show (if ([] : List Int32).length = 0 then 1 else 0) = (1 : Int32) from rfl]
      refine r_ifeq (pc2 := 306) at_299 rfl rfl (fun cc => absurd cc (by decide)) (fun _ => ?_)
      refine r_iconst (v := 1) at_302 rfl rfl ?_
      refine r_goto (pc' := 307) at_303 rfl ?_
      refine r_istore (l' := #[.val (.int p0), .val (.int p1), .val (.int p2), .val (.int p3), .val (.int c0), .val (.int c1), .val (.int c2), .val (.int (Int32.ofNat 0)), .val (.int (Int32.ofNat 1)), .val (.ref b_71), .val (.int (Int32.ofNat 18)), .val (.ref a_128), .val (.int (Int32.ofNat 1)), .val (.int (Int32.ofNat 1)), .val (.ref a_146), .val (.int (1 : Int32)), .val (.int (1 : Int32))]) at_307 rfl rfl ?_
      refine r_iload at_309 rfl rfl ?_
      refine r_ifeq (pc2 := 333) at_311 rfl rfl (fun cc => absurd cc (by decide)) (fun _ => ?_)
      refine r_iload at_314 rfl rfl ?_
      refine r_ifeq (pc2 := 333) at_316 rfl rfl (fun cc => absurd cc (by decide)) (fun _ => ?_)
      refine r_iload at_319 rfl rfl ?_
      refine r_ifeq (pc2 := 333) at_321 rfl rfl (fun cc => absurd cc (by decide)) (fun _ => ?_)
      refine r_iload at_324 rfl rfl ?_
      refine r_ifeq (pc2 := 333) at_326 rfl rfl (fun cc => absurd cc (by decide)) (fun _ => ?_)
      refine r_iconst (v := 1) at_329 rfl rfl ?_
      refine r_goto (pc' := 334) at_330 rfl ?_
      exact r_ireturnN (t := .boolean) at_334 rfl (by simp) rfl (by simp) (by decide) (by decide)
  · refine r_iconst (v := 1) at_30 rfl rfl ?_
    refine r_goto (pc' := 35) at_31 rfl ?_
    refine r_istore (l' := #[.val (.int p0), .val (.int p1), .val (.int p2), .val (.int p3), .val (.int c0), .val (.int c1), .val (.int c2), .val (.int (1 : Int32)), .unset, .unset, .unset, .unset, .unset, .unset, .unset, .unset, .unset]) at_35 rfl rfl ?_
    refine r_iloadN at_37 rfl rfl ?_
    refine r_iconst (v := 2) at_38 rfl rfl ?_
    refine r_iand at_39 rfl ?_
    refine r_ifeq (pc2 := 47) at_40 rfl rfl (fun c_184 => ?_) (fun c_184 => ?_)
    · refine r_iconst (v := 0) at_47 rfl rfl ?_
      refine r_istore (l' := #[.val (.int p0), .val (.int p1), .val (.int p2), .val (.int p3), .val (.int c0), .val (.int c1), .val (.int c2), .val (.int (1 : Int32)), .val (.int (0 : Int32)), .unset, .unset, .unset, .unset, .unset, .unset, .unset, .unset]) at_48 rfl rfl ?_
      refine r_new at_50 rfl (wd0 hw) (wd1 hw) (wd2 hw) (by decide) (by decide) ?_
      intro h_186 b_185 gb_185 ltb_185 E_187 A_188 D_189 U_190
      have szh_186 := E_187.1
      have geb_185 : n0 ≤ b_185 := by omega
      have F_191 : Fld Z h_186 b_185 "com/example/chunkwise/chunkwise/item/RecordBuilder" "text" "[C" .null := D_189 (Or.inl (wd11 hw)) (ty := (.array .char)) (by decide)
      have F_192 : Fld Z h_186 b_185 "com/example/chunkwise/chunkwise/item/RecordBuilder" "ends" "[I" .null := D_189 (Or.inl (wd14 hw)) (ty := (.array .int)) (by decide)
      have F_193 : Fld Z h_186 b_185 "com/example/chunkwise/chunkwise/item/RecordBuilder" "length" "I" (.int (0 : Int32)) := D_189 (Or.inl (wd25 hw)) (ty := .int) (by decide)
      have F_194 : Fld Z h_186 b_185 "com/example/chunkwise/chunkwise/item/RecordBuilder" "count" "I" (.int (0 : Int32)) := D_189 (Or.inl (wd32 hw)) (ty := .int) (by decide)
      refine r_dup at_53 rfl rfl ?_
      refine r_special (y := (⟨"com/example/chunkwise/chunkwise/item/RecordBuilder", "<init>", "()V"⟩ : MethodName)) (argsL := []) (rest := [(.ref b_185)]) (W := 1) (kc := 2) (ks := 272) (wl := [b_185]) at_54 rfl rfl (wd3 hw) (wd4 hw) (wd5 hw) (by decide) (lenOf pd_11 rfl) rfl rfl (Nat.le_of_ble_eq_true rfl) (Ok.pays (ok_ri hw b_185 A_188 F_191 F_192 F_193 F_194 geb_185) (wd5 hw) (wd2 hw) (by decide) (by decide)) (fun v h' q => q.2.1) (allS ⟨geb_185, (Sf.exa A_188 (by decide) (by decide))⟩ all0) (by decide) (by decide) ?_
      rintro _ h_201 ⟨rfl, KK_195, a_196, b_197, hg_199, hg_200, FF_198⟩
      refine Run.cast (st' := [(.ref b_185)]) rfl ?_
      have szh_201 := KK_195.1
      have R_202 : RB Z h_201 n0 b_185 a_196 b_197 ([] : List Int32) ([] : List Int32) 16 := FF_198
      refine r_astore (l' := #[.val (.int p0), .val (.int p1), .val (.int p2), .val (.int p3), .val (.int c0), .val (.int c1), .val (.int c2), .val (.int (1 : Int32)), .val (.int (0 : Int32)), .val (.ref b_185), .unset, .unset, .unset, .unset, .unset, .unset, .unset]) at_57 rfl rfl rfl ?_
      refine r_iload at_59 rfl rfl ?_
      refine r_ifeq (pc2 := 71) at_61 rfl rfl (fun cc => absurd cc (by decide)) (fun _ => ?_)
      refine r_aload at_64 rfl rfl rfl ?_
      refine r_iload at_66 rfl rfl ?_
      refine r_virtual (y := (⟨"com/example/chunkwise/chunkwise/item/RecordBuilder", "append", "(C)V"⟩ : MethodName)) (argsL := [(.int c0)]) (rest := []) (W := 0) (kc := 0) (ks := 0) (wl := [b_185, a_196]) at_68 rfl (wd15 hw) (wd16 hw) (wd18 hw) (wd17 hw) (by decide) ⟨rfl, rfl⟩ (RB.exa R_202) (lenOf pd_17 rfl) rfl rfl (Nat.le_of_ble_eq_true rfl) (Ok.pays (ok_app hw b_185 a_196 b_197 c0 (lat_char l0) (Nat.lt_of_lt_of_le (Nat.lt_succ_self _) (Nat.le_of_ble_eq_true rfl)) R_202) (wd19 hw) (wd2 hw) (by decide) (by decide)) (fun v h' q => q.2.1) (allS ⟨(RB.gx R_202), (Sf.exa (RB.exa R_202) (by decide) (by decide))⟩ (allS ⟨(RB.ga R_202), (RB.sfa R_202)⟩ all0)) (by decide) (by decide) ?_
      rintro _ h_205 ⟨rfl, KK_203, FF_204⟩
      refine Run.cast (st' := []) rfl ?_
      have szh_205 := KK_203.1
      have R_206 : RB Z h_205 n0 b_185 a_196 b_197 [c0] ([] : List Int32) 16 := FF_204
      refine r_aload at_71 rfl rfl rfl ?_
      refine r_virtual (y := (⟨"com/example/chunkwise/chunkwise/item/RecordBuilder", "endValue", "()V"⟩ : MethodName)) (argsL := []) (rest := []) (W := 0) (kc := 0) (ks := 0) (wl := [b_185, b_197]) at_73 rfl (wd26 hw) (wd27 hw) (wd29 hw) (wd28 hw) (by decide) ⟨rfl, rfl⟩ (RB.exa R_206) (lenOf pd_11 rfl) rfl rfl (Nat.le_of_ble_eq_true rfl) (Ok.pays (ok_end hw b_185 a_196 b_197 (Nat.le_of_ble_eq_true rfl) (by decide) R_206) (wd30 hw) (wd2 hw) (by decide) (by decide)) (fun v h' q => q.2.1) (allS ⟨(RB.gx R_206), (Sf.exa (RB.exa R_206) (by decide) (by decide))⟩ (allS ⟨(RB.gb R_206), (RB.sfb R_206)⟩ all0)) (by decide) (by decide) ?_
      rintro _ h_209 ⟨rfl, KK_207, FF_208⟩
      refine Run.cast (st' := []) rfl ?_
      have szh_209 := KK_207.1
      have R_210 : RB Z h_209 n0 b_185 a_196 b_197 [c0] [Int32.ofNat 1] 16 := FF_208
      refine r_aload at_76 rfl rfl rfl ?_
      refine r_virtual (y := (⟨"com/example/chunkwise/chunkwise/item/RecordBuilder", "endValue", "()V"⟩ : MethodName)) (argsL := []) (rest := []) (W := 0) (kc := 0) (ks := 0) (wl := [b_185, b_197]) at_78 rfl (wd26 hw) (wd27 hw) (wd29 hw) (wd28 hw) (by decide) ⟨rfl, rfl⟩ (RB.exa R_210) (lenOf pd_11 rfl) rfl rfl (Nat.le_of_ble_eq_true rfl) (Ok.pays (ok_end hw b_185 a_196 b_197 (Nat.le_of_ble_eq_true rfl) (by decide) R_210) (wd30 hw) (wd2 hw) (by decide) (by decide)) (fun v h' q => q.2.1) (allS ⟨(RB.gx R_210), (Sf.exa (RB.exa R_210) (by decide) (by decide))⟩ (allS ⟨(RB.gb R_210), (RB.sfb R_210)⟩ all0)) (by decide) (by decide) ?_
      rintro _ h_213 ⟨rfl, KK_211, FF_212⟩
      refine Run.cast (st' := []) rfl ?_
      have szh_213 := KK_211.1
      have R_214 : RB Z h_213 n0 b_185 a_196 b_197 [c0] [Int32.ofNat 1, Int32.ofNat 1] 16 := FF_212
      refine r_iload at_81 rfl rfl ?_
      refine r_ifeq (pc2 := 106) at_83 rfl rfl (fun _ => ?_) (fun cc => absurd rfl cc)
      refine r_aload at_106 rfl rfl rfl ?_
      refine r_iload at_108 rfl rfl ?_
      refine r_virtual (y := (⟨"com/example/chunkwise/chunkwise/item/RecordBuilder", "append", "(C)V"⟩ : MethodName)) (argsL := [(.int c1)]) (rest := []) (W := 0) (kc := 0) (ks := 0) (wl := [b_185, a_196]) at_110 rfl (wd15 hw) (wd16 hw) (wd18 hw) (wd17 hw) (by decide) ⟨rfl, rfl⟩ (RB.exa R_214) (lenOf pd_17 rfl) rfl rfl (Nat.le_of_ble_eq_true rfl) (Ok.pays (ok_app hw b_185 a_196 b_197 c1 (lat_char l1) (Nat.lt_of_lt_of_le (Nat.lt_succ_self _) (Nat.le_of_ble_eq_true rfl)) R_214) (wd19 hw) (wd2 hw) (by decide) (by decide)) (fun v h' q => q.2.1) (allS ⟨(RB.gx R_214), (Sf.exa (RB.exa R_214) (by decide) (by decide))⟩ (allS ⟨(RB.ga R_214), (RB.sfa R_214)⟩ all0)) (by decide) (by decide) ?_
      rintro _ h_217 ⟨rfl, KK_215, FF_216⟩
      refine Run.cast (st' := []) rfl ?_
      have szh_217 := KK_215.1
      have R_218 : RB Z h_217 n0 b_185 a_196 b_197 [c0, c1] [Int32.ofNat 1, Int32.ofNat 1] 16 := FF_216
      refine r_aload at_113 rfl rfl rfl ?_
      refine r_iload at_115 rfl rfl ?_
      refine r_virtual (y := (⟨"com/example/chunkwise/chunkwise/item/RecordBuilder", "append", "(C)V"⟩ : MethodName)) (argsL := [(.int c2)]) (rest := []) (W := 0) (kc := 0) (ks := 0) (wl := [b_185, a_196]) at_117 rfl (wd15 hw) (wd16 hw) (wd18 hw) (wd17 hw) (by decide) ⟨rfl, rfl⟩ (RB.exa R_218) (lenOf pd_17 rfl) rfl rfl (Nat.le_of_ble_eq_true rfl) (Ok.pays (ok_app hw b_185 a_196 b_197 c2 (lat_char l2) (Nat.lt_of_lt_of_le (Nat.lt_succ_self _) (Nat.le_of_ble_eq_true rfl)) R_218) (wd19 hw) (wd2 hw) (by decide) (by decide)) (fun v h' q => q.2.1) (allS ⟨(RB.gx R_218), (Sf.exa (RB.exa R_218) (by decide) (by decide))⟩ (allS ⟨(RB.ga R_218), (RB.sfa R_218)⟩ all0)) (by decide) (by decide) ?_
      rintro _ h_221 ⟨rfl, KK_219, FF_220⟩
      refine Run.cast (st' := []) rfl ?_
      have szh_221 := KK_219.1
      have R_222 : RB Z h_221 n0 b_185 a_196 b_197 [c0, c1, c2] [Int32.ofNat 1, Int32.ofNat 1] 16 := FF_220
      refine r_aload at_120 rfl rfl rfl ?_
      refine r_virtual (y := (⟨"com/example/chunkwise/chunkwise/item/RecordBuilder", "endValue", "()V"⟩ : MethodName)) (argsL := []) (rest := []) (W := 0) (kc := 0) (ks := 0) (wl := [b_185, b_197]) at_122 rfl (wd26 hw) (wd27 hw) (wd29 hw) (wd28 hw) (by decide) ⟨rfl, rfl⟩ (RB.exa R_222) (lenOf pd_11 rfl) rfl rfl (Nat.le_of_ble_eq_true rfl) (Ok.pays (ok_end hw b_185 a_196 b_197 (Nat.le_of_ble_eq_true rfl) (by decide) R_222) (wd30 hw) (wd2 hw) (by decide) (by decide)) (fun v h' q => q.2.1) (allS ⟨(RB.gx R_222), (Sf.exa (RB.exa R_222) (by decide) (by decide))⟩ (allS ⟨(RB.gb R_222), (RB.sfb R_222)⟩ all0)) (by decide) (by decide) ?_
      rintro _ h_225 ⟨rfl, KK_223, FF_224⟩
      refine Run.cast (st' := []) rfl ?_
      have szh_225 := KK_223.1
      have R_226 : RB Z h_225 n0 b_185 a_196 b_197 [c0, c1, c2] [Int32.ofNat 1, Int32.ofNat 1, Int32.ofNat 3] 16 := FF_224
      refine r_iload at_125 rfl rfl ?_
      refine r_ifeq (pc2 := 135) at_127 rfl rfl (fun _ => ?_) (fun cc => absurd rfl cc)
      refine r_iconst (v := 2) at_135 rfl rfl ?_
      refine r_istore (l' := #[.val (.int p0), .val (.int p1), .val (.int p2), .val (.int p3), .val (.int c0), .val (.int c1), .val (.int c2), .val (.int (1 : Int32)), .val (.int (0 : Int32)), .val (.ref b_185), .val (.int (2 : Int32)), .unset, .unset, .unset, .unset, .unset, .unset]) at_136 rfl rfl ?_
      refine r_aload at_138 rfl rfl rfl ?_
      refine r_virtual (y := (⟨"com/example/chunkwise/chunkwise/item/RecordBuilder", "size", "()I"⟩ : MethodName)) (argsL := []) (rest := []) (W := 0) (kc := 0) (ks := 0) (wl := []) at_140 rfl (wd33 hw) (wd34 hw) (wd36 hw) (wd35 hw) (by decide) ⟨rfl, rfl⟩ (RB.exa R_226) (lenOf pd_18 rfl) rfl rfl (Nat.le_of_ble_eq_true rfl) (Ok.pays (ok_size hw b_185 a_196 b_197 R_226) (wd37 hw) (wd2 hw) (by decide) (by decide)) (fun v h' q => q.2 ▸ Keep.refl _ _) all0 (by decide) (by decide) ?_
      rintro _ h_227 ⟨rfl, eqh⟩
      subst h_227
      refine Run.cast (st' := [(.int (Int32.ofNat [Int32.ofNat 1, Int32.ofNat 1, Int32.ofNat 3].length))]) rfl ?_
      refine r_iload at_143 rfl rfl ?_
      refine r_iconst (v := 1) at_145 rfl rfl ?_
      refine r_iadd at_146 rfl ?_
      refine r_icmpeq (pc2 := 152) at_147 rfl rfl (fun _ => ?_) (fun cc => absurd (by first | rfl | decide) cc)
      refine r_aload at_152 rfl rfl rfl ?_
      refine r_iconst (v := 0) at_154 rfl rfl ?_
      rw [show (0 : Int32) = (Int32.ofNat 0) from rfl]
      refine r_virtual (y := (⟨"com/example/chunkwise/chunkwise/item/RecordBuilder", "get", "(I)Ljava/lang/String;"⟩ : MethodName)) (argsL := [(.int (Int32.ofNat 0))]) (rest := []) (W := 0) (kc := 2) (ks := 8) (wl := []) at_155 rfl (wd38 hw) (wd39 hw) (wd41 hw) (wd40 hw) (by decide) ⟨rfl, rfl⟩ (RB.exa R_226) (lenOf pd_19 rfl) rfl rfl (Nat.le_of_ble_eq_true rfl) (Ok.pays (ok_getf hw b_185 a_196 b_197 (cs := [c0]) 0 0 (Nat.le_of_ble_eq_true rfl) (Nat.le_of_ble_eq_true rfl) (by decide) (fun _ => rfl) (fun q => absurd q (by decide)) rfl (by intro i hi; match i, hi with | 0, _ => rfl) (lat_1 l0) (Nat.le_of_ble_eq_true rfl) (Nat.le_of_ble_eq_true rfl) (Nat.le_of_ble_eq_true rfl) SC nC SF rF R_226) (wd42 hw) (wd2 hw) (by decide) (by decide)) (fun v h' q => by obtain ⟨_, _, _, K, _⟩ := q; exact K) all0 (by decide) (by decide) ?_
      rintro _ h_232 ⟨a_228, t_229, rfl, KK_230, SS_231⟩
      refine Run.cast (st' := [(.ref a_228)]) rfl ?_
      have szh_232 := KK_230.1
      have R_233 : RB Z h_232 n0 b_185 a_196 b_197 [c0, c1, c2] [Int32.ofNat 1, Int32.ofNat 1, Int32.ofNat 3] 16 := (RB.keep R_226 KK_230)
      have lt_234 : @LT.lt Nat instLTNat a_228 (Array.size h_232) := (Str.lt SS_231)
      have lt_235 : @LT.lt Nat instLTNat t_229 (Array.size h_232) := (Str.ltB SS_231)
      refine r_astore (l' := #[.val (.int p0), .val (.int p1), .val (.int p2), .val (.int p3), .val (.int c0), .val (.int c1), .val (.int c2), .val (.int (1 : Int32)), .val (.int (Int32.ofNat 0)), .val (.ref b_185), .val (.int (2 : Int32)), .val (.ref a_228), .unset, .unset, .unset, .unset, .unset]) at_158 rfl rfl rfl ?_
      refine r_iload at_160 rfl rfl ?_
      refine r_ifeq (pc2 := 193) at_162 rfl rfl (fun cc => absurd cc (by decide)) (fun _ => ?_)
      refine r_aload at_165 rfl rfl rfl ?_
      refine r_virtual (y := (⟨"java/lang/String", "length", "()I"⟩ : MethodName)) (argsL := []) (rest := []) (W := 0) (kc := 0) (ks := 0) (wl := []) at_167 rfl (wd81 hw) (wd82 hw) (wd84 hw) (wd83 hw) (by decide) ⟨rfl, rfl⟩ (Str.exa SS_231) (lenOf pd_18 rfl) rfl rfl (Nat.le_of_ble_eq_true rfl) (Ok.pays (ok_slen hw a_228 t_229 (lat_1 l0) (Nat.le_of_ble_eq_true rfl) SC nC SS_231) (wd85 hw) (wd45 hw) (by decide) (by decide)) (fun v h' q => q.2 ▸ Keep.refl _ _) all0 (by decide) (by decide) ?_
      rintro _ h_236 ⟨rfl, eqh⟩
      subst h_236
      refine Run.cast (st' := [(.int (Int32.ofNat [c0].length))]) rfl ?_
      refine r_iconst (v := 1) at_170 rfl rfl ?_
      refine r_icmpne (pc2 := 189) at_171 rfl rfl (fun cc => absurd (by rfl) cc) (fun _ => ?_)
      refine r_aload at_174 rfl rfl rfl ?_
      refine r_iconst (v := 0) at_176 rfl rfl ?_
      rw [show (0 : Int32) = (Int32.ofNat 0) from rfl]
      refine r_virtual (y := (⟨"java/lang/String", "charAt", "(I)C"⟩ : MethodName)) (argsL := [(.int (Int32.ofNat 0))]) (rest := []) (W := 0) (kc := 0) (ks := 0) (wl := []) at_177 rfl (wd91 hw) (wd92 hw) (wd94 hw) (wd93 hw) (by decide) ⟨rfl, rfl⟩ (Str.exa SS_231) (lenOf pd_20 rfl) rfl rfl (Nat.le_of_ble_eq_true rfl) (Ok.pays (ok_sch hw a_228 t_229 (lat_1 l0) (Nat.le_of_ble_eq_true rfl) 0 (Nat.le_of_ble_eq_true rfl) SC nC SF rF SS_231) (wd95 hw) (wd45 hw) (by decide) (by decide)) (fun v h' q => q.2 ▸ Keep.refl _ _) all0 (by decide) (by decide) ?_
      rintro _ h_237 ⟨rfl, eqh⟩
      subst h_237
      refine Run.cast (st' := [(.int ([c0].getD 0 0))]) rfl ?_
      refine r_iload at_180 rfl rfl ?_
      refine r_icmpne (pc2 := 189) at_182 rfl rfl (fun cc => absurd (by rfl) cc) (fun _ => ?_)
      refine r_iconst (v := 1) at_185 rfl rfl ?_
      refine r_goto (pc' := 198) at_186 rfl ?_
      refine r_istore (l' := #[.val (.int p0), .val (.int p1), .val (.int p2), .val (.int p3), .val (.int c0), .val (.int c1), .val (.int c2), .val (.int (1 : Int32)), .val (.int (Int32.ofNat 0)), .val (.ref b_185), .val (.int (2 : Int32)), .val (.ref a_228), .val (.int (1 : Int32)), .unset, .unset, .unset, .unset]) at_198 rfl rfl ?_
      refine r_aload at_200 rfl rfl rfl ?_
      refine r_iconst (v := 1) at_202 rfl rfl ?_
      rw [show (1 : Int32) = (Int32.ofNat 1) from rfl]
      refine r_virtualW (y := (⟨"com/example/chunkwise/chunkwise/item/RecordBuilder", "get", "(I)Ljava/lang/String;"⟩ : MethodName)) (argsL := [(.int (Int32.ofNat 1))]) (rest := []) (W := 0) (kc := 5) (ks := 12) (wl := []) rfl at_203 rfl (wd38 hw) (wd39 hw) (wd41 hw) (wd40 hw) (by decide) ⟨rfl, rfl⟩ (RB.exa R_233) (lenOf pd_19 rfl) rfl rfl (Nat.le_of_ble_eq_true rfl) (Ok.paysW (ok_gete hw b_185 a_196 b_197 1 1 (Nat.le_of_ble_eq_true rfl) (Nat.le_of_ble_eq_true rfl) (by decide) (fun q => absurd q (by decide)) (fun _ => rfl) rfl (by decide) SF rF R_233) (wd42 hw) (wd2 hw) (by decide) (by decide)) (by simp) (fun v h' q => by obtain ⟨_, _, _, K, _⟩ := q; exact K) all0 (by decide) (by decide) ?_
      rintro _ h_242 ⟨a_238, t_239, rfl, KK_240, SS_241⟩
      refine Run.forget (My' := [b_185]) (by simp [refs]) ?_
      refine Run.cast (st' := [(.ref a_238)]) rfl ?_
      have szh_242 := KK_240.1
      have R_243 : RB Z h_242 n0 b_185 a_196 b_197 [c0, c1, c2] [Int32.ofNat 1, Int32.ofNat 1, Int32.ofNat 3] 16 := (RB.keep R_233 KK_240)
      have lt_244 : @LT.lt Nat instLTNat a_238 (Array.size h_242) := (Str.lt SS_241)
      have lt_245 : @LT.lt Nat instLTNat t_239 (Array.size h_242) := (Str.ltB SS_241)
      refine r_virtual (y := (⟨"java/lang/String", "isEmpty", "()Z"⟩ : MethodName)) (argsL := []) (rest := []) (W := 0) (kc := 0) (ks := 0) (wl := []) at_206 rfl (wd114 hw) (wd115 hw) (wd117 hw) (wd116 hw) (by decide) ⟨rfl, rfl⟩ (Str.exa SS_241) (lenOf pd_3 rfl) rfl rfl (Nat.le_of_ble_eq_true rfl) (Ok.pays (ok_semp hw a_238 t_239 (fun c hc => absurd hc List.not_mem_nil) (Nat.zero_le _) SS_241) (wd118 hw) (wd45 hw) (by decide) (by decide)) (fun v h' q => q.2 ▸ Keep.refl _ _) all0 (by decide) (by decide) ?_
      rintro _ h_246 ⟨rfl, eqh⟩
      subst h_246
      refine Run.cast (st' := [(.int (if ([] : List Int32).length = 0 then 1 else 0))]) rfl ?_
      rw [show (if ([] : List Int32).length = 0 then 1 else 0) = (1 : Int32) from rfl]
      refine r_istore (l' := #[.val (.int p0), .val (.int p1), .val (.int p2), .val (.int p3), .val (.int c0), .val (.int c1), .val (.int c2), .val (.int (Int32.ofNat 1)), .val (.int (Int32.ofNat 0)), .val (.ref b_185), .val (.int (2 : Int32)), .val (.ref a_228), .val (.int (Int32.ofNat 1)), .val (.int (1 : Int32)), .unset, .unset, .unset]) at_209 rfl rfl ?_
      refine r_aload at_211 rfl rfl rfl ?_
      refine r_iload at_213 rfl rfl ?_
      rw [show (2 : Int32) = (Int32.ofNat 2) from rfl]
      refine r_virtual (y := (⟨"com/example/chunkwise/chunkwise/item/RecordBuilder", "get", "(I)Ljava/lang/String;"⟩ : MethodName)) (argsL := [(.int (Int32.ofNat 2))]) (rest := []) (W := 0) (kc := 2) (ks := 8) (wl := []) at_215 rfl (wd38 hw) (wd39 hw) (wd41 hw) (wd40 hw) (by decide) ⟨rfl, rfl⟩ (RB.exa R_243) (lenOf pd_19 rfl) rfl rfl (Nat.le_of_ble_eq_true rfl) (Ok.pays (ok_getf hw b_185 a_196 b_197 (cs := [c1, c2]) 2 1 (Nat.le_of_ble_eq_true rfl) (Nat.le_of_ble_eq_true rfl) (by decide) (fun q => absurd q (by decide)) (fun _ => rfl) rfl (by intro i hi; match i, hi with | 0, _ => rfl | 1, _ => rfl) (lat_2 l1 l2) (Nat.le_of_ble_eq_true rfl) (Nat.le_of_ble_eq_true rfl) (Nat.le_of_ble_eq_true rfl) SC nC SF rF R_243) (wd42 hw) (wd2 hw) (by decide) (by decide)) (fun v h' q => by obtain ⟨_, _, _, K, _⟩ := q; exact K) all0 (by decide) (by decide) ?_
      rintro _ h_251 ⟨a_247, t_248, rfl, KK_249, SS_250⟩
      refine Run.cast (st' := [(.ref a_247)]) rfl ?_
      have szh_251 := KK_249.1
      have R_252 : RB Z h_251 n0 b_185 a_196 b_197 [c0, c1, c2] [Int32.ofNat 1, Int32.ofNat 1, Int32.ofNat 3] 16 := (RB.keep R_243 KK_249)
      have lt_253 : @LT.lt Nat instLTNat a_247 (Array.size h_251) := (Str.lt SS_250)
      have lt_254 : @LT.lt Nat instLTNat t_248 (Array.size h_251) := (Str.ltB SS_250)
      refine r_astore (l' := #[.val (.int p0), .val (.int p1), .val (.int p2), .val (.int p3), .val (.int c0), .val (.int c1), .val (.int c2), .val (.int (Int32.ofNat 1)), .val (.int (Int32.ofNat 0)), .val (.ref b_185), .val (.int (Int32.ofNat 2)), .val (.ref a_228), .val (.int (Int32.ofNat 1)), .val (.int (1 : Int32)), .val (.ref a_247), .unset, .unset]) at_218 rfl rfl rfl ?_
      refine r_aload at_220 rfl rfl rfl ?_
      refine r_virtual (y := (⟨"java/lang/String", "length", "()I"⟩ : MethodName)) (argsL := []) (rest := []) (W := 0) (kc := 0) (ks := 0) (wl := []) at_222 rfl (wd81 hw) (wd82 hw) (wd84 hw) (wd83 hw) (by decide) ⟨rfl, rfl⟩ (Str.exa SS_250) (lenOf pd_18 rfl) rfl rfl (Nat.le_of_ble_eq_true rfl) (Ok.pays (ok_slen hw a_247 t_248 (lat_2 l1 l2) (Nat.le_of_ble_eq_true rfl) SC nC SS_250) (wd85 hw) (wd45 hw) (by decide) (by decide)) (fun v h' q => q.2 ▸ Keep.refl _ _) all0 (by decide) (by decide) ?_
      rintro _ h_255 ⟨rfl, eqh⟩
      subst h_255
      refine Run.cast (st' := [(.int (Int32.ofNat [c1, c2].length))]) rfl ?_
      refine r_iconst (v := 2) at_225 rfl rfl ?_
      refine r_icmpne (pc2 := 255) at_226 rfl rfl (fun cc => absurd (by rfl) cc) (fun _ => ?_)
      refine r_aload at_229 rfl rfl rfl ?_
      refine r_iconst (v := 0) at_231 rfl rfl ?_
      rw [show (0 : Int32) = (Int32.ofNat 0) from rfl]
      refine r_virtual (y := (⟨"java/lang/String", "charAt", "(I)C"⟩ : MethodName)) (argsL := [(.int (Int32.ofNat 0))]) (rest := []) (W := 0) (kc := 0) (ks := 0) (wl := []) at_232 rfl (wd91 hw) (wd92 hw) (wd94 hw) (wd93 hw) (by decide) ⟨rfl, rfl⟩ (Str.exa SS_250) (lenOf pd_20 rfl) rfl rfl (Nat.le_of_ble_eq_true rfl) (Ok.pays (ok_sch hw a_247 t_248 (lat_2 l1 l2) (Nat.le_of_ble_eq_true rfl) 0 (Nat.le_of_ble_eq_true rfl) SC nC SF rF SS_250) (wd95 hw) (wd45 hw) (by decide) (by decide)) (fun v h' q => q.2 ▸ Keep.refl _ _) all0 (by decide) (by decide) ?_
      rintro _ h_256 ⟨rfl, eqh⟩
      subst h_256
      refine Run.cast (st' := [(.int ([c1, c2].getD 0 0))]) rfl ?_
      refine r_iload at_235 rfl rfl ?_
      refine r_icmpne (pc2 := 255) at_237 rfl rfl (fun cc => absurd (by rfl) cc) (fun _ => ?_)
      refine r_aload at_240 rfl rfl rfl ?_
      refine r_iconst (v := 1) at_242 rfl rfl ?_
      rw [show (1 : Int32) = (Int32.ofNat 1) from rfl]
      refine r_virtual (y := (⟨"java/lang/String", "charAt", "(I)C"⟩ : MethodName)) (argsL := [(.int (Int32.ofNat 1))]) (rest := []) (W := 0) (kc := 0) (ks := 0) (wl := []) at_243 rfl (wd91 hw) (wd92 hw) (wd94 hw) (wd93 hw) (by decide) ⟨rfl, rfl⟩ (Str.exa SS_250) (lenOf pd_20 rfl) rfl rfl (Nat.le_of_ble_eq_true rfl) (Ok.pays (ok_sch hw a_247 t_248 (lat_2 l1 l2) (Nat.le_of_ble_eq_true rfl) 1 (Nat.le_of_ble_eq_true rfl) SC nC SF rF SS_250) (wd95 hw) (wd45 hw) (by decide) (by decide)) (fun v h' q => q.2 ▸ Keep.refl _ _) all0 (by decide) (by decide) ?_
      rintro _ h_257 ⟨rfl, eqh⟩
      subst h_257
      refine Run.cast (st' := [(.int ([c1, c2].getD 1 0))]) rfl ?_
      refine r_iload at_246 rfl rfl ?_
      refine r_icmpne (pc2 := 255) at_248 rfl rfl (fun cc => absurd (by rfl) cc) (fun _ => ?_)
      refine r_iconst (v := 1) at_251 rfl rfl ?_
      refine r_goto (pc' := 256) at_252 rfl ?_
      refine r_istore (l' := #[.val (.int p0), .val (.int p1), .val (.int p2), .val (.int p3), .val (.int c0), .val (.int c1), .val (.int c2), .val (.int (Int32.ofNat 1)), .val (.int (Int32.ofNat 0)), .val (.ref b_185), .val (.int (Int32.ofNat 2)), .val (.ref a_228), .val (.int (Int32.ofNat 1)), .val (.int (Int32.ofNat 1)), .val (.ref a_247), .val (.int (1 : Int32)), .unset]) at_256 rfl rfl ?_
      refine r_iload at_258 rfl rfl ?_
      refine r_ifeq (pc2 := 302) at_260 rfl rfl (fun _ => ?_) (fun cc => absurd rfl cc)
      refine r_iconst (v := 1) at_302 rfl rfl ?_
      refine r_goto (pc' := 307) at_303 rfl ?_
      refine r_istore (l' := #[.val (.int p0), .val (.int p1), .val (.int p2), .val (.int p3), .val (.int c0), .val (.int c1), .val (.int c2), .val (.int (Int32.ofNat 1)), .val (.int (Int32.ofNat 0)), .val (.ref b_185), .val (.int (Int32.ofNat 2)), .val (.ref a_228), .val (.int (Int32.ofNat 1)), .val (.int (Int32.ofNat 1)), .val (.ref a_247), .val (.int (1 : Int32)), .val (.int (1 : Int32))]) at_307 rfl rfl ?_
      refine r_iload at_309 rfl rfl ?_
      refine r_ifeq (pc2 := 333) at_311 rfl rfl (fun cc => absurd cc (by decide)) (fun _ => ?_)
      refine r_iload at_314 rfl rfl ?_
      refine r_ifeq (pc2 := 333) at_316 rfl rfl (fun cc => absurd cc (by decide)) (fun _ => ?_)
      refine r_iload at_319 rfl rfl ?_
      refine r_ifeq (pc2 := 333) at_321 rfl rfl (fun cc => absurd cc (by decide)) (fun _ => ?_)
      refine r_iload at_324 rfl rfl ?_
      refine r_ifeq (pc2 := 333) at_326 rfl rfl (fun cc => absurd cc (by decide)) (fun _ => ?_)
      refine r_iconst (v := 1) at_329 rfl rfl ?_
      refine r_goto (pc' := 334) at_330 rfl ?_
      exact r_ireturnN (t := .boolean) at_334 rfl (by simp) rfl (by simp) (by decide) (by decide)
    · refine r_iconst (v := 1) at_43 rfl rfl ?_
      refine r_goto (pc' := 48) at_44 rfl ?_
      refine r_istore (l' := #[.val (.int p0), .val (.int p1), .val (.int p2), .val (.int p3), .val (.int c0), .val (.int c1), .val (.int c2), .val (.int (1 : Int32)), .val (.int (1 : Int32)), .unset, .unset, .unset, .unset, .unset, .unset, .unset, .unset]) at_48 rfl rfl ?_
      refine r_new at_50 rfl (wd0 hw) (wd1 hw) (wd2 hw) (by decide) (by decide) ?_
      intro h_259 b_258 gb_258 ltb_258 E_260 A_261 D_262 U_263
      have szh_259 := E_260.1
      have geb_258 : n0 ≤ b_258 := by omega
      have F_264 : Fld Z h_259 b_258 "com/example/chunkwise/chunkwise/item/RecordBuilder" "text" "[C" .null := D_262 (Or.inl (wd11 hw)) (ty := (.array .char)) (by decide)
      have F_265 : Fld Z h_259 b_258 "com/example/chunkwise/chunkwise/item/RecordBuilder" "ends" "[I" .null := D_262 (Or.inl (wd14 hw)) (ty := (.array .int)) (by decide)
      have F_266 : Fld Z h_259 b_258 "com/example/chunkwise/chunkwise/item/RecordBuilder" "length" "I" (.int (0 : Int32)) := D_262 (Or.inl (wd25 hw)) (ty := .int) (by decide)
      have F_267 : Fld Z h_259 b_258 "com/example/chunkwise/chunkwise/item/RecordBuilder" "count" "I" (.int (0 : Int32)) := D_262 (Or.inl (wd32 hw)) (ty := .int) (by decide)
      refine r_dup at_53 rfl rfl ?_
      refine r_special (y := (⟨"com/example/chunkwise/chunkwise/item/RecordBuilder", "<init>", "()V"⟩ : MethodName)) (argsL := []) (rest := [(.ref b_258)]) (W := 1) (kc := 2) (ks := 272) (wl := [b_258]) at_54 rfl rfl (wd3 hw) (wd4 hw) (wd5 hw) (by decide) (lenOf pd_11 rfl) rfl rfl (Nat.le_of_ble_eq_true rfl) (Ok.pays (ok_ri hw b_258 A_261 F_264 F_265 F_266 F_267 geb_258) (wd5 hw) (wd2 hw) (by decide) (by decide)) (fun v h' q => q.2.1) (allS ⟨geb_258, (Sf.exa A_261 (by decide) (by decide))⟩ all0) (by decide) (by decide) ?_
      rintro _ h_274 ⟨rfl, KK_268, a_269, b_270, hg_272, hg_273, FF_271⟩
      refine Run.cast (st' := [(.ref b_258)]) rfl ?_
      have szh_274 := KK_268.1
      have R_275 : RB Z h_274 n0 b_258 a_269 b_270 ([] : List Int32) ([] : List Int32) 16 := FF_271
      refine r_astore (l' := #[.val (.int p0), .val (.int p1), .val (.int p2), .val (.int p3), .val (.int c0), .val (.int c1), .val (.int c2), .val (.int (1 : Int32)), .val (.int (1 : Int32)), .val (.ref b_258), .unset, .unset, .unset, .unset, .unset, .unset, .unset]) at_57 rfl rfl rfl ?_
      refine r_iload at_59 rfl rfl ?_
      refine r_ifeq (pc2 := 71) at_61 rfl rfl (fun cc => absurd cc (by decide)) (fun _ => ?_)
      refine r_aload at_64 rfl rfl rfl ?_
      refine r_iload at_66 rfl rfl ?_
      refine r_virtual (y := (⟨"com/example/chunkwise/chunkwise/item/RecordBuilder", "append", "(C)V"⟩ : MethodName)) (argsL := [(.int c0)]) (rest := []) (W := 0) (kc := 0) (ks := 0) (wl := [b_258, a_269]) at_68 rfl (wd15 hw) (wd16 hw) (wd18 hw) (wd17 hw) (by decide) ⟨rfl, rfl⟩ (RB.exa R_275) (lenOf pd_17 rfl) rfl rfl (Nat.le_of_ble_eq_true rfl) (Ok.pays (ok_app hw b_258 a_269 b_270 c0 (lat_char l0) (Nat.lt_of_lt_of_le (Nat.lt_succ_self _) (Nat.le_of_ble_eq_true rfl)) R_275) (wd19 hw) (wd2 hw) (by decide) (by decide)) (fun v h' q => q.2.1) (allS ⟨(RB.gx R_275), (Sf.exa (RB.exa R_275) (by decide) (by decide))⟩ (allS ⟨(RB.ga R_275), (RB.sfa R_275)⟩ all0)) (by decide) (by decide) ?_
      rintro _ h_278 ⟨rfl, KK_276, FF_277⟩
      refine Run.cast (st' := []) rfl ?_
      have szh_278 := KK_276.1
      have R_279 : RB Z h_278 n0 b_258 a_269 b_270 [c0] ([] : List Int32) 16 := FF_277
      refine r_aload at_71 rfl rfl rfl ?_
      refine r_virtual (y := (⟨"com/example/chunkwise/chunkwise/item/RecordBuilder", "endValue", "()V"⟩ : MethodName)) (argsL := []) (rest := []) (W := 0) (kc := 0) (ks := 0) (wl := [b_258, b_270]) at_73 rfl (wd26 hw) (wd27 hw) (wd29 hw) (wd28 hw) (by decide) ⟨rfl, rfl⟩ (RB.exa R_279) (lenOf pd_11 rfl) rfl rfl (Nat.le_of_ble_eq_true rfl) (Ok.pays (ok_end hw b_258 a_269 b_270 (Nat.le_of_ble_eq_true rfl) (by decide) R_279) (wd30 hw) (wd2 hw) (by decide) (by decide)) (fun v h' q => q.2.1) (allS ⟨(RB.gx R_279), (Sf.exa (RB.exa R_279) (by decide) (by decide))⟩ (allS ⟨(RB.gb R_279), (RB.sfb R_279)⟩ all0)) (by decide) (by decide) ?_
      rintro _ h_282 ⟨rfl, KK_280, FF_281⟩
      refine Run.cast (st' := []) rfl ?_
      have szh_282 := KK_280.1
      have R_283 : RB Z h_282 n0 b_258 a_269 b_270 [c0] [Int32.ofNat 1] 16 := FF_281
      refine r_aload at_76 rfl rfl rfl ?_
      refine r_virtual (y := (⟨"com/example/chunkwise/chunkwise/item/RecordBuilder", "endValue", "()V"⟩ : MethodName)) (argsL := []) (rest := []) (W := 0) (kc := 0) (ks := 0) (wl := [b_258, b_270]) at_78 rfl (wd26 hw) (wd27 hw) (wd29 hw) (wd28 hw) (by decide) ⟨rfl, rfl⟩ (RB.exa R_283) (lenOf pd_11 rfl) rfl rfl (Nat.le_of_ble_eq_true rfl) (Ok.pays (ok_end hw b_258 a_269 b_270 (Nat.le_of_ble_eq_true rfl) (by decide) R_283) (wd30 hw) (wd2 hw) (by decide) (by decide)) (fun v h' q => q.2.1) (allS ⟨(RB.gx R_283), (Sf.exa (RB.exa R_283) (by decide) (by decide))⟩ (allS ⟨(RB.gb R_283), (RB.sfb R_283)⟩ all0)) (by decide) (by decide) ?_
      rintro _ h_286 ⟨rfl, KK_284, FF_285⟩
      refine Run.cast (st' := []) rfl ?_
      have szh_286 := KK_284.1
      have R_287 : RB Z h_286 n0 b_258 a_269 b_270 [c0] [Int32.ofNat 1, Int32.ofNat 1] 16 := FF_285
      refine r_iload at_81 rfl rfl ?_
      refine r_ifeq (pc2 := 106) at_83 rfl rfl (fun cc => absurd cc (by decide)) (fun _ => ?_)
      refine r_aload at_86 rfl rfl rfl ?_
      refine r_static (y := (⟨"com/example/chunkwise/chunkwise/item/RecordBuilderEndValuePinLaw", "four", "(Lcom/example/chunkwise/chunkwise/item/RecordBuilder;)V"⟩ : MethodName)) (argsL := [(.ref b_258)]) (rest := []) (W := 0) (kc := 0) (ks := 0) (wl := [b_258, b_270]) at_88 rfl (wd119 hw) (wd120 hw) (wd121 hw) (wd122 hw) (by decide) (lenOf pd_21 rfl) rfl rfl (Nat.le_of_ble_eq_true rfl) (Ok.pays (ok_four hw b_258 a_269 b_270 (Nat.le_of_ble_eq_true rfl) (by decide) R_287) (wd122 hw) (wd121 hw) (by decide) (by decide)) (fun v h' q => q.2.1) (allS ⟨(RB.gx R_287), (Sf.exa (RB.exa R_287) (by decide) (by decide))⟩ (allS ⟨(RB.gb R_287), (RB.sfb R_287)⟩ all0)) (by decide) (by decide) ?_
      rintro _ h_290 ⟨rfl, KK_288, FF_289⟩
      refine Run.cast (st' := []) rfl ?_
      have szh_290 := KK_288.1
      have R_291 : RB Z h_290 n0 b_258 a_269 b_270 [c0] [Int32.ofNat 1, Int32.ofNat 1, Int32.ofNat 1, Int32.ofNat 1, Int32.ofNat 1, Int32.ofNat 1] 16 := FF_289
      refine r_aload at_91 rfl rfl rfl ?_
      refine r_static (y := (⟨"com/example/chunkwise/chunkwise/item/RecordBuilderEndValuePinLaw", "four", "(Lcom/example/chunkwise/chunkwise/item/RecordBuilder;)V"⟩ : MethodName)) (argsL := [(.ref b_258)]) (rest := []) (W := 0) (kc := 0) (ks := 0) (wl := [b_258, b_270]) at_93 rfl (wd119 hw) (wd120 hw) (wd121 hw) (wd122 hw) (by decide) (lenOf pd_21 rfl) rfl rfl (Nat.le_of_ble_eq_true rfl) (Ok.pays (ok_four hw b_258 a_269 b_270 (Nat.le_of_ble_eq_true rfl) (by decide) R_291) (wd122 hw) (wd121 hw) (by decide) (by decide)) (fun v h' q => q.2.1) (allS ⟨(RB.gx R_291), (Sf.exa (RB.exa R_291) (by decide) (by decide))⟩ (allS ⟨(RB.gb R_291), (RB.sfb R_291)⟩ all0)) (by decide) (by decide) ?_
      rintro _ h_294 ⟨rfl, KK_292, FF_293⟩
      refine Run.cast (st' := []) rfl ?_
      have szh_294 := KK_292.1
      have R_295 : RB Z h_294 n0 b_258 a_269 b_270 [c0] [Int32.ofNat 1, Int32.ofNat 1, Int32.ofNat 1, Int32.ofNat 1, Int32.ofNat 1, Int32.ofNat 1, Int32.ofNat 1, Int32.ofNat 1, Int32.ofNat 1, Int32.ofNat 1] 16 := FF_293
      refine r_aload at_96 rfl rfl rfl ?_
      refine r_static (y := (⟨"com/example/chunkwise/chunkwise/item/RecordBuilderEndValuePinLaw", "four", "(Lcom/example/chunkwise/chunkwise/item/RecordBuilder;)V"⟩ : MethodName)) (argsL := [(.ref b_258)]) (rest := []) (W := 0) (kc := 0) (ks := 0) (wl := [b_258, b_270]) at_98 rfl (wd119 hw) (wd120 hw) (wd121 hw) (wd122 hw) (by decide) (lenOf pd_21 rfl) rfl rfl (Nat.le_of_ble_eq_true rfl) (Ok.pays (ok_four hw b_258 a_269 b_270 (Nat.le_of_ble_eq_true rfl) (by decide) R_295) (wd122 hw) (wd121 hw) (by decide) (by decide)) (fun v h' q => q.2.1) (allS ⟨(RB.gx R_295), (Sf.exa (RB.exa R_295) (by decide) (by decide))⟩ (allS ⟨(RB.gb R_295), (RB.sfb R_295)⟩ all0)) (by decide) (by decide) ?_
      rintro _ h_298 ⟨rfl, KK_296, FF_297⟩
      refine Run.cast (st' := []) rfl ?_
      have szh_298 := KK_296.1
      have R_299 : RB Z h_298 n0 b_258 a_269 b_270 [c0] [Int32.ofNat 1, Int32.ofNat 1, Int32.ofNat 1, Int32.ofNat 1, Int32.ofNat 1, Int32.ofNat 1, Int32.ofNat 1, Int32.ofNat 1, Int32.ofNat 1, Int32.ofNat 1, Int32.ofNat 1, Int32.ofNat 1, Int32.ofNat 1, Int32.ofNat 1] 16 := FF_297
      refine r_aload at_101 rfl rfl rfl ?_
      refine r_static (y := (⟨"com/example/chunkwise/chunkwise/item/RecordBuilderEndValuePinLaw", "four", "(Lcom/example/chunkwise/chunkwise/item/RecordBuilder;)V"⟩ : MethodName)) (argsL := [(.ref b_258)]) (rest := []) (W := 0) (kc := 1) (ks := 32) (wl := [b_258, b_270]) at_103 rfl (wd119 hw) (wd120 hw) (wd121 hw) (wd122 hw) (by decide) (lenOf pd_21 rfl) rfl rfl (Nat.le_of_ble_eq_true rfl) (Ok.pays (ok_fourg hw b_258 a_269 b_270 rfl R_299) (wd122 hw) (wd121 hw) (by decide) (by decide)) (fun v h' q => q.2.1) (allS ⟨(RB.gx R_299), (Sf.exa (RB.exa R_299) (by decide) (by decide))⟩ (allS ⟨(RB.gb R_299), (RB.sfb R_299)⟩ all0)) (by decide) (by decide) ?_
      rintro _ h_304 ⟨rfl, KK_300, b_302, hge_303, FF_301⟩
      refine Run.cast (st' := []) rfl ?_
      have szh_304 := KK_300.1
      have R_305 : RB Z h_304 n0 b_258 a_269 b_302 [c0] [Int32.ofNat 1, Int32.ofNat 1, Int32.ofNat 1, Int32.ofNat 1, Int32.ofNat 1, Int32.ofNat 1, Int32.ofNat 1, Int32.ofNat 1, Int32.ofNat 1, Int32.ofNat 1, Int32.ofNat 1, Int32.ofNat 1, Int32.ofNat 1, Int32.ofNat 1, Int32.ofNat 1, Int32.ofNat 1, Int32.ofNat 1, Int32.ofNat 1] 32 := FF_301
      refine r_aload at_106 rfl rfl rfl ?_
      refine r_iload at_108 rfl rfl ?_
      refine r_virtual (y := (⟨"com/example/chunkwise/chunkwise/item/RecordBuilder", "append", "(C)V"⟩ : MethodName)) (argsL := [(.int c1)]) (rest := []) (W := 0) (kc := 0) (ks := 0) (wl := [b_258, a_269]) at_110 rfl (wd15 hw) (wd16 hw) (wd18 hw) (wd17 hw) (by decide) ⟨rfl, rfl⟩ (RB.exa R_305) (lenOf pd_17 rfl) rfl rfl (Nat.le_of_ble_eq_true rfl) (Ok.pays (ok_app hw b_258 a_269 b_302 c1 (lat_char l1) (Nat.lt_of_lt_of_le (Nat.lt_succ_self _) (Nat.le_of_ble_eq_true rfl)) R_305) (wd19 hw) (wd2 hw) (by decide) (by decide)) (fun v h' q => q.2.1) (allS ⟨(RB.gx R_305), (Sf.exa (RB.exa R_305) (by decide) (by decide))⟩ (allS ⟨(RB.ga R_305), (RB.sfa R_305)⟩ all0)) (by decide) (by decide) ?_
      rintro _ h_308 ⟨rfl, KK_306, FF_307⟩
      refine Run.cast (st' := []) rfl ?_
      have szh_308 := KK_306.1
      have R_309 : RB Z h_308 n0 b_258 a_269 b_302 [c0, c1] [Int32.ofNat 1, Int32.ofNat 1, Int32.ofNat 1, Int32.ofNat 1, Int32.ofNat 1, Int32.ofNat 1, Int32.ofNat 1, Int32.ofNat 1, Int32.ofNat 1, Int32.ofNat 1, Int32.ofNat 1, Int32.ofNat 1, Int32.ofNat 1, Int32.ofNat 1, Int32.ofNat 1, Int32.ofNat 1, Int32.ofNat 1, Int32.ofNat 1] 32 := FF_307
      refine r_aload at_113 rfl rfl rfl ?_
      refine r_iload at_115 rfl rfl ?_
      refine r_virtual (y := (⟨"com/example/chunkwise/chunkwise/item/RecordBuilder", "append", "(C)V"⟩ : MethodName)) (argsL := [(.int c2)]) (rest := []) (W := 0) (kc := 0) (ks := 0) (wl := [b_258, a_269]) at_117 rfl (wd15 hw) (wd16 hw) (wd18 hw) (wd17 hw) (by decide) ⟨rfl, rfl⟩ (RB.exa R_309) (lenOf pd_17 rfl) rfl rfl (Nat.le_of_ble_eq_true rfl) (Ok.pays (ok_app hw b_258 a_269 b_302 c2 (lat_char l2) (Nat.lt_of_lt_of_le (Nat.lt_succ_self _) (Nat.le_of_ble_eq_true rfl)) R_309) (wd19 hw) (wd2 hw) (by decide) (by decide)) (fun v h' q => q.2.1) (allS ⟨(RB.gx R_309), (Sf.exa (RB.exa R_309) (by decide) (by decide))⟩ (allS ⟨(RB.ga R_309), (RB.sfa R_309)⟩ all0)) (by decide) (by decide) ?_
      rintro _ h_312 ⟨rfl, KK_310, FF_311⟩
      refine Run.cast (st' := []) rfl ?_
      have szh_312 := KK_310.1
      have R_313 : RB Z h_312 n0 b_258 a_269 b_302 [c0, c1, c2] [Int32.ofNat 1, Int32.ofNat 1, Int32.ofNat 1, Int32.ofNat 1, Int32.ofNat 1, Int32.ofNat 1, Int32.ofNat 1, Int32.ofNat 1, Int32.ofNat 1, Int32.ofNat 1, Int32.ofNat 1, Int32.ofNat 1, Int32.ofNat 1, Int32.ofNat 1, Int32.ofNat 1, Int32.ofNat 1, Int32.ofNat 1, Int32.ofNat 1] 32 := FF_311
      refine r_aload at_120 rfl rfl rfl ?_
      refine r_virtual (y := (⟨"com/example/chunkwise/chunkwise/item/RecordBuilder", "endValue", "()V"⟩ : MethodName)) (argsL := []) (rest := []) (W := 0) (kc := 0) (ks := 0) (wl := [b_258, b_302]) at_122 rfl (wd26 hw) (wd27 hw) (wd29 hw) (wd28 hw) (by decide) ⟨rfl, rfl⟩ (RB.exa R_313) (lenOf pd_11 rfl) rfl rfl (Nat.le_of_ble_eq_true rfl) (Ok.pays (ok_end hw b_258 a_269 b_302 (Nat.le_of_ble_eq_true rfl) (by decide) R_313) (wd30 hw) (wd2 hw) (by decide) (by decide)) (fun v h' q => q.2.1) (allS ⟨(RB.gx R_313), (Sf.exa (RB.exa R_313) (by decide) (by decide))⟩ (allS ⟨(RB.gb R_313), (RB.sfb R_313)⟩ all0)) (by decide) (by decide) ?_
      rintro _ h_316 ⟨rfl, KK_314, FF_315⟩
      refine Run.cast (st' := []) rfl ?_
      have szh_316 := KK_314.1
      have R_317 : RB Z h_316 n0 b_258 a_269 b_302 [c0, c1, c2] [Int32.ofNat 1, Int32.ofNat 1, Int32.ofNat 1, Int32.ofNat 1, Int32.ofNat 1, Int32.ofNat 1, Int32.ofNat 1, Int32.ofNat 1, Int32.ofNat 1, Int32.ofNat 1, Int32.ofNat 1, Int32.ofNat 1, Int32.ofNat 1, Int32.ofNat 1, Int32.ofNat 1, Int32.ofNat 1, Int32.ofNat 1, Int32.ofNat 1, Int32.ofNat 3] 32 := FF_315
      refine r_iload at_125 rfl rfl ?_
      refine r_ifeq (pc2 := 135) at_127 rfl rfl (fun cc => absurd cc (by decide)) (fun _ => ?_)
      refine r_bipush (v := 18) at_130 rfl rfl ?_
      refine r_goto (pc' := 136) at_132 rfl ?_
      refine r_istore (l' := #[.val (.int p0), .val (.int p1), .val (.int p2), .val (.int p3), .val (.int c0), .val (.int c1), .val (.int c2), .val (.int (1 : Int32)), .val (.int (1 : Int32)), .val (.ref b_258), .val (.int (18 : Int32)), .unset, .unset, .unset, .unset, .unset, .unset]) at_136 rfl rfl ?_
      refine r_aload at_138 rfl rfl rfl ?_
      refine r_virtual (y := (⟨"com/example/chunkwise/chunkwise/item/RecordBuilder", "size", "()I"⟩ : MethodName)) (argsL := []) (rest := []) (W := 0) (kc := 0) (ks := 0) (wl := []) at_140 rfl (wd33 hw) (wd34 hw) (wd36 hw) (wd35 hw) (by decide) ⟨rfl, rfl⟩ (RB.exa R_317) (lenOf pd_18 rfl) rfl rfl (Nat.le_of_ble_eq_true rfl) (Ok.pays (ok_size hw b_258 a_269 b_302 R_317) (wd37 hw) (wd2 hw) (by decide) (by decide)) (fun v h' q => q.2 ▸ Keep.refl _ _) all0 (by decide) (by decide) ?_
      rintro _ h_318 ⟨rfl, eqh⟩
      subst h_318
      refine Run.cast (st' := [(.int (Int32.ofNat [Int32.ofNat 1, Int32.ofNat 1, Int32.ofNat 1, Int32.ofNat 1, Int32.ofNat 1, Int32.ofNat 1, Int32.ofNat 1, Int32.ofNat 1, Int32.ofNat 1, Int32.ofNat 1, Int32.ofNat 1, Int32.ofNat 1, Int32.ofNat 1, Int32.ofNat 1, Int32.ofNat 1, Int32.ofNat 1, Int32.ofNat 1, Int32.ofNat 1, Int32.ofNat 3].length))]) rfl ?_
      refine r_iload at_143 rfl rfl ?_
      refine r_iconst (v := 1) at_145 rfl rfl ?_
      refine r_iadd at_146 rfl ?_
      refine r_icmpeq (pc2 := 152) at_147 rfl rfl (fun _ => ?_) (fun cc => absurd (by first | rfl | decide) cc)
      refine r_aload at_152 rfl rfl rfl ?_
      refine r_iconst (v := 0) at_154 rfl rfl ?_
      rw [show (0 : Int32) = (Int32.ofNat 0) from rfl]
      refine r_virtual (y := (⟨"com/example/chunkwise/chunkwise/item/RecordBuilder", "get", "(I)Ljava/lang/String;"⟩ : MethodName)) (argsL := [(.int (Int32.ofNat 0))]) (rest := []) (W := 0) (kc := 2) (ks := 8) (wl := []) at_155 rfl (wd38 hw) (wd39 hw) (wd41 hw) (wd40 hw) (by decide) ⟨rfl, rfl⟩ (RB.exa R_317) (lenOf pd_19 rfl) rfl rfl (Nat.le_of_ble_eq_true rfl) (Ok.pays (ok_getf hw b_258 a_269 b_302 (cs := [c0]) 0 0 (Nat.le_of_ble_eq_true rfl) (Nat.le_of_ble_eq_true rfl) (by decide) (fun _ => rfl) (fun q => absurd q (by decide)) rfl (by intro i hi; match i, hi with | 0, _ => rfl) (lat_1 l0) (Nat.le_of_ble_eq_true rfl) (Nat.le_of_ble_eq_true rfl) (Nat.le_of_ble_eq_true rfl) SC nC SF rF R_317) (wd42 hw) (wd2 hw) (by decide) (by decide)) (fun v h' q => by obtain ⟨_, _, _, K, _⟩ := q; exact K) all0 (by decide) (by decide) ?_
      rintro _ h_323 ⟨a_319, t_320, rfl, KK_321, SS_322⟩
      refine Run.cast (st' := [(.ref a_319)]) rfl ?_
      have szh_323 := KK_321.1
      have R_324 : RB Z h_323 n0 b_258 a_269 b_302 [c0, c1, c2] [Int32.ofNat 1, Int32.ofNat 1, Int32.ofNat 1, Int32.ofNat 1, Int32.ofNat 1, Int32.ofNat 1, Int32.ofNat 1, Int32.ofNat 1, Int32.ofNat 1, Int32.ofNat 1, Int32.ofNat 1, Int32.ofNat 1, Int32.ofNat 1, Int32.ofNat 1, Int32.ofNat 1, Int32.ofNat 1, Int32.ofNat 1, Int32.ofNat 1, Int32.ofNat 3] 32 := (RB.keep R_317 KK_321)
      have lt_325 : @LT.lt Nat instLTNat a_319 (Array.size h_323) := (Str.lt SS_322)
      have lt_326 : @LT.lt Nat instLTNat t_320 (Array.size h_323) := (Str.ltB SS_322)
      refine r_astore (l' := #[.val (.int p0), .val (.int p1), .val (.int p2), .val (.int p3), .val (.int c0), .val (.int c1), .val (.int c2), .val (.int (1 : Int32)), .val (.int (1 : Int32)), .val (.ref b_258), .val (.int (18 : Int32)), .val (.ref a_319), .unset, .unset, .unset, .unset, .unset]) at_158 rfl rfl rfl ?_
      refine r_iload at_160 rfl rfl ?_
      refine r_ifeq (pc2 := 193) at_162 rfl rfl (fun cc => absurd cc (by decide)) (fun _ => ?_)
      refine r_aload at_165 rfl rfl rfl ?_
      refine r_virtual (y := (⟨"java/lang/String", "length", "()I"⟩ : MethodName)) (argsL := []) (rest := []) (W := 0) (kc := 0) (ks := 0) (wl := []) at_167 rfl (wd81 hw) (wd82 hw) (wd84 hw) (wd83 hw) (by decide) ⟨rfl, rfl⟩ (Str.exa SS_322) (lenOf pd_18 rfl) rfl rfl (Nat.le_of_ble_eq_true rfl) (Ok.pays (ok_slen hw a_319 t_320 (lat_1 l0) (Nat.le_of_ble_eq_true rfl) SC nC SS_322) (wd85 hw) (wd45 hw) (by decide) (by decide)) (fun v h' q => q.2 ▸ Keep.refl _ _) all0 (by decide) (by decide) ?_
      rintro _ h_327 ⟨rfl, eqh⟩
      subst h_327
      refine Run.cast (st' := [(.int (Int32.ofNat [c0].length))]) rfl ?_
      refine r_iconst (v := 1) at_170 rfl rfl ?_
      refine r_icmpne (pc2 := 189) at_171 rfl rfl (fun cc => absurd (by rfl) cc) (fun _ => ?_)
      refine r_aload at_174 rfl rfl rfl ?_
      refine r_iconst (v := 0) at_176 rfl rfl ?_
      rw [show (0 : Int32) = (Int32.ofNat 0) from rfl]
      refine r_virtual (y := (⟨"java/lang/String", "charAt", "(I)C"⟩ : MethodName)) (argsL := [(.int (Int32.ofNat 0))]) (rest := []) (W := 0) (kc := 0) (ks := 0) (wl := []) at_177 rfl (wd91 hw) (wd92 hw) (wd94 hw) (wd93 hw) (by decide) ⟨rfl, rfl⟩ (Str.exa SS_322) (lenOf pd_20 rfl) rfl rfl (Nat.le_of_ble_eq_true rfl) (Ok.pays (ok_sch hw a_319 t_320 (lat_1 l0) (Nat.le_of_ble_eq_true rfl) 0 (Nat.le_of_ble_eq_true rfl) SC nC SF rF SS_322) (wd95 hw) (wd45 hw) (by decide) (by decide)) (fun v h' q => q.2 ▸ Keep.refl _ _) all0 (by decide) (by decide) ?_
      rintro _ h_328 ⟨rfl, eqh⟩
      subst h_328
      refine Run.cast (st' := [(.int ([c0].getD 0 0))]) rfl ?_
      refine r_iload at_180 rfl rfl ?_
      refine r_icmpne (pc2 := 189) at_182 rfl rfl (fun cc => absurd (by rfl) cc) (fun _ => ?_)
      refine r_iconst (v := 1) at_185 rfl rfl ?_
      refine r_goto (pc' := 198) at_186 rfl ?_
      refine r_istore (l' := #[.val (.int p0), .val (.int p1), .val (.int p2), .val (.int p3), .val (.int c0), .val (.int c1), .val (.int c2), .val (.int (1 : Int32)), .val (.int (1 : Int32)), .val (.ref b_258), .val (.int (18 : Int32)), .val (.ref a_319), .val (.int (1 : Int32)), .unset, .unset, .unset, .unset]) at_198 rfl rfl ?_
      refine r_aload at_200 rfl rfl rfl ?_
      refine r_iconst (v := 1) at_202 rfl rfl ?_
      rw [show (1 : Int32) = (Int32.ofNat 1) from rfl]
      refine r_virtualW (y := (⟨"com/example/chunkwise/chunkwise/item/RecordBuilder", "get", "(I)Ljava/lang/String;"⟩ : MethodName)) (argsL := [(.int (Int32.ofNat 1))]) (rest := []) (W := 0) (kc := 5) (ks := 12) (wl := []) rfl at_203 rfl (wd38 hw) (wd39 hw) (wd41 hw) (wd40 hw) (by decide) ⟨rfl, rfl⟩ (RB.exa R_324) (lenOf pd_19 rfl) rfl rfl (Nat.le_of_ble_eq_true rfl) (Ok.paysW (ok_gete hw b_258 a_269 b_302 1 1 (Nat.le_of_ble_eq_true rfl) (Nat.le_of_ble_eq_true rfl) (by decide) (fun q => absurd q (by decide)) (fun _ => rfl) rfl (by decide) SF rF R_324) (wd42 hw) (wd2 hw) (by decide) (by decide)) (by simp) (fun v h' q => by obtain ⟨_, _, _, K, _⟩ := q; exact K) all0 (by decide) (by decide) ?_
      rintro _ h_333 ⟨a_329, t_330, rfl, KK_331, SS_332⟩
      refine Run.forget (My' := [b_258]) (by simp [refs]) ?_
      refine Run.cast (st' := [(.ref a_329)]) rfl ?_
      have szh_333 := KK_331.1
      have R_334 : RB Z h_333 n0 b_258 a_269 b_302 [c0, c1, c2] [Int32.ofNat 1, Int32.ofNat 1, Int32.ofNat 1, Int32.ofNat 1, Int32.ofNat 1, Int32.ofNat 1, Int32.ofNat 1, Int32.ofNat 1, Int32.ofNat 1, Int32.ofNat 1, Int32.ofNat 1, Int32.ofNat 1, Int32.ofNat 1, Int32.ofNat 1, Int32.ofNat 1, Int32.ofNat 1, Int32.ofNat 1, Int32.ofNat 1, Int32.ofNat 3] 32 := (RB.keep R_324 KK_331)
      have lt_335 : @LT.lt Nat instLTNat a_329 (Array.size h_333) := (Str.lt SS_332)
      have lt_336 : @LT.lt Nat instLTNat t_330 (Array.size h_333) := (Str.ltB SS_332)
      refine r_virtual (y := (⟨"java/lang/String", "isEmpty", "()Z"⟩ : MethodName)) (argsL := []) (rest := []) (W := 0) (kc := 0) (ks := 0) (wl := []) at_206 rfl (wd114 hw) (wd115 hw) (wd117 hw) (wd116 hw) (by decide) ⟨rfl, rfl⟩ (Str.exa SS_332) (lenOf pd_3 rfl) rfl rfl (Nat.le_of_ble_eq_true rfl) (Ok.pays (ok_semp hw a_329 t_330 (fun c hc => absurd hc List.not_mem_nil) (Nat.zero_le _) SS_332) (wd118 hw) (wd45 hw) (by decide) (by decide)) (fun v h' q => q.2 ▸ Keep.refl _ _) all0 (by decide) (by decide) ?_
      rintro _ h_337 ⟨rfl, eqh⟩
      subst h_337
      refine Run.cast (st' := [(.int (if ([] : List Int32).length = 0 then 1 else 0))]) rfl ?_
      rw [show (if ([] : List Int32).length = 0 then 1 else 0) = (1 : Int32) from rfl]
      refine r_istore (l' := #[.val (.int p0), .val (.int p1), .val (.int p2), .val (.int p3), .val (.int c0), .val (.int c1), .val (.int c2), .val (.int (Int32.ofNat 1)), .val (.int (Int32.ofNat 1)), .val (.ref b_258), .val (.int (18 : Int32)), .val (.ref a_319), .val (.int (Int32.ofNat 1)), .val (.int (1 : Int32)), .unset, .unset, .unset]) at_209 rfl rfl ?_
      refine r_aload at_211 rfl rfl rfl ?_
      refine r_iload at_213 rfl rfl ?_
      rw [show (18 : Int32) = (Int32.ofNat 18) from rfl]
      refine r_virtual (y := (⟨"com/example/chunkwise/chunkwise/item/RecordBuilder", "get", "(I)Ljava/lang/String;"⟩ : MethodName)) (argsL := [(.int (Int32.ofNat 18))]) (rest := []) (W := 0) (kc := 2) (ks := 8) (wl := []) at_215 rfl (wd38 hw) (wd39 hw) (wd41 hw) (wd40 hw) (by decide) ⟨rfl, rfl⟩ (RB.exa R_334) (lenOf pd_19 rfl) rfl rfl (Nat.le_of_ble_eq_true rfl) (Ok.pays (ok_getf hw b_258 a_269 b_302 (cs := [c1, c2]) 18 1 (Nat.le_of_ble_eq_true rfl) (Nat.le_of_ble_eq_true rfl) (by decide) (fun q => absurd q (by decide)) (fun _ => rfl) rfl (by intro i hi; match i, hi with | 0, _ => rfl | 1, _ => rfl) (lat_2 l1 l2) (Nat.le_of_ble_eq_true rfl) (Nat.le_of_ble_eq_true rfl) (Nat.le_of_ble_eq_true rfl) SC nC SF rF R_334) (wd42 hw) (wd2 hw) (by decide) (by decide)) (fun v h' q => by obtain ⟨_, _, _, K, _⟩ := q; exact K) all0 (by decide) (by decide) ?_
      rintro _ h_342 ⟨a_338, t_339, rfl, KK_340, SS_341⟩
      refine Run.cast (st' := [(.ref a_338)]) rfl ?_
      have szh_342 := KK_340.1
      have R_343 : RB Z h_342 n0 b_258 a_269 b_302 [c0, c1, c2] [Int32.ofNat 1, Int32.ofNat 1, Int32.ofNat 1, Int32.ofNat 1, Int32.ofNat 1, Int32.ofNat 1, Int32.ofNat 1, Int32.ofNat 1, Int32.ofNat 1, Int32.ofNat 1, Int32.ofNat 1, Int32.ofNat 1, Int32.ofNat 1, Int32.ofNat 1, Int32.ofNat 1, Int32.ofNat 1, Int32.ofNat 1, Int32.ofNat 1, Int32.ofNat 3] 32 := (RB.keep R_334 KK_340)
      have lt_344 : @LT.lt Nat instLTNat a_338 (Array.size h_342) := (Str.lt SS_341)
      have lt_345 : @LT.lt Nat instLTNat t_339 (Array.size h_342) := (Str.ltB SS_341)
      refine r_astore (l' := #[.val (.int p0), .val (.int p1), .val (.int p2), .val (.int p3), .val (.int c0), .val (.int c1), .val (.int c2), .val (.int (Int32.ofNat 1)), .val (.int (Int32.ofNat 1)), .val (.ref b_258), .val (.int (Int32.ofNat 18)), .val (.ref a_319), .val (.int (Int32.ofNat 1)), .val (.int (1 : Int32)), .val (.ref a_338), .unset, .unset]) at_218 rfl rfl rfl ?_
      refine r_aload at_220 rfl rfl rfl ?_
      refine r_virtual (y := (⟨"java/lang/String", "length", "()I"⟩ : MethodName)) (argsL := []) (rest := []) (W := 0) (kc := 0) (ks := 0) (wl := []) at_222 rfl (wd81 hw) (wd82 hw) (wd84 hw) (wd83 hw) (by decide) ⟨rfl, rfl⟩ (Str.exa SS_341) (lenOf pd_18 rfl) rfl rfl (Nat.le_of_ble_eq_true rfl) (Ok.pays (ok_slen hw a_338 t_339 (lat_2 l1 l2) (Nat.le_of_ble_eq_true rfl) SC nC SS_341) (wd85 hw) (wd45 hw) (by decide) (by decide)) (fun v h' q => q.2 ▸ Keep.refl _ _) all0 (by decide) (by decide) ?_
      rintro _ h_346 ⟨rfl, eqh⟩
      subst h_346
      refine Run.cast (st' := [(.int (Int32.ofNat [c1, c2].length))]) rfl ?_
      refine r_iconst (v := 2) at_225 rfl rfl ?_
      refine r_icmpne (pc2 := 255) at_226 rfl rfl (fun cc => absurd (by rfl) cc) (fun _ => ?_)
      refine r_aload at_229 rfl rfl rfl ?_
      refine r_iconst (v := 0) at_231 rfl rfl ?_
      rw [show (0 : Int32) = (Int32.ofNat 0) from rfl]
      refine r_virtual (y := (⟨"java/lang/String", "charAt", "(I)C"⟩ : MethodName)) (argsL := [(.int (Int32.ofNat 0))]) (rest := []) (W := 0) (kc := 0) (ks := 0) (wl := []) at_232 rfl (wd91 hw) (wd92 hw) (wd94 hw) (wd93 hw) (by decide) ⟨rfl, rfl⟩ (Str.exa SS_341) (lenOf pd_20 rfl) rfl rfl (Nat.le_of_ble_eq_true rfl) (Ok.pays (ok_sch hw a_338 t_339 (lat_2 l1 l2) (Nat.le_of_ble_eq_true rfl) 0 (Nat.le_of_ble_eq_true rfl) SC nC SF rF SS_341) (wd95 hw) (wd45 hw) (by decide) (by decide)) (fun v h' q => q.2 ▸ Keep.refl _ _) all0 (by decide) (by decide) ?_
      rintro _ h_347 ⟨rfl, eqh⟩
      subst h_347
      refine Run.cast (st' := [(.int ([c1, c2].getD 0 0))]) rfl ?_
      refine r_iload at_235 rfl rfl ?_
      refine r_icmpne (pc2 := 255) at_237 rfl rfl (fun cc => absurd (by rfl) cc) (fun _ => ?_)
      refine r_aload at_240 rfl rfl rfl ?_
      refine r_iconst (v := 1) at_242 rfl rfl ?_
      rw [show (1 : Int32) = (Int32.ofNat 1) from rfl]
      refine r_virtual (y := (⟨"java/lang/String", "charAt", "(I)C"⟩ : MethodName)) (argsL := [(.int (Int32.ofNat 1))]) (rest := []) (W := 0) (kc := 0) (ks := 0) (wl := []) at_243 rfl (wd91 hw) (wd92 hw) (wd94 hw) (wd93 hw) (by decide) ⟨rfl, rfl⟩ (Str.exa SS_341) (lenOf pd_20 rfl) rfl rfl (Nat.le_of_ble_eq_true rfl) (Ok.pays (ok_sch hw a_338 t_339 (lat_2 l1 l2) (Nat.le_of_ble_eq_true rfl) 1 (Nat.le_of_ble_eq_true rfl) SC nC SF rF SS_341) (wd95 hw) (wd45 hw) (by decide) (by decide)) (fun v h' q => q.2 ▸ Keep.refl _ _) all0 (by decide) (by decide) ?_
      rintro _ h_348 ⟨rfl, eqh⟩
      subst h_348
      refine Run.cast (st' := [(.int ([c1, c2].getD 1 0))]) rfl ?_
      refine r_iload at_246 rfl rfl ?_
      refine r_icmpne (pc2 := 255) at_248 rfl rfl (fun cc => absurd (by rfl) cc) (fun _ => ?_)
      refine r_iconst (v := 1) at_251 rfl rfl ?_
      refine r_goto (pc' := 256) at_252 rfl ?_
      refine r_istore (l' := #[.val (.int p0), .val (.int p1), .val (.int p2), .val (.int p3), .val (.int c0), .val (.int c1), .val (.int c2), .val (.int (Int32.ofNat 1)), .val (.int (Int32.ofNat 1)), .val (.ref b_258), .val (.int (Int32.ofNat 18)), .val (.ref a_319), .val (.int (Int32.ofNat 1)), .val (.int (Int32.ofNat 1)), .val (.ref a_338), .val (.int (1 : Int32)), .unset]) at_256 rfl rfl ?_
      refine r_iload at_258 rfl rfl ?_
      refine r_ifeq (pc2 := 302) at_260 rfl rfl (fun cc => absurd cc (by decide)) (fun _ => ?_)
      refine r_aload at_263 rfl rfl rfl ?_
      refine r_bipush (v := 15) at_265 rfl rfl ?_
      rw [show (15 : Int32) = (Int32.ofNat 15) from rfl]
      refine r_virtualW (y := (⟨"com/example/chunkwise/chunkwise/item/RecordBuilder", "get", "(I)Ljava/lang/String;"⟩ : MethodName)) (argsL := [(.int (Int32.ofNat 15))]) (rest := []) (W := 0) (kc := 5) (ks := 12) (wl := []) rfl at_267 rfl (wd38 hw) (wd39 hw) (wd41 hw) (wd40 hw) (by decide) ⟨rfl, rfl⟩ (RB.exa R_343) (lenOf pd_19 rfl) rfl rfl (Nat.le_of_ble_eq_true rfl) (Ok.paysW (ok_gete hw b_258 a_269 b_302 15 1 (Nat.le_of_ble_eq_true rfl) (Nat.le_of_ble_eq_true rfl) (by decide) (fun q => absurd q (by decide)) (fun _ => rfl) rfl (by decide) SF rF R_343) (wd42 hw) (wd2 hw) (by decide) (by decide)) (by simp) (fun v h' q => by obtain ⟨_, _, _, K, _⟩ := q; exact K) all0 (by decide) (by decide) ?_
      rintro _ h_353 ⟨a_349, t_350, rfl, KK_351, SS_352⟩
      refine Run.forget (My' := [b_258]) (by simp [refs]) ?_
      refine Run.cast (st' := [(.ref a_349)]) rfl ?_
      have szh_353 := KK_351.1
      have R_354 : RB Z h_353 n0 b_258 a_269 b_302 [c0, c1, c2] [Int32.ofNat 1, Int32.ofNat 1, Int32.ofNat 1, Int32.ofNat 1, Int32.ofNat 1, Int32.ofNat 1, Int32.ofNat 1, Int32.ofNat 1, Int32.ofNat 1, Int32.ofNat 1, Int32.ofNat 1, Int32.ofNat 1, Int32.ofNat 1, Int32.ofNat 1, Int32.ofNat 1, Int32.ofNat 1, Int32.ofNat 1, Int32.ofNat 1, Int32.ofNat 3] 32 := (RB.keep R_343 KK_351)
      have lt_355 : @LT.lt Nat instLTNat a_349 (Array.size h_353) := (Str.lt SS_352)
      have lt_356 : @LT.lt Nat instLTNat t_350 (Array.size h_353) := (Str.ltB SS_352)
      refine r_virtual (y := (⟨"java/lang/String", "isEmpty", "()Z"⟩ : MethodName)) (argsL := []) (rest := []) (W := 0) (kc := 0) (ks := 0) (wl := []) at_270 rfl (wd114 hw) (wd115 hw) (wd117 hw) (wd116 hw) (by decide) ⟨rfl, rfl⟩ (Str.exa SS_352) (lenOf pd_3 rfl) rfl rfl (Nat.le_of_ble_eq_true rfl) (Ok.pays (ok_semp hw a_349 t_350 (fun c hc => absurd hc List.not_mem_nil) (Nat.zero_le _) SS_352) (wd118 hw) (wd45 hw) (by decide) (by decide)) (fun v h' q => q.2 ▸ Keep.refl _ _) all0 (by decide) (by decide) ?_
      rintro _ h_357 ⟨rfl, eqh⟩
      subst h_357
      refine Run.cast (st' := [(.int (if ([] : List Int32).length = 0 then 1 else 0))]) rfl ?_
      rw [show (if ([] : List Int32).length = 0 then 1 else 0) = (1 : Int32) from rfl]
      refine r_ifeq (pc2 := 306) at_273 rfl rfl (fun cc => absurd cc (by decide)) (fun _ => ?_)
      refine r_aload at_276 rfl rfl rfl ?_
      refine r_bipush (v := 16) at_278 rfl rfl ?_
      rw [show (16 : Int32) = (Int32.ofNat 16) from rfl]
      refine r_virtualW (y := (⟨"com/example/chunkwise/chunkwise/item/RecordBuilder", "get", "(I)Ljava/lang/String;"⟩ : MethodName)) (argsL := [(.int (Int32.ofNat 16))]) (rest := []) (W := 0) (kc := 5) (ks := 12) (wl := []) rfl at_280 rfl (wd38 hw) (wd39 hw) (wd41 hw) (wd40 hw) (by decide) ⟨rfl, rfl⟩ (RB.exa R_354) (lenOf pd_19 rfl) rfl rfl (Nat.le_of_ble_eq_true rfl) (Ok.paysW (ok_gete hw b_258 a_269 b_302 16 1 (Nat.le_of_ble_eq_true rfl) (Nat.le_of_ble_eq_true rfl) (by decide) (fun q => absurd q (by decide)) (fun _ => rfl) rfl (by decide) SF rF R_354) (wd42 hw) (wd2 hw) (by decide) (by decide)) (by simp) (fun v h' q => by obtain ⟨_, _, _, K, _⟩ := q; exact K) all0 (by decide) (by decide) ?_
      rintro _ h_362 ⟨a_358, t_359, rfl, KK_360, SS_361⟩
      refine Run.forget (My' := [b_258]) (by simp [refs]) ?_
      refine Run.cast (st' := [(.ref a_358)]) rfl ?_
      have szh_362 := KK_360.1
      have R_363 : RB Z h_362 n0 b_258 a_269 b_302 [c0, c1, c2] [Int32.ofNat 1, Int32.ofNat 1, Int32.ofNat 1, Int32.ofNat 1, Int32.ofNat 1, Int32.ofNat 1, Int32.ofNat 1, Int32.ofNat 1, Int32.ofNat 1, Int32.ofNat 1, Int32.ofNat 1, Int32.ofNat 1, Int32.ofNat 1, Int32.ofNat 1, Int32.ofNat 1, Int32.ofNat 1, Int32.ofNat 1, Int32.ofNat 1, Int32.ofNat 3] 32 := (RB.keep R_354 KK_360)
      have lt_364 : @LT.lt Nat instLTNat a_358 (Array.size h_362) := (Str.lt SS_361)
      have lt_365 : @LT.lt Nat instLTNat t_359 (Array.size h_362) := (Str.ltB SS_361)
      refine r_virtual (y := (⟨"java/lang/String", "isEmpty", "()Z"⟩ : MethodName)) (argsL := []) (rest := []) (W := 0) (kc := 0) (ks := 0) (wl := []) at_283 rfl (wd114 hw) (wd115 hw) (wd117 hw) (wd116 hw) (by decide) ⟨rfl, rfl⟩ (Str.exa SS_361) (lenOf pd_3 rfl) rfl rfl (Nat.le_of_ble_eq_true rfl) (Ok.pays (ok_semp hw a_358 t_359 (fun c hc => absurd hc List.not_mem_nil) (Nat.zero_le _) SS_361) (wd118 hw) (wd45 hw) (by decide) (by decide)) (fun v h' q => q.2 ▸ Keep.refl _ _) all0 (by decide) (by decide) ?_
      rintro _ h_366 ⟨rfl, eqh⟩
      subst h_366
      refine Run.cast (st' := [(.int (if ([] : List Int32).length = 0 then 1 else 0))]) rfl ?_
      rw [show (if ([] : List Int32).length = 0 then 1 else 0) = (1 : Int32) from rfl]
      refine r_ifeq (pc2 := 306) at_286 rfl rfl (fun cc => absurd cc (by decide)) (fun _ => ?_)
      refine r_aload at_289 rfl rfl rfl ?_
      refine r_bipush (v := 17) at_291 rfl rfl ?_
      rw [show (17 : Int32) = (Int32.ofNat 17) from rfl]
      refine r_virtualW (y := (⟨"com/example/chunkwise/chunkwise/item/RecordBuilder", "get", "(I)Ljava/lang/String;"⟩ : MethodName)) (argsL := [(.int (Int32.ofNat 17))]) (rest := []) (W := 0) (kc := 5) (ks := 12) (wl := []) rfl at_293 rfl (wd38 hw) (wd39 hw) (wd41 hw) (wd40 hw) (by decide) ⟨rfl, rfl⟩ (RB.exa R_363) (lenOf pd_19 rfl) rfl rfl (Nat.le_of_ble_eq_true rfl) (Ok.paysW (ok_gete hw b_258 a_269 b_302 17 1 (Nat.le_of_ble_eq_true rfl) (Nat.le_of_ble_eq_true rfl) (by decide) (fun q => absurd q (by decide)) (fun _ => rfl) rfl (by decide) SF rF R_363) (wd42 hw) (wd2 hw) (by decide) (by decide)) (by simp) (fun v h' q => by obtain ⟨_, _, _, K, _⟩ := q; exact K) all0 (by decide) (by decide) ?_
      rintro _ h_371 ⟨a_367, t_368, rfl, KK_369, SS_370⟩
      refine Run.forget (My' := [b_258]) (by simp [refs]) ?_
      refine Run.cast (st' := [(.ref a_367)]) rfl ?_
      have szh_371 := KK_369.1
      have R_372 : RB Z h_371 n0 b_258 a_269 b_302 [c0, c1, c2] [Int32.ofNat 1, Int32.ofNat 1, Int32.ofNat 1, Int32.ofNat 1, Int32.ofNat 1, Int32.ofNat 1, Int32.ofNat 1, Int32.ofNat 1, Int32.ofNat 1, Int32.ofNat 1, Int32.ofNat 1, Int32.ofNat 1, Int32.ofNat 1, Int32.ofNat 1, Int32.ofNat 1, Int32.ofNat 1, Int32.ofNat 1, Int32.ofNat 1, Int32.ofNat 3] 32 := (RB.keep R_363 KK_369)
      have lt_373 : @LT.lt Nat instLTNat a_367 (Array.size h_371) := (Str.lt SS_370)
      have lt_374 : @LT.lt Nat instLTNat t_368 (Array.size h_371) := (Str.ltB SS_370)
      refine r_virtual (y := (⟨"java/lang/String", "isEmpty", "()Z"⟩ : MethodName)) (argsL := []) (rest := []) (W := 0) (kc := 0) (ks := 0) (wl := []) at_296 rfl (wd114 hw) (wd115 hw) (wd117 hw) (wd116 hw) (by decide) ⟨rfl, rfl⟩ (Str.exa SS_370) (lenOf pd_3 rfl) rfl rfl (Nat.le_of_ble_eq_true rfl) (Ok.pays (ok_semp hw a_367 t_368 (fun c hc => absurd hc List.not_mem_nil) (Nat.zero_le _) SS_370) (wd118 hw) (wd45 hw) (by decide) (by decide)) (fun v h' q => q.2 ▸ Keep.refl _ _) all0 (by decide) (by decide) ?_
      rintro _ h_375 ⟨rfl, eqh⟩
      subst h_375
      refine Run.cast (st' := [(.int (if ([] : List Int32).length = 0 then 1 else 0))]) rfl ?_
      rw [show (if ([] : List Int32).length = 0 then 1 else 0) = (1 : Int32) from rfl]
      refine r_ifeq (pc2 := 306) at_299 rfl rfl (fun cc => absurd cc (by decide)) (fun _ => ?_)
      refine r_iconst (v := 1) at_302 rfl rfl ?_
      refine r_goto (pc' := 307) at_303 rfl ?_
      refine r_istore (l' := #[.val (.int p0), .val (.int p1), .val (.int p2), .val (.int p3), .val (.int c0), .val (.int c1), .val (.int c2), .val (.int (Int32.ofNat 1)), .val (.int (Int32.ofNat 1)), .val (.ref b_258), .val (.int (Int32.ofNat 18)), .val (.ref a_319), .val (.int (Int32.ofNat 1)), .val (.int (Int32.ofNat 1)), .val (.ref a_338), .val (.int (1 : Int32)), .val (.int (1 : Int32))]) at_307 rfl rfl ?_
      refine r_iload at_309 rfl rfl ?_
      refine r_ifeq (pc2 := 333) at_311 rfl rfl (fun cc => absurd cc (by decide)) (fun _ => ?_)
      refine r_iload at_314 rfl rfl ?_
      refine r_ifeq (pc2 := 333) at_316 rfl rfl (fun cc => absurd cc (by decide)) (fun _ => ?_)
      refine r_iload at_319 rfl rfl ?_
      refine r_ifeq (pc2 := 333) at_321 rfl rfl (fun cc => absurd cc (by decide)) (fun _ => ?_)
      refine r_iload at_324 rfl rfl ?_
      refine r_ifeq (pc2 := 333) at_326 rfl rfl (fun cc => absurd cc (by decide)) (fun _ => ?_)
      refine r_iconst (v := 1) at_329 rfl rfl ?_
      refine r_goto (pc' := 334) at_330 rfl ?_
      exact r_ireturnN (t := .boolean) at_334 rfl (by simp) rfl (by simp) (by decide) (by decide)
set_option maxRecDepth 65536 in
set_option maxHeartbeats 40000000 in
theorem comes_1 {Post : Tables → Env → Array Value → State → Outcome → State → Prop} (hpost : ∀ tb e args s v u, (limb_1_1.after args s (.returned v) u = true ∧ limb_1_2.after args s (.returned v) u = true ∧ True) → Jvm.D.FramedW s (.returned v) u (Jvm.fieldLocs frame_1_writes args s ++ Jvm.arrayLocs frame_1_arrays args s ++ Jvm.staticLocs frame_1_statics s) 40 1792 → Post tb e args s (.returned v) u) :
    ArmFor flags0 classFile x code maxLocals ret World_1 tables_1 room_1 Calls_1 rest_1 Pre_1 Post := by
  intro l hfl _ _ p e ha hc hk s m args below hf hA hF happ hP
  obtain ⟨hcalls, hrest, hpre⟩ := hP
  obtain ⟨-, -, -, hnamed, -, -, -, hat⟩ := (Spec.applies_iff hf).mp happ
  obtain ⟨hg, hn⟩ := and_e (Cond.before_iff.mp (show (Jvm.Cond.and given_1 narrow_1).before args s = true from hpre))
  obtain ⟨gc, gr0⟩ := and_e hg
  obtain ⟨ga0, gr1⟩ := and_e gr0
  obtain ⟨ga1, gr2⟩ := and_e gr1
  obtain ⟨ga2, gr3⟩ := and_e gr2
  obtain ⟨w0, w1, w2, w3, rfl⟩ : ∃ w0 w1 w2 w3 : Value, args = #[w0, w1, w2, w3] := by
    have hs : args.size = 4 := by simpa [Cond.value, given_1] using gc
    obtain ⟨L⟩ := args
    match L, hs with
    | [w0, w1, w2, w3], _ => exact ⟨w0, w1, w2, w3, rfl⟩
  have hw := fun d (hd : d ∈ tables_1) => atoms_spec (ws := Jvm.Cond.code x code maxLocals ret :: tables_1) hat d (List.mem_cons_of_mem _ hd)
  have hfit : Fit s := fun {y c} hc i hi => by
    obtain ⟨ha, rfl⟩ := Array.getElem?_eq_some_iff.mp hc
    have q := List.all_eq_true.mp ((Array.all_eq_true_iff_forall_mem.mp hF) _ (Array.getElem_mem ha)) i (List.mem_range.mpr hi)
    simpa [Array.getElem?_eq_getElem hi] using q
  obtain ⟨hsets, hown0⟩ := atoms_of _ (rest_1_c_eq ▸ (show rest_1_c.before _ s = true from hrest))
  obtain ⟨i0, ei0⟩ := is_v ga0
  obtain rfl : w0 = (.int i0) := Option.some.inj ei0
  obtain ⟨i1, ei1⟩ := is_v ga1
  obtain rfl : w1 = (.int i1) := Option.some.inj ei1
  obtain ⟨i2, ei2⟩ := is_v ga2
  obtain rfl : w2 = (.int i2) := Option.some.inj ei2
  obtain ⟨i3, ei3⟩ := is_v gr3
  obtain rfl : w3 = (.int i3) := Option.some.inj ei3
  have n5 := not_v (Cond.before_iff.mp (hsets _ (List.mem_of_getElem? (i := 2) rfl)))
  obtain ⟨zC, eC⟩ := is_v (Cond.before_iff.mp (hsets _ (List.mem_of_getElem? (i := 1) rfl)))
  have SC : Sta s s.heap "java/lang/String" "COMPACT_STRINGS" "Z" (.int zC) := Sta.start eC (Or.inl (hsets _ (List.mem_of_getElem? (i := 0) rfl)))
  have nC : ¬ (zC = (0 : Int32)) := gotF (Cond.eq_ints eC (Term.int_eval (0))) n5
  obtain ⟨vF, eF, rF⟩ := isR_v (Cond.before_iff.mp (hsets _ (List.mem_of_getElem? (i := 8) rfl)))
  have SF : Sta s s.heap "jdk/internal/util/Preconditions" "SIOOBE_FORMATTER" "Ljava/util/function/BiFunction;" vF := Sta.start eF (Or.inl (hsets _ (List.mem_of_getElem? (i := 7) rfl)))
  obtain ⟨n, o, h1, h2, h3, v, L, rfl, rfl, N, hE⟩ := (ok_law hw i0 i1 i2 i3 SC nC SF rF) tables_1 p e ha hc hk s m _ below hf ((Spec.applies_iff_loose hf).mp happ).1 ⟨rfl, State.Warmed39.refl s, rfl, Old.start s, fun _ => by
    have hEW : EW s _ consts_1 := (EW.cons (wd111 hw) (by decide) EW.nil)
    exact ⟨⟨_, hEW⟩, CHv.start hEW (fun p hp => hcalls.1 p hp) (hsets _ (List.mem_of_getElem? (i := 2) rfl)) (wd70 hw) (wd44 hw), fun x hx => nomatch hx⟩⟩ trivial
  have hq := (hE.2 rfl).1
  exact ⟨n, _, h1, h2, h3, hpost _ _ _ _ _ _ ⟨Cond.after_iff.mpr rfl, Cond.after_iff.mpr (eq_i res_at (Term.int_eval (1)) rfl), trivial⟩ ⟨hq.1, hq.2.1, hq.2.2.1, (hq.2.2.2.sift fun y hy => Or.inr (N y hy)).mono (by decide) (by decide)⟩⟩
theorem main_1_1 : Claimed_1_1 := comes_1 fun _ _ _ _ _ _ h hF => ⟨h.1, hF⟩
theorem main_1_2 : Claimed_1_2 := comes_1 fun _ _ _ _ _ _ h hF => ⟨h.2.1, hF⟩
end Jvm.Pilot.@@N@@
namespace Jvm.Pilot.@@N@@
open Jvm Jvm.ClassFile Sem Op Lib Jvm.Free Jvm.Stand Jvm.Pilot.@@N@@.Jvm.D
/-! MADE BY PROGRAM (witnessworld.py) out of the Statement's table words and the real class files: 23 classes; the members and pool entries that the words name. The judged class is class 1, her method 1. -/
namespace start1
open Jvm.ClassFile
def u (s : String) : CpInfo := .utf8 (stringToUtf16 s)
/-- a pool by its gaps: so many unusable entries, then the entry; so many at the end -/
def gap : Nat → List CpInfo → List CpInfo
  | 0, r => r
  | n + 1, r => .unusable :: gap n r
def poolList (es : List (Nat × CpInfo)) (last : Nat) : List CpInfo := es.foldr (fun e r => gap e.1 (e.2 :: r)) (gap last [])
def pool (es : List (Nat × CpInfo)) (last : Nat) : Array CpInfo := ⟨poolList es last⟩
def fileOf (pool : Array CpInfo) (this : Nat) (attrs : Array Attribute := #[]) (ms : Array MethodInfo := #[]) (fl : Nat := 33) (sup : Nat := 0) (ifs : Array Nat := #[]) (fds : Array FieldInfo := #[]) : ClassFile where
  minorVersion := 0
  majorVersion := 65
  constantPool := pool
  accessFlags := fl
  thisClass := this
  superClass := sup
  interfaces := ifs
  fields := fds
  methods := ms
  attributes := attrs
def plain (name : String) (sup : Option ClassId) : Class where
  name := name
  kind := .ordinary
  loader := none
  accessFlags := 33
  super := sup
  interfaces := #[]
  cf := none
  fields := #[]
  methods := #[]
  instanceTypes := #[]
  staticTypes := #[]
  resolved := #[]
  callSites := []
  init := .initialized
  statics := none
  mirror := none

def pool0 : Array CpInfo := pool [(5, u "<init>"), (0, u "()V"), (1, .class_ 10), (1, u "java/lang/Object")] 113

def k0c0 : Code := { maxStack := 0, maxLocals := 1, code := object_method_1_code, exceptionTable := #[], attributes := #[] }
def k0m0 : Method := { name := "<init>", desc := "()V", sig := { parameters := [], returnType := none }, accessFlags := 1, code := some k0c0 }
/-- java/lang/Object -/
def k0 : Class := { plain "java/lang/Object" none with
  accessFlags := 33
  interfaces := #[]
  cf := some (fileOf pool0 8 #[] #[{ accessFlags := 1, nameIndex := 5, descriptorIndex := 6, attributes := #[] }] 33 0 #[] #[])
  fields := #[]
  methods := #[k0m0]
  instanceTypes := #[]
  staticTypes := #[]
  resolved := Array.replicate 124 none
  statics := none }

def pool1 : Array CpInfo := pool [(2, .class_ 4), (0, .nameAndType 5 6), (0, u "java/lang/Object"), (0, u "<init>"), (0, u "()V"), (0, .class_ 8), (0, u "com/example/chunkwise/chunkwise/item/RecordBuilder"), (0, .methodref 7 3), (0, .methodref 7 11), (0, .nameAndType 12 13), (0, u "append"), (0, u "(C)V"), (0, .methodref 7 15), (0, .nameAndType 16 6), (0, u "endValue"), (0, .methodref 18 19), (0, .class_ 20), (0, .nameAndType 21 22), (0, u "com/example/chunkwise/chunkwise/item/RecordBuilderEndValuePinLaw"), (0, u "four"), (0, u "(Lcom/example/chunkwise/chunkwise/item/RecordBuilder;)V"), (0, .methodref 7 24), (0, .nameAndType 25 26), (0, u "size"), (0, u "()I"), (0, .methodref 7 28), (0, .nameAndType 29 30), (0, u "get"), (0, u "(I)Ljava/lang/String;"), (0, .methodref 32 33), (0, .class_ 34), (0, .nameAndType 35 26), (0, u "java/lang/String"), (0, u "length"), (0, .methodref 32 37), (0, .nameAndType 38 39), (0, u "charAt"), (0, u "(I)C"), (0, .methodref 32 41), (0, .nameAndType 42 43), (0, u "isEmpty"), (0, u "()Z"), (2, u "law"), (0, u "(IIII)Z")] 3

def k1m0 : Method := { name := "<init>", desc := "()V", sig := { parameters := [], returnType := none }, accessFlags := 1, code := none }
def k1c1 : Code := { maxStack := 3, maxLocals := 17, code := code, exceptionTable := #[], attributes := #[] }
def k1m1 : Method := { name := "law", desc := "(IIII)Z", sig := { parameters := [.int, .int, .int, .int], returnType := some .boolean }, accessFlags := 9, code := some k1c1 }
def k1c2 : Code := { maxStack := 1, maxLocals := 1, code := method_3_code, exceptionTable := #[], attributes := #[] }
def k1m2 : Method := { name := "four", desc := "(Lcom/example/chunkwise/chunkwise/item/RecordBuilder;)V", sig := { parameters := [(.object "com/example/chunkwise/chunkwise/item/RecordBuilder")], returnType := none }, accessFlags := 10, code := some k1c2 }
/-- com/example/chunkwise/chunkwise/item/RecordBuilderEndValuePinLaw -/
def k1 : Class := { plain "com/example/chunkwise/chunkwise/item/RecordBuilderEndValuePinLaw" (some 0) with
  accessFlags := 49
  interfaces := #[]
  cf := some (fileOf pool1 18 #[] #[{ accessFlags := 1, nameIndex := 5, descriptorIndex := 6, attributes := #[] }, { accessFlags := 9, nameIndex := 46, descriptorIndex := 47, attributes := #[] }, { accessFlags := 10, nameIndex := 21, descriptorIndex := 22, attributes := #[] }] 49 2 #[] #[])
  fields := #[]
  methods := #[k1m0, k1m1, k1m2]
  instanceTypes := #[]
  staticTypes := #[]
  resolved := Array.replicate 51 none
  statics := none }

def pool2 : Array CpInfo := pool [(1, .methodref 2 3), (0, .class_ 4), (0, .nameAndType 5 6), (0, u "java/lang/Object"), (0, u "<init>"), (0, u "()V"), (0, .fieldref 8 9), (0, .class_ 10), (0, .nameAndType 11 12), (0, u "com/example/chunkwise/chunkwise/item/RecordBuilder"), (0, u "text"), (0, u "[C"), (0, .fieldref 8 14), (0, .nameAndType 15 16), (0, u "ends"), (0, u "[I"), (0, .fieldref 8 18), (0, .nameAndType 19 20), (0, u "length"), (0, u "I"), (0, .fieldref 8 22), (0, .nameAndType 23 20), (0, u "count"), (0, .methodref 8 25), (0, .nameAndType 26 27), (0, u "room"), (0, u "(I)V"), (6, .methodref 35 36), (0, .class_ 37), (0, .nameAndType 38 39), (0, u "java/util/Arrays"), (0, u "copyOf"), (0, u "([II)[I"), (0, .class_ 41), (0, u "java/lang/String"), (0, .methodref 40 43), (0, .nameAndType 5 44), (0, u "([CII)V"), (20, u "append"), (0, u "(C)V"), (0, u "endValue"), (1, u "size"), (0, u "()I"), (0, u "get"), (0, u "(I)Ljava/lang/String;")] 4

def k2c0 : Code := { maxStack := 2, maxLocals := 1, code := prog_61_method_1_code, exceptionTable := #[], attributes := #[] }
def k2m0 : Method := { name := "<init>", desc := "()V", sig := { parameters := [], returnType := none }, accessFlags := 1, code := some k2c0 }
def k2c1 : Code := { maxStack := 5, maxLocals := 2, code := prog_61_method_4_code, exceptionTable := #[], attributes := #[] }
def k2m1 : Method := { name := "append", desc := "(C)V", sig := { parameters := [.char], returnType := none }, accessFlags := 1, code := some k2c1 }
def k2c2 : Code := { maxStack := 5, maxLocals := 1, code := prog_61_method_5_code, exceptionTable := #[], attributes := #[] }
def k2m2 : Method := { name := "endValue", desc := "()V", sig := { parameters := [], returnType := none }, accessFlags := 1, code := some k2c2 }
def k2c3 : Code := { maxStack := 1, maxLocals := 1, code := prog_61_method_6_code, exceptionTable := #[], attributes := #[] }
def k2m3 : Method := { name := "size", desc := "()I", sig := { parameters := [], returnType := some .int }, accessFlags := 1, code := some k2c3 }
def k2c4 : Code := { maxStack := 6, maxLocals := 3, code := prog_61_method_7_code, exceptionTable := #[], attributes := #[] }
def k2m4 : Method := { name := "get", desc := "(I)Ljava/lang/String;", sig := { parameters := [.int], returnType := some (.object "java/lang/String") }, accessFlags := 1, code := some k2c4 }
def k2c5 : Code := { maxStack := 5, maxLocals := 2, code := prog_61_method_9_code, exceptionTable := #[], attributes := #[] }
def k2m5 : Method := { name := "room", desc := "(I)V", sig := { parameters := [.int], returnType := none }, accessFlags := 2, code := some k2c5 }
/-- com/example/chunkwise/chunkwise/item/RecordBuilder -/
def k2 : Class := { plain "com/example/chunkwise/chunkwise/item/RecordBuilder" (some 0) with
  accessFlags := 49
  interfaces := #[]
  cf := some (fileOf pool2 8 #[] #[{ accessFlags := 1, nameIndex := 5, descriptorIndex := 6, attributes := #[] }, { accessFlags := 1, nameIndex := 65, descriptorIndex := 66, attributes := #[] }, { accessFlags := 1, nameIndex := 67, descriptorIndex := 6, attributes := #[] }, { accessFlags := 1, nameIndex := 69, descriptorIndex := 70, attributes := #[] }, { accessFlags := 1, nameIndex := 71, descriptorIndex := 72, attributes := #[] }, { accessFlags := 2, nameIndex := 26, descriptorIndex := 27, attributes := #[] }] 49 2 #[] #[{ accessFlags := 2, nameIndex := 11, descriptorIndex := 12, attributes := #[] }, { accessFlags := 2, nameIndex := 19, descriptorIndex := 20, attributes := #[] }, { accessFlags := 2, nameIndex := 15, descriptorIndex := 16, attributes := #[] }, { accessFlags := 2, nameIndex := 23, descriptorIndex := 20, attributes := #[] }])
  fields := #[{ name := "text", type := (.array .char), accessFlags := 2, slot := 0, constantValue := 0 }, { name := "length", type := .int, accessFlags := 2, slot := 1, constantValue := 0 }, { name := "ends", type := (.array .int), accessFlags := 2, slot := 2, constantValue := 0 }, { name := "count", type := .int, accessFlags := 2, slot := 3, constantValue := 0 }]
  methods := #[k2m0, k2m1, k2m2, k2m3, k2m4, k2m5]
  instanceTypes := #[(.array .char), .int, (.array .int), .int]
  staticTypes := #[]
  resolved := Array.replicate 77 none
  statics := none }

def pool3 : Array CpInfo := pool [(1, .class_ 2), (0, u "java/io/Serializable"), (0, .class_ 4), (0, u "java/lang/Object")] 2

/-- java/io/Serializable -/
def k3 : Class := { plain "java/io/Serializable" (some 0) with
  accessFlags := 1537
  interfaces := #[]
  cf := some (fileOf pool3 1 #[] #[] 1537 3 #[] #[])
  fields := #[]
  methods := #[]
  instanceTypes := #[]
  staticTypes := #[]
  resolved := Array.replicate 7 none
  statics := none }

def pool4 : Array CpInfo := pool [(1, .class_ 2), (0, u "java/lang/Comparable"), (0, .class_ 4), (0, u "java/lang/Object")] 7

/-- java/lang/Comparable -/
def k4 : Class := { plain "java/lang/Comparable" (some 0) with
  accessFlags := 1537
  interfaces := #[]
  cf := some (fileOf pool4 1 #[] #[] 1537 3 #[] #[])
  fields := #[]
  methods := #[]
  instanceTypes := #[]
  staticTypes := #[]
  resolved := Array.replicate 12 none
  statics := none }

def pool5 : Array CpInfo := pool [(2, .class_ 4), (1, u "java/lang/CharSequence"), (42, .class_ 48), (0, u "java/lang/CharSequence$1CodePointIterator"), (10, .class_ 60), (0, u "java/lang/CharSequence$1CharIterator"), (5, .class_ 67), (0, u "java/lang/Object")] 63

/-- java/lang/CharSequence -/
def k5 : Class := { plain "java/lang/CharSequence" (some 0) with
  accessFlags := 1537
  interfaces := #[]
  cf := some (fileOf pool5 2 #[.nestMembers #[47, 59]] #[] 1537 66 #[] #[])
  fields := #[]
  methods := #[]
  instanceTypes := #[]
  staticTypes := #[]
  resolved := Array.replicate 131 none
  statics := none }

def pool6 : Array CpInfo := pool [(1, .class_ 2), (0, u "java/lang/constant/Constable"), (0, .class_ 4), (0, u "java/lang/Object")] 6

/-- java/lang/constant/Constable -/
def k6 : Class := { plain "java/lang/constant/Constable" (some 0) with
  accessFlags := 1537
  interfaces := #[]
  cf := some (fileOf pool6 1 #[] #[] 1537 3 #[] #[])
  fields := #[]
  methods := #[]
  instanceTypes := #[]
  staticTypes := #[]
  resolved := Array.replicate 11 none
  statics := none }

def pool7 : Array CpInfo := pool [(1, .class_ 2), (0, u "java/lang/constant/ConstantDesc"), (0, .class_ 4), (0, u "java/lang/Object")] 32

/-- java/lang/constant/ConstantDesc -/
def k7 : Class := { plain "java/lang/constant/ConstantDesc" (some 0) with
  accessFlags := 1537
  interfaces := #[]
  cf := some (fileOf pool7 1 #[] #[] 1537 3 #[] #[])
  fields := #[]
  methods := #[]
  instanceTypes := #[]
  staticTypes := #[]
  resolved := Array.replicate 37 none
  statics := none }

def pool8 : Array CpInfo := pool [(1, .methodref 2 3), (0, .class_ 4), (0, .nameAndType 5 6), (0, u "java/lang/Object"), (0, u "<init>"), (0, u "()V"), (0, .string 8), (0, u ""), (0, .fieldref 10 11), (0, .class_ 12), (0, .nameAndType 13 14), (0, u "java/lang/String"), (0, u "value"), (0, u "[B"), (0, .fieldref 10 16), (0, .nameAndType 17 18), (0, u "coder"), (0, u "B"), (2, u "hash"), (0, u "I"), (2, u "hashIsZero"), (0, u "Z"), (0, .methodref 10 28), (0, .nameAndType 5 29), (0, u "([CIILjava/lang/Void;)V"), (0, .methodref 10 31), (0, .nameAndType 32 33), (0, u "rangeCheck"), (0, u "([CII)Ljava/lang/Void;"), (0, .methodref 10 35), (0, .nameAndType 36 37), (0, u "checkBoundsOffCount"), (0, u "(III)I"), (0, .fieldref 10 39), (0, .nameAndType 40 26), (0, u "COMPACT_STRINGS"), (1, .class_ 44), (1, u "java/lang/StringUTF16"), (0, u "compress"), (1, .methodref 42 48), (0, .nameAndType 49 50), (0, u "coderFromArrayLen"), (0, u "([BI)B"), (56, .class_ 109), (1, u "java/lang/StringLatin1"), (32, u "()Z"), (34, .methodref 42 178), (0, .nameAndType 45 179), (0, u "([CII)[B"), (154, u "()I"), (0, .methodref 10 336), (0, .nameAndType 17 337), (0, u "()B"), (25, u "([BI)C"), (27, u "(II)V"), (35, u "(I)C"), (64, .methodref 10 493), (0, .nameAndType 494 142), (0, u "isLatin1"), (0, .methodref 107 496), (0, .nameAndType 497 363), (0, u "charAt"), (3, u "checkIndex"), (5, u "length"), (67, .class_ 576), (0, u "java/lang/CharSequence"), (22, u "CASE_INSENSITIVE_ORDER"), (0, u "Ljava/util/Comparator;"), (91, u "isEmpty"), (279, u "([CII)V"), (80, .fieldref 1054 1055), (0, .class_ 1056), (0, .nameAndType 1057 1058), (0, u "jdk/internal/util/Preconditions"), (0, u "SIOOBE_FORMATTER"), (0, u "Ljava/util/function/BiFunction;"), (0, .methodref 1054 1060), (0, .nameAndType 501 1061), (0, u "(IILjava/util/function/BiFunction;)I"), (2, u "(IIILjava/util/function/BiFunction;)I"), (0, .methodref 1054 1066), (0, .nameAndType 1067 1064), (0, u "checkFromIndexSize"), (33, u "serialPersistentFields"), (0, u "[Ljava/io/ObjectStreamField;"), (0, .class_ 1104), (0, u "java/lang/String$CaseInsensitiveComparator"), (1, .class_ 1107), (0, u "java/io/Serializable"), (0, .class_ 1109), (0, u "java/lang/Comparable"), (0, .class_ 1111), (0, u "java/lang/constant/Constable"), (0, .class_ 1113), (0, u "java/lang/constant/ConstantDesc"), (2, u "serialVersionUID"), (0, u "J"), (3, u "REPL"), (0, u "C"), (2, u "LATIN1"), (1, u "UTF16")] 323

def k8m0 : Method := { name := "<init>", desc := "()V", sig := { parameters := [], returnType := none }, accessFlags := 1, code := none }
def k8c1 : Code := { maxStack := 7, maxLocals := 4, code := jdk_42_method_4_code, exceptionTable := #[], attributes := #[] }
def k8m1 : Method := { name := "<init>", desc := "([CII)V", sig := { parameters := [(.array .char), .int, .int], returnType := none }, accessFlags := 1, code := some k8c1 }
def k8c2 : Code := { maxStack := 3, maxLocals := 3, code := jdk_42_method_5_code, exceptionTable := #[], attributes := #[] }
def k8m2 : Method := { name := "rangeCheck", desc := "([CII)Ljava/lang/Void;", sig := { parameters := [(.array .char), .int, .int], returnType := some (.object "java/lang/Void") }, accessFlags := 10, code := some k8c2 }
def k8c3 : Code := { maxStack := 2, maxLocals := 1, code := jdk_42_method_54_code, exceptionTable := #[], attributes := #[] }
def k8m3 : Method := { name := "length", desc := "()I", sig := { parameters := [], returnType := some .int }, accessFlags := 1, code := some k8c3 }
def k8c4 : Code := { maxStack := 1, maxLocals := 1, code := jdk_42_method_55_code, exceptionTable := #[], attributes := #[] }
def k8m4 : Method := { name := "isEmpty", desc := "()Z", sig := { parameters := [], returnType := some .boolean }, accessFlags := 1, code := some k8c4 }
def k8c5 : Code := { maxStack := 2, maxLocals := 2, code := jdk_42_method_56_code, exceptionTable := #[], attributes := #[] }
def k8m5 : Method := { name := "charAt", desc := "(I)C", sig := { parameters := [.int], returnType := some .char }, accessFlags := 1, code := some k8c5 }
def k8c6 : Code := { maxStack := 4, maxLocals := 6, code := jdk_42_method_149_code, exceptionTable := #[], attributes := #[] }
def k8m6 : Method := { name := "<init>", desc := "([CIILjava/lang/Void;)V", sig := { parameters := [(.array .char), .int, .int, (.object "java/lang/Void")], returnType := none }, accessFlags := 2, code := some k8c6 }
def k8c7 : Code := { maxStack := 1, maxLocals := 1, code := jdk_42_method_152_code, exceptionTable := #[], attributes := #[] }
def k8m7 : Method := { name := "coder", desc := "()B", sig := { parameters := [], returnType := some .byte }, accessFlags := 0, code := some k8c7 }
def k8c8 : Code := { maxStack := 1, maxLocals := 1, code := jdk_42_method_154_code, exceptionTable := #[], attributes := #[] }
def k8m8 : Method := { name := "isLatin1", desc := "()Z", sig := { parameters := [], returnType := some .boolean }, accessFlags := 0, code := some k8c8 }
def k8c9 : Code := { maxStack := 3, maxLocals := 2, code := jdk_42_method_155_code, exceptionTable := #[], attributes := #[] }
def k8m9 : Method := { name := "checkIndex", desc := "(II)V", sig := { parameters := [.int, .int], returnType := none }, accessFlags := 8, code := some k8c9 }
def k8c10 : Code := { maxStack := 4, maxLocals := 3, code := jdk_42_method_157_code, exceptionTable := #[], attributes := #[] }
def k8m10 : Method := { name := "checkBoundsOffCount", desc := "(III)I", sig := { parameters := [.int, .int, .int], returnType := some .int }, accessFlags := 8, code := some k8c10 }
/-- java/lang/String -/
def k8 : Class := { plain "java/lang/String" (some 0) with
  accessFlags := 49
  interfaces := #[3, 4, 5, 6, 7]
  cf := some (fileOf pool8 10 #[.nestMembers #[1103]] #[{ accessFlags := 1, nameIndex := 5, descriptorIndex := 6, attributes := #[] }, { accessFlags := 1, nameIndex := 5, descriptorIndex := 972, attributes := #[] }, { accessFlags := 10, nameIndex := 32, descriptorIndex := 33, attributes := #[] }, { accessFlags := 1, nameIndex := 507, descriptorIndex := 334, attributes := #[] }, { accessFlags := 1, nameIndex := 692, descriptorIndex := 142, attributes := #[] }, { accessFlags := 1, nameIndex := 497, descriptorIndex := 427, attributes := #[] }, { accessFlags := 2, nameIndex := 5, descriptorIndex := 29, attributes := #[] }, { accessFlags := 0, nameIndex := 17, descriptorIndex := 337, attributes := #[] }, { accessFlags := 0, nameIndex := 494, descriptorIndex := 142, attributes := #[] }, { accessFlags := 8, nameIndex := 501, descriptorIndex := 391, attributes := #[] }, { accessFlags := 8, nameIndex := 36, descriptorIndex := 37, attributes := #[] }] 49 2 #[1106, 1108, 575, 1110, 1112] #[{ accessFlags := 18, nameIndex := 13, descriptorIndex := 14, attributes := #[] }, { accessFlags := 18, nameIndex := 17, descriptorIndex := 18, attributes := #[] }, { accessFlags := 2, nameIndex := 21, descriptorIndex := 22, attributes := #[] }, { accessFlags := 2, nameIndex := 25, descriptorIndex := 26, attributes := #[] }, { accessFlags := 26, nameIndex := 1116, descriptorIndex := 1117, attributes := #[] }, { accessFlags := 24, nameIndex := 40, descriptorIndex := 26, attributes := #[] }, { accessFlags := 26, nameIndex := 1101, descriptorIndex := 1102, attributes := #[] }, { accessFlags := 26, nameIndex := 1121, descriptorIndex := 1122, attributes := #[] }, { accessFlags := 25, nameIndex := 599, descriptorIndex := 600, attributes := #[] }, { accessFlags := 24, nameIndex := 1125, descriptorIndex := 18, attributes := #[] }, { accessFlags := 24, nameIndex := 1127, descriptorIndex := 18, attributes := #[] }])
  fields := #[{ name := "value", type := (.array .byte), accessFlags := 18, slot := 0, constantValue := 0 }, { name := "coder", type := .byte, accessFlags := 18, slot := 1, constantValue := 0 }, { name := "hash", type := .int, accessFlags := 2, slot := 2, constantValue := 0 }, { name := "hashIsZero", type := .boolean, accessFlags := 2, slot := 3, constantValue := 0 }, { name := "serialVersionUID", type := .long, accessFlags := 26, slot := 0, constantValue := 0 }, { name := "COMPACT_STRINGS", type := .boolean, accessFlags := 24, slot := 1, constantValue := 0 }, { name := "serialPersistentFields", type := (.array (.object "java/io/ObjectStreamField")), accessFlags := 26, slot := 2, constantValue := 0 }, { name := "REPL", type := .char, accessFlags := 26, slot := 3, constantValue := 0 }, { name := "CASE_INSENSITIVE_ORDER", type := (.object "java/util/Comparator"), accessFlags := 25, slot := 4, constantValue := 0 }, { name := "LATIN1", type := .byte, accessFlags := 24, slot := 5, constantValue := 0 }, { name := "UTF16", type := .byte, accessFlags := 24, slot := 6, constantValue := 0 }]
  methods := #[k8m0, k8m1, k8m2, k8m3, k8m4, k8m5, k8m6, k8m7, k8m8, k8m9, k8m10]
  instanceTypes := #[(.array .byte), .byte, .int, .boolean]
  staticTypes := #[.long, .boolean, (.array (.object "java/io/ObjectStreamField")), .char, (.object "java/util/Comparator"), .byte, .byte]
  resolved := Array.replicate 1451 none
  statics := some 0 }

def pool9 : Array CpInfo := pool [(2, .class_ 4), (1, u "java/lang/Object"), (0, u "<init>"), (0, u "()V"), (17, .class_ 26), (1, u "jdk/internal/util/Preconditions"), (6, u "checkIndex"), (15, u "checkFromIndexSize"), (5, .class_ 56), (0, u "jdk/internal/util/Preconditions$4"), (57, .class_ 115), (0, u "jdk/internal/util/Preconditions$1"), (7, u "SIOOBE_FORMATTER"), (0, u "Ljava/util/function/BiFunction;"), (0, .class_ 126), (0, u "jdk/internal/util/Preconditions$2"), (3, u "AIOOBE_FORMATTER"), (0, .class_ 132), (0, u "jdk/internal/util/Preconditions$3"), (3, u "IOOBE_FORMATTER"), (41, u "(IILjava/util/function/BiFunction;)I"), (4, u "(IIILjava/util/function/BiFunction;)I")] 10

def k9m0 : Method := { name := "<init>", desc := "()V", sig := { parameters := [], returnType := none }, accessFlags := 1, code := none }
def k9c1 : Code := { maxStack := 3, maxLocals := 3, code := jdk_41_method_11_code, exceptionTable := #[], attributes := #[] }
def k9m1 : Method := { name := "checkIndex", desc := "(IILjava/util/function/BiFunction;)I", sig := { parameters := [.int, .int, (.object "java/util/function/BiFunction")], returnType := some .int }, accessFlags := 9, code := some k9c1 }
def k9c2 : Code := { maxStack := 4, maxLocals := 4, code := jdk_41_method_13_code, exceptionTable := #[], attributes := #[] }
def k9m2 : Method := { name := "checkFromIndexSize", desc := "(IIILjava/util/function/BiFunction;)I", sig := { parameters := [.int, .int, .int, (.object "java/util/function/BiFunction")], returnType := some .int }, accessFlags := 9, code := some k9c2 }
/-- jdk/internal/util/Preconditions -/
def k9 : Class := { plain "jdk/internal/util/Preconditions" (some 0) with
  accessFlags := 33
  interfaces := #[]
  cf := some (fileOf pool9 24 #[.nestMembers #[55, 131, 125, 114]] #[{ accessFlags := 1, nameIndex := 5, descriptorIndex := 6, attributes := #[] }, { accessFlags := 9, nameIndex := 33, descriptorIndex := 178, attributes := #[] }, { accessFlags := 9, nameIndex := 49, descriptorIndex := 183, attributes := #[] }] 33 2 #[] #[{ accessFlags := 25, nameIndex := 123, descriptorIndex := 124, attributes := #[] }, { accessFlags := 25, nameIndex := 130, descriptorIndex := 124, attributes := #[] }, { accessFlags := 25, nameIndex := 136, descriptorIndex := 124, attributes := #[] }])
  fields := #[{ name := "SIOOBE_FORMATTER", type := (.object "java/util/function/BiFunction"), accessFlags := 25, slot := 0, constantValue := 0 }, { name := "AIOOBE_FORMATTER", type := (.object "java/util/function/BiFunction"), accessFlags := 25, slot := 1, constantValue := 0 }, { name := "IOOBE_FORMATTER", type := (.object "java/util/function/BiFunction"), accessFlags := 25, slot := 2, constantValue := 0 }]
  methods := #[k9m0, k9m1, k9m2]
  instanceTypes := #[]
  staticTypes := #[(.object "java/util/function/BiFunction"), (.object "java/util/function/BiFunction"), (.object "java/util/function/BiFunction")]
  resolved := Array.replicate 194 none
  statics := some 1 }

def pool10 : Array CpInfo := pool [(6, .class_ 8), (1, u "java/lang/Object"), (0, u "<init>"), (0, u "()V"), (1, .class_ 14), (1, u "java/lang/StringUTF16"), (31, u "$assertionsDisabled"), (0, u "Z"), (13, u "HI_BYTE_SHIFT"), (0, u "I"), (2, u "LO_BYTE_SHIFT"), (49, .methodref 12 116), (0, .nameAndType 117 118), (0, u "compress"), (0, u "([CI[BII)I"), (3, u "([CII)[B"), (138, u "coderFromArrayLen"), (0, u "([BI)B"), (106, .class_ 371), (1, u "java/lang/StringUTF16$LinesSpliterator"), (58, u "MAX_LENGTH"), (196, .class_ 628), (0, u "java/lang/StringUTF16$CodePointsSpliterator"), (0, .class_ 630), (0, u "java/lang/StringUTF16$CharsSpliterator")] 4

def k10m0 : Method := { name := "<init>", desc := "()V", sig := { parameters := [], returnType := none }, accessFlags := 0, code := none }
def k10c1 : Code := { maxStack := 2, maxLocals := 2, code := jdk_52_method_15_code, exceptionTable := #[], attributes := #[] }
def k10m1 : Method := { name := "coderFromArrayLen", desc := "([BI)B", sig := { parameters := [(.array .byte), .int], returnType := some .byte }, accessFlags := 8, code := some k10c1 }
def k10c2 : Code := { maxStack := 5, maxLocals := 6, code := jdk_52_method_16_code, exceptionTable := #[], attributes := #[] }
def k10m2 : Method := { name := "compress", desc := "([CII)[B", sig := { parameters := [(.array .char), .int, .int], returnType := some (.array .byte) }, accessFlags := 9, code := some k10c2 }
def k10c3 : Code := { maxStack := 3, maxLocals := 7, code := jdk_52_method_21_code, exceptionTable := #[], attributes := #[] }
def k10m3 : Method := { name := "compress", desc := "([CI[BII)I", sig := { parameters := [(.array .char), .int, (.array .byte), .int, .int], returnType := some .int }, accessFlags := 9, code := some k10c3 }
/-- java/lang/StringUTF16 -/
def k10 : Class := { plain "java/lang/StringUTF16" (some 0) with
  accessFlags := 48
  interfaces := #[]
  cf := some (fileOf pool10 12 #[.nestMembers #[627, 629, 369]] #[{ accessFlags := 0, nameIndex := 9, descriptorIndex := 10, attributes := #[] }, { accessFlags := 8, nameIndex := 261, descriptorIndex := 262, attributes := #[] }, { accessFlags := 9, nameIndex := 117, descriptorIndex := 122, attributes := #[] }, { accessFlags := 9, nameIndex := 117, descriptorIndex := 118, attributes := #[] }] 48 6 #[] #[{ accessFlags := 26, nameIndex := 61, descriptorIndex := 62, attributes := #[] }, { accessFlags := 26, nameIndex := 65, descriptorIndex := 62, attributes := #[] }, { accessFlags := 24, nameIndex := 430, descriptorIndex := 62, attributes := #[] }, { accessFlags := 4120, nameIndex := 46, descriptorIndex := 47, attributes := #[] }])
  fields := #[{ name := "HI_BYTE_SHIFT", type := .int, accessFlags := 26, slot := 0, constantValue := 0 }, { name := "LO_BYTE_SHIFT", type := .int, accessFlags := 26, slot := 1, constantValue := 0 }, { name := "MAX_LENGTH", type := .int, accessFlags := 24, slot := 2, constantValue := 0 }, { name := "$assertionsDisabled", type := .boolean, accessFlags := 4120, slot := 3, constantValue := 0 }]
  methods := #[k10m0, k10m1, k10m2, k10m3]
  instanceTypes := #[]
  staticTypes := #[.int, .int, .int, .boolean]
  resolved := Array.replicate 635 none
  statics := none }

def pool11 : Array CpInfo := pool [(1, .class_ 2), (0, u "java/lang/String"), (1, .class_ 6), (1, u "java/lang/Object"), (0, u "<init>"), (0, u "()V"), (0, .methodref 1 10), (0, .nameAndType 11 12), (0, u "checkIndex"), (0, u "(II)V"), (1, .class_ 16), (1, u "java/lang/StringLatin1"), (36, u "([BI)C"), (67, u "$assertionsDisabled"), (0, u "Z"), (98, .class_ 223), (1, u "java/lang/StringLatin1$LinesSpliterator"), (28, u "charAt"), (137, .class_ 391), (0, u "java/lang/StringLatin1$CharsSpliterator")] 3

def k11m0 : Method := { name := "<init>", desc := "()V", sig := { parameters := [], returnType := none }, accessFlags := 0, code := none }
def k11c1 : Code := { maxStack := 2, maxLocals := 2, code := jdk_43_method_2_code, exceptionTable := #[], attributes := #[] }
def k11m1 : Method := { name := "charAt", desc := "([BI)C", sig := { parameters := [(.array .byte), .int], returnType := some .char }, accessFlags := 9, code := some k11c1 }
/-- java/lang/StringLatin1 -/
def k11 : Class := { plain "java/lang/StringLatin1" (some 0) with
  accessFlags := 48
  interfaces := #[]
  cf := some (fileOf pool11 14 #[.nestMembers #[390, 221]] #[{ accessFlags := 0, nameIndex := 7, descriptorIndex := 8, attributes := #[] }, { accessFlags := 9, nameIndex := 252, descriptorIndex := 53, attributes := #[] }] 48 4 #[] #[{ accessFlags := 4120, nameIndex := 121, descriptorIndex := 122, attributes := #[] }])
  fields := #[{ name := "$assertionsDisabled", type := .boolean, accessFlags := 4120, slot := 0, constantValue := 0 }]
  methods := #[k11m0, k11m1]
  instanceTypes := #[]
  staticTypes := #[.boolean]
  resolved := Array.replicate 395 none
  statics := none }

def pool12 : Array CpInfo := pool [(2, .class_ 4), (1, u "java/lang/Object"), (0, u "<init>"), (0, u "()V"), (7, .class_ 16), (1, u "java/util/Arrays"), (57, .class_ 76), (1, u "java/util/Arrays$NaturalOrder"), (36, .class_ 115), (1, u "java/util/Arrays$LegacyMergeSort"), (1, u "Z"), (32, .methodref 151 152), (0, .class_ 153), (0, .nameAndType 154 155), (0, u "java/lang/System"), (0, u "arraycopy"), (0, u "(Ljava/lang/Object;ILjava/lang/Object;II)V"), (146, u "copyOf"), (1, .methodref 305 306), (0, .class_ 307), (0, .nameAndType 308 309), (0, u "java/lang/Math"), (0, u "min"), (0, u "(II)I"), (65, .class_ 376), (0, u "java/util/Arrays$ArrayList"), (68, u "$assertionsDisabled"), (269, u "MIN_ARRAY_SORT_GRAN"), (0, u "I"), (2, u "INSERTIONSORT_THRESHOLD"), (151, u "([II)[I"), (103, .class_ 976), (0, u "java/util/Arrays$ArrayItr")] 52

def k12m0 : Method := { name := "<init>", desc := "()V", sig := { parameters := [], returnType := none }, accessFlags := 2, code := none }
def k12c1 : Code := { maxStack := 6, maxLocals := 3, code := jdk_65_method_123_code, exceptionTable := #[], attributes := #[] }
def k12m1 : Method := { name := "copyOf", desc := "([II)[I", sig := { parameters := [(.array .int), .int], returnType := some (.array .int) }, accessFlags := 9, code := some k12c1 }
/-- java/util/Arrays -/
def k12 : Class := { plain "java/util/Arrays" (some 0) with
  accessFlags := 49
  interfaces := #[]
  cf := some (fileOf pool12 14 #[.nestMembers #[975, 375, 113, 74]] #[{ accessFlags := 2, nameIndex := 5, descriptorIndex := 6, attributes := #[] }, { accessFlags := 9, nameIndex := 302, descriptorIndex := 871, attributes := #[] }] 49 2 #[] #[{ accessFlags := 26, nameIndex := 715, descriptorIndex := 716, attributes := #[] }, { accessFlags := 26, nameIndex := 719, descriptorIndex := 716, attributes := #[] }, { accessFlags := 4120, nameIndex := 445, descriptorIndex := 117, attributes := #[] }])
  fields := #[{ name := "MIN_ARRAY_SORT_GRAN", type := .int, accessFlags := 26, slot := 0, constantValue := 0 }, { name := "INSERTIONSORT_THRESHOLD", type := .int, accessFlags := 26, slot := 1, constantValue := 0 }, { name := "$assertionsDisabled", type := .boolean, accessFlags := 4120, slot := 2, constantValue := 0 }]
  methods := #[k12m0, k12m1]
  instanceTypes := #[]
  staticTypes := #[.int, .int, .boolean]
  resolved := Array.replicate 1029 none
  statics := none }

def pool13 : Array CpInfo := pool [(1, .class_ 2), (0, u "java/lang/Math"), (1, .class_ 6), (1, u "java/lang/Object"), (0, u "<init>"), (0, u "()V"), (89, .class_ 100), (1, u "java/lang/Math$RandomNumberGeneratorHolder"), (71, u "negativeZeroFloatBits"), (0, u "J"), (2, u "negativeZeroDoubleBits"), (24, u "min"), (43, u "$assertionsDisabled"), (0, u "Z"), (88, u "(II)I"), (2, u "twoToTheDoubleScaleDown"), (0, u "D"), (4, u "twoToTheDoubleScaleUp"), (9, u "E"), (3, u "PI"), (2, u "TAU"), (2, u "DEGREES_TO_RADIANS"), (0, u "RADIANS_TO_DEGREES")] 94

def k13m0 : Method := { name := "<init>", desc := "()V", sig := { parameters := [], returnType := none }, accessFlags := 2, code := none }
def k13c1 : Code := { maxStack := 2, maxLocals := 2, code := jdk_29_method_69_code, exceptionTable := #[], attributes := #[] }
def k13m1 : Method := { name := "min", desc := "(II)I", sig := { parameters := [.int, .int], returnType := some .int }, accessFlags := 9, code := some k13c1 }
/-- java/lang/Math -/
def k13 : Class := { plain "java/lang/Math" (some 0) with
  accessFlags := 49
  interfaces := #[]
  cf := some (fileOf pool13 1 #[.nestMembers #[98]] #[{ accessFlags := 2, nameIndex := 7, descriptorIndex := 8, attributes := #[] }, { accessFlags := 9, nameIndex := 201, descriptorIndex := 335, attributes := #[] }] 49 4 #[] #[{ accessFlags := 25, nameIndex := 354, descriptorIndex := 339, attributes := #[] }, { accessFlags := 25, nameIndex := 358, descriptorIndex := 339, attributes := #[] }, { accessFlags := 25, nameIndex := 361, descriptorIndex := 339, attributes := #[] }, { accessFlags := 26, nameIndex := 364, descriptorIndex := 339, attributes := #[] }, { accessFlags := 26, nameIndex := 365, descriptorIndex := 339, attributes := #[] }, { accessFlags := 26, nameIndex := 172, descriptorIndex := 173, attributes := #[] }, { accessFlags := 26, nameIndex := 176, descriptorIndex := 173, attributes := #[] }, { accessFlags := 8, nameIndex := 344, descriptorIndex := 339, attributes := #[] }, { accessFlags := 8, nameIndex := 338, descriptorIndex := 339, attributes := #[] }, { accessFlags := 4120, nameIndex := 245, descriptorIndex := 246, attributes := #[] }])
  fields := #[{ name := "E", type := .double, accessFlags := 25, slot := 0, constantValue := 0 }, { name := "PI", type := .double, accessFlags := 25, slot := 1, constantValue := 0 }, { name := "TAU", type := .double, accessFlags := 25, slot := 2, constantValue := 0 }, { name := "DEGREES_TO_RADIANS", type := .double, accessFlags := 26, slot := 3, constantValue := 0 }, { name := "RADIANS_TO_DEGREES", type := .double, accessFlags := 26, slot := 4, constantValue := 0 }, { name := "negativeZeroFloatBits", type := .long, accessFlags := 26, slot := 5, constantValue := 0 }, { name := "negativeZeroDoubleBits", type := .long, accessFlags := 26, slot := 6, constantValue := 0 }, { name := "twoToTheDoubleScaleUp", type := .double, accessFlags := 8, slot := 7, constantValue := 0 }, { name := "twoToTheDoubleScaleDown", type := .double, accessFlags := 8, slot := 8, constantValue := 0 }, { name := "$assertionsDisabled", type := .boolean, accessFlags := 4120, slot := 9, constantValue := 0 }]
  methods := #[k13m0, k13m1]
  instanceTypes := #[]
  staticTypes := #[.double, .double, .double, .double, .double, .long, .long, .double, .double, .boolean]
  resolved := Array.replicate 460 none
  statics := none }

def pool14 : Array CpInfo := pool [(2, .class_ 4), (1, u "java/lang/Object"), (0, u "<init>"), (0, u "()V"), (1, .class_ 10), (1, u "java/lang/System"), (0, u "allowSecurityManager"), (0, u "I"), (16, u "cons"), (0, u "Ljava/io/Console;"), (77, .class_ 110), (1, u "java/lang/System$CallersHolder"), (43, u "initialErrStream"), (0, u "Ljava/io/PrintStream;"), (19, u "security"), (0, u "Ljava/lang/SecurityManager;"), (31, .class_ 209), (0, u "java/lang/System$1"), (7, u "props"), (0, u "Ljava/util/Properties;"), (2, u "lineSeparator"), (0, u "Ljava/lang/String;"), (96, .class_ 321), (1, u "java/lang/System$LoggerFinder"), (5, .class_ 328), (0, u "java/lang/System$Logger"), (67, u "err"), (2, u "out"), (91, u "notSupportedJnuEncoding"), (15, u "in"), (17, u "initialIn"), (0, u "Ljava/io/InputStream;"), (35, u "bootLayer"), (0, u "Ljava/lang/ModuleLayer;"), (99, .class_ 664), (0, u "java/lang/System$2"), (9, u "NEVER"), (2, u "MAYBE"), (49, u "arraycopy"), (0, u "(Ljava/lang/Object;ILjava/lang/Object;II)V"), (72, .class_ 802), (0, u "java/lang/System$Logger$Level")] 31

def k14m0 : Method := { name := "<init>", desc := "()V", sig := { parameters := [], returnType := none }, accessFlags := 2, code := none }
def k14m1 : Method := { name := "arraycopy", desc := "(Ljava/lang/Object;ILjava/lang/Object;II)V", sig := { parameters := [(.object "java/lang/Object"), .int, (.object "java/lang/Object"), .int, .int], returnType := none }, accessFlags := 265, code := none }
/-- java/lang/System -/
def k14 : Class := { plain "java/lang/System" (some 0) with
  accessFlags := 49
  interfaces := #[]
  cf := some (fileOf pool14 8 #[.nestMembers #[319, 327, 801, 108, 663, 208]] #[{ accessFlags := 2, nameIndex := 5, descriptorIndex := 6, attributes := #[] }, { accessFlags := 265, nameIndex := 727, descriptorIndex := 728, attributes := #[] }] 49 2 #[] #[{ accessFlags := 25, nameIndex := 507, descriptorIndex := 526, attributes := #[] }, { accessFlags := 25, nameIndex := 399, descriptorIndex := 155, attributes := #[] }, { accessFlags := 25, nameIndex := 396, descriptorIndex := 155, attributes := #[] }, { accessFlags := 10, nameIndex := 525, descriptorIndex := 526, attributes := #[] }, { accessFlags := 26, nameIndex := 674, descriptorIndex := 12, attributes := #[] }, { accessFlags := 26, nameIndex := 677, descriptorIndex := 12, attributes := #[] }, { accessFlags := 10, nameIndex := 11, descriptorIndex := 12, attributes := #[] }, { accessFlags := 74, nameIndex := 175, descriptorIndex := 176, attributes := #[] }, { accessFlags := 10, nameIndex := 491, descriptorIndex := 222, attributes := #[] }, { accessFlags := 74, nameIndex := 29, descriptorIndex := 30, attributes := #[] }, { accessFlags := 74, nameIndex := 154, descriptorIndex := 155, attributes := #[] }, { accessFlags := 10, nameIndex := 217, descriptorIndex := 218, attributes := #[] }, { accessFlags := 10, nameIndex := 221, descriptorIndex := 222, attributes := #[] }, { accessFlags := 8, nameIndex := 562, descriptorIndex := 563, attributes := #[] }])
  fields := #[{ name := "in", type := (.object "java/io/InputStream"), accessFlags := 25, slot := 0, constantValue := 0 }, { name := "out", type := (.object "java/io/PrintStream"), accessFlags := 25, slot := 1, constantValue := 0 }, { name := "err", type := (.object "java/io/PrintStream"), accessFlags := 25, slot := 2, constantValue := 0 }, { name := "initialIn", type := (.object "java/io/InputStream"), accessFlags := 10, slot := 3, constantValue := 0 }, { name := "NEVER", type := .int, accessFlags := 26, slot := 4, constantValue := 0 }, { name := "MAYBE", type := .int, accessFlags := 26, slot := 5, constantValue := 0 }, { name := "allowSecurityManager", type := .int, accessFlags := 10, slot := 6, constantValue := 0 }, { name := "security", type := (.object "java/lang/SecurityManager"), accessFlags := 74, slot := 7, constantValue := 0 }, { name := "notSupportedJnuEncoding", type := (.object "java/lang/String"), accessFlags := 10, slot := 8, constantValue := 0 }, { name := "cons", type := (.object "java/io/Console"), accessFlags := 74, slot := 9, constantValue := 0 }, { name := "initialErrStream", type := (.object "java/io/PrintStream"), accessFlags := 74, slot := 10, constantValue := 0 }, { name := "props", type := (.object "java/util/Properties"), accessFlags := 10, slot := 11, constantValue := 0 }, { name := "lineSeparator", type := (.object "java/lang/String"), accessFlags := 10, slot := 12, constantValue := 0 }, { name := "bootLayer", type := (.object "java/lang/ModuleLayer"), accessFlags := 8, slot := 13, constantValue := 0 }]
  methods := #[k14m0, k14m1]
  instanceTypes := #[]
  staticTypes := #[(.object "java/io/InputStream"), (.object "java/io/PrintStream"), (.object "java/io/PrintStream"), (.object "java/io/InputStream"), .int, .int, .int, (.object "java/lang/SecurityManager"), (.object "java/lang/String"), (.object "java/io/Console"), (.object "java/io/PrintStream"), (.object "java/util/Properties"), (.object "java/lang/String"), (.object "java/lang/ModuleLayer")]
  resolved := Array.replicate 834 none
  statics := none }

def pool15 : Array CpInfo := pool [(9, u "<init>"), (6, .class_ 18), (1, u "java/lang/Object"), (0, u "()V"), (1, .class_ 23), (1, u "jdk/internal/util/ArraysSupport"), (0, u "LOG2_ARRAY_LONG_INDEX_SCALE"), (0, u "I"), (2, u "U"), (0, u "Ljdk/internal/misc/Unsafe;"), (8, u "BIG_ENDIAN"), (0, u "Z"), (8, u "LOG2_BYTE_BIT_SIZE"), (4, u "LOG2_ARRAY_INT_INDEX_SCALE"), (54, u "JLA"), (0, u "Ljdk/internal/access/JavaLangAccess;"), (11, u "LOG2_ARRAY_BOOLEAN_INDEX_SCALE"), (9, u "LOG2_ARRAY_BYTE_INDEX_SCALE"), (5, u "LOG2_ARRAY_CHAR_INDEX_SCALE"), (5, u "LOG2_ARRAY_SHORT_INDEX_SCALE"), (18, u "LOG2_ARRAY_FLOAT_INDEX_SCALE"), (24, u "LOG2_ARRAY_DOUBLE_INDEX_SCALE"), (89, u "T_BOOLEAN"), (2, u "T_CHAR"), (1, u "T_FLOAT"), (1, u "T_DOUBLE"), (1, u "T_BYTE"), (1, u "T_SHORT"), (1, u "T_INT"), (1, u "T_LONG"), (1, u "SOFT_MAX_ARRAY_LENGTH")] 83

def k15m0 : Method := { name := "<init>", desc := "()V", sig := { parameters := [], returnType := none }, accessFlags := 2, code := none }
/-- jdk/internal/util/ArraysSupport -/
def k15 : Class := { plain "jdk/internal/util/ArraysSupport" (some 0) with
  accessFlags := 33
  interfaces := #[]
  cf := some (fileOf pool15 21 #[] #[{ accessFlags := 2, nameIndex := 9, descriptorIndex := 19, attributes := #[] }] 33 16 #[] #[{ accessFlags := 24, nameIndex := 28, descriptorIndex := 29, attributes := #[] }, { accessFlags := 26, nameIndex := 38, descriptorIndex := 39, attributes := #[] }, { accessFlags := 25, nameIndex := 121, descriptorIndex := 25, attributes := #[] }, { accessFlags := 25, nameIndex := 131, descriptorIndex := 25, attributes := #[] }, { accessFlags := 25, nameIndex := 137, descriptorIndex := 25, attributes := #[] }, { accessFlags := 25, nameIndex := 143, descriptorIndex := 25, attributes := #[] }, { accessFlags := 25, nameIndex := 53, descriptorIndex := 25, attributes := #[] }, { accessFlags := 25, nameIndex := 24, descriptorIndex := 25, attributes := #[] }, { accessFlags := 25, nameIndex := 162, descriptorIndex := 25, attributes := #[] }, { accessFlags := 25, nameIndex := 187, descriptorIndex := 25, attributes := #[] }, { accessFlags := 26, nameIndex := 48, descriptorIndex := 25, attributes := #[] }, { accessFlags := 25, nameIndex := 277, descriptorIndex := 25, attributes := #[] }, { accessFlags := 25, nameIndex := 280, descriptorIndex := 25, attributes := #[] }, { accessFlags := 25, nameIndex := 282, descriptorIndex := 25, attributes := #[] }, { accessFlags := 25, nameIndex := 284, descriptorIndex := 25, attributes := #[] }, { accessFlags := 25, nameIndex := 286, descriptorIndex := 25, attributes := #[] }, { accessFlags := 25, nameIndex := 288, descriptorIndex := 25, attributes := #[] }, { accessFlags := 25, nameIndex := 290, descriptorIndex := 25, attributes := #[] }, { accessFlags := 25, nameIndex := 292, descriptorIndex := 25, attributes := #[] }, { accessFlags := 26, nameIndex := 108, descriptorIndex := 109, attributes := #[] }, { accessFlags := 25, nameIndex := 294, descriptorIndex := 25, attributes := #[] }])
  fields := #[{ name := "U", type := (.object "jdk/internal/misc/Unsafe"), accessFlags := 24, slot := 0, constantValue := 0 }, { name := "BIG_ENDIAN", type := .boolean, accessFlags := 26, slot := 1, constantValue := 0 }, { name := "LOG2_ARRAY_BOOLEAN_INDEX_SCALE", type := .int, accessFlags := 25, slot := 2, constantValue := 0 }, { name := "LOG2_ARRAY_BYTE_INDEX_SCALE", type := .int, accessFlags := 25, slot := 3, constantValue := 0 }, { name := "LOG2_ARRAY_CHAR_INDEX_SCALE", type := .int, accessFlags := 25, slot := 4, constantValue := 0 }, { name := "LOG2_ARRAY_SHORT_INDEX_SCALE", type := .int, accessFlags := 25, slot := 5, constantValue := 0 }, { name := "LOG2_ARRAY_INT_INDEX_SCALE", type := .int, accessFlags := 25, slot := 6, constantValue := 0 }, { name := "LOG2_ARRAY_LONG_INDEX_SCALE", type := .int, accessFlags := 25, slot := 7, constantValue := 0 }, { name := "LOG2_ARRAY_FLOAT_INDEX_SCALE", type := .int, accessFlags := 25, slot := 8, constantValue := 0 }, { name := "LOG2_ARRAY_DOUBLE_INDEX_SCALE", type := .int, accessFlags := 25, slot := 9, constantValue := 0 }, { name := "LOG2_BYTE_BIT_SIZE", type := .int, accessFlags := 26, slot := 10, constantValue := 0 }, { name := "T_BOOLEAN", type := .int, accessFlags := 25, slot := 11, constantValue := 0 }, { name := "T_CHAR", type := .int, accessFlags := 25, slot := 12, constantValue := 0 }, { name := "T_FLOAT", type := .int, accessFlags := 25, slot := 13, constantValue := 0 }, { name := "T_DOUBLE", type := .int, accessFlags := 25, slot := 14, constantValue := 0 }, { name := "T_BYTE", type := .int, accessFlags := 25, slot := 15, constantValue := 0 }, { name := "T_SHORT", type := .int, accessFlags := 25, slot := 16, constantValue := 0 }, { name := "T_INT", type := .int, accessFlags := 25, slot := 17, constantValue := 0 }, { name := "T_LONG", type := .int, accessFlags := 25, slot := 18, constantValue := 0 }, { name := "JLA", type := (.object "jdk/internal/access/JavaLangAccess"), accessFlags := 26, slot := 19, constantValue := 0 }, { name := "SOFT_MAX_ARRAY_LENGTH", type := .int, accessFlags := 25, slot := 20, constantValue := 0 }]
  methods := #[k15m0]
  instanceTypes := #[]
  staticTypes := #[(.object "jdk/internal/misc/Unsafe"), .boolean, .int, .int, .int, .int, .int, .int, .int, .int, .int, .int, .int, .int, .int, .int, .int, .int, .int, (.object "jdk/internal/access/JavaLangAccess"), .int]
  resolved := Array.replicate 378 none
  statics := none }

def pool16 : Array CpInfo := pool [(1, u "java/lang/Cloneable"), (0, .class_ 1), (0, u "java/lang/Object"), (0, .class_ 3)] 3

/-- java/lang/Cloneable -/
def k16 : Class := { plain "java/lang/Cloneable" (some 0) with
  accessFlags := 1537
  interfaces := #[]
  cf := some (fileOf pool16 2 #[] #[] 1537 4 #[] #[])
  fields := #[]
  methods := #[]
  instanceTypes := #[]
  staticTypes := #[]
  resolved := Array.replicate 8 none
  statics := none }

/-- the primitive byte -/
def k17 : Class := { plain "byte" none with kind := .primitive 'B', accessFlags := 0x411 }
/-- [B -/
def k18 : Class := { plain "[B" (some 0) with kind := .array 17 .byte, interfaces := #[16, 3], accessFlags := 1041 }

/-- the primitive char -/
def k19 : Class := { plain "char" none with kind := .primitive 'C', accessFlags := 0x411 }
/-- [C -/
def k20 : Class := { plain "[C" (some 0) with kind := .array 19 .char, interfaces := #[16, 3], accessFlags := 1041 }

/-- the primitive int -/
def k21 : Class := { plain "int" none with kind := .primitive 'I', accessFlags := 0x411 }
/-- [I -/
def k22 : Class := { plain "[I" (some 0) with kind := .array 21 .int, interfaces := #[16, 3], accessFlags := 1041 }

def heap : Heap := #[{ cls := 8, slots := #[.long 0, .int 1, .null, .int 0, .null, .int 0, .int 0], vm := .statics 8 },
  { cls := 9, slots := #[.null, .null, .null], vm := .statics 9 }]
def classes : Array Class := #[k0, k1, k2, k3, k4, k5, k6, k7, k8, k9, k10, k11, k12, k13, k14, k15, k16, k17, k18, k19, k20, k21, k22]
def interned : List (Array UInt16 × Addr) := []
def slotsUsed : Nat := 10
def theMethod : MethodId := ⟨1, 1⟩
def args0 : Array Value := #[.int 65, .int 66, .int 67, .int 3]
def aboutOver (below : List Frame) : State where
  vm := { classes := classes, interned := interned.toArray }
  heap := heap
  slotsUsed := slotsUsed
  threads := #[{ frames := .invoking theMethod args0 :: below }]
def below0 : List Frame := [.native { method := ⟨0, 0⟩, args := #[] }]
def about1 : State := aboutOver below0
def p0 : Program := .bare "" "" ""
def e0 : Env := launch0.env 0 0 0
theorem w_frames : about1.frames = Frame.invoking theMethod args0 :: below0 := rfl
set_option maxRecDepth 65536 in
theorem w_args : argsFit about1.vm theMethod args0 = true := by decide +kernel
set_option maxRecDepth 65536 in
theorem w_heap : heapFits about1 = true := by decide +kernel
set_option maxRecDepth 65536 in
theorem w_runnable : about1.curStatus? = some .runnable := by decide +kernel
set_option maxRecDepth 65536 in
theorem w_alone : about1.alone = true := by decide +kernel
set_option maxRecDepth 65536 in
theorem w_named : about1.methodNamed? x = some theMethod := by decide +kernel
set_option maxRecDepth 65536 in
theorem w_hears : about1.hears theMethod below0 = true := by decide +kernel
set_option maxRecDepth 65536 in
theorem w_ripe : about1.ripe theMethod args0 below0 = true := by decide +kernel
theorem w_running : about1.status = .running := rfl
set_option maxRecDepth 65536 in
theorem w_room : about1.hasRoom e0.platform room_1 = true :=
  launch0.hasRoom_least _ room_1 (by decide +kernel) (by decide +kernel) (by decide +kernel) (by decide +kernel) (by decide +kernel) (by decide +kernel)
theorem allAtoms_all (ts : List Jvm.Cond) (a : Array Jvm.Value) (st : Jvm.State) : (allAtoms ts).before a st = ts.all (fun c => c.before a st) := by
  induction ts with
  | nil => rfl
  | cons c t ih =>
    show (Jvm.Cond.and c (allAtoms t)).before a st = _
    rw [Jvm.Cond.before_and, ih, List.all_cons]
def words1 : List Jvm.Cond := Jvm.Cond.code x code maxLocals ret :: tables_1
/-- a 'code' word, met by the world's own term for the bytes: nothing is compared byte by byte -/
theorem code_word {y : MethodName} {bytes : ByteArray} {mx : Nat} {rt : Option FieldType} {a : Array Value} {s : State} {m : MethodId} {meth : Method} {c : Code} (h1 : s.methodNamed? y = some m) (h2 : s.vm.method? m = some meth) (h3 : meth.code = some c) (h4 : c.code = bytes)
    (h5 : (c.maxLocals == mx && c.exceptionTable.isEmpty && decide (c.maxStack ≤ mostOperands) && decide (meth.sig.returnType = rt) && !meth.locks && decide (parseMethodDescriptor y.desc = some meth.sig)) = true) : (Jvm.Cond.code y bytes mx rt).before a s = true := by
  simp only [Bool.and_eq_true, beq_iff_eq, Bool.not_eq_true', decide_eq_true_eq] at h5
  obtain ⟨⟨⟨⟨⟨g1, g2⟩, g3⟩, g4⟩, g5⟩, g6⟩ := h5
  simp [Cond.before, Cond.holds, Cond.value, h1, h2, h3, h4, g1, g2, g3, g4, g5, g6]
def isCode : Jvm.Cond → Bool
  | .code _ _ _ _ => true
  | _ => false
theorem all_split {L : List Jvm.Cond} {P : Jvm.Cond → Bool} (h1 : L.all (fun c => isCode c || P c) = true) (h2 : ∀ c ∈ L.filter isCode, P c = true) : L.all P = true := by
  refine List.all_eq_true.mpr fun c hc => ?_
  have h := List.all_eq_true.mp h1 c hc
  rcases Bool.eq_false_or_eq_true (isCode c) with hi | hi
  · exact h2 c (List.mem_filter.mpr ⟨hc, hi⟩)
  · simpa [hi] using h
set_option maxRecDepth 65536 in
theorem w_c0 : (Jvm.Cond.code x code maxLocals ret).before args0 about1 = true := code_word (m := ⟨1, 1⟩) (meth := k1m1) (c := k1c1) (by decide +kernel) rfl rfl rfl (by decide +kernel)
set_option maxRecDepth 65536 in
theorem w_c1 : (Jvm.Cond.code ({ cls := "com/example/chunkwise/chunkwise/item/RecordBuilder", name := "<init>", desc := "()V" } : Jvm.MethodName) prog_61_method_1_code (1 : Nat) (Option.none : Option Jvm.ClassFile.FieldType)).before args0 about1 = true := code_word (m := ⟨2, 0⟩) (meth := k2m0) (c := k2c0) (by decide +kernel) rfl rfl rfl (by decide +kernel)
set_option maxRecDepth 65536 in
theorem w_c2 : (Jvm.Cond.code ({ cls := "java/lang/Object", name := "<init>", desc := "()V" } : Jvm.MethodName) object_method_1_code (1 : Nat) (Option.none : Option Jvm.ClassFile.FieldType)).before args0 about1 = true := code_word (m := ⟨0, 0⟩) (meth := k0m0) (c := k0c0) (by decide +kernel) rfl rfl rfl (by decide +kernel)
set_option maxRecDepth 65536 in
theorem w_c3 : (Jvm.Cond.code ({ cls := "com/example/chunkwise/chunkwise/item/RecordBuilder", name := "append", desc := "(C)V" } : Jvm.MethodName) prog_61_method_4_code (2 : Nat) (Option.none : Option Jvm.ClassFile.FieldType)).before args0 about1 = true := code_word (m := ⟨2, 1⟩) (meth := k2m1) (c := k2c1) (by decide +kernel) rfl rfl rfl (by decide +kernel)
set_option maxRecDepth 65536 in
theorem w_c4 : (Jvm.Cond.code ({ cls := "com/example/chunkwise/chunkwise/item/RecordBuilder", name := "room", desc := "(I)V" } : Jvm.MethodName) prog_61_method_9_code (2 : Nat) (Option.none : Option Jvm.ClassFile.FieldType)).before args0 about1 = true := code_word (m := ⟨2, 5⟩) (meth := k2m5) (c := k2c5) (by decide +kernel) rfl rfl rfl (by decide +kernel)
set_option maxRecDepth 65536 in
theorem w_c5 : (Jvm.Cond.code ({ cls := "com/example/chunkwise/chunkwise/item/RecordBuilder", name := "endValue", desc := "()V" } : Jvm.MethodName) prog_61_method_5_code (1 : Nat) (Option.none : Option Jvm.ClassFile.FieldType)).before args0 about1 = true := code_word (m := ⟨2, 2⟩) (meth := k2m2) (c := k2c2) (by decide +kernel) rfl rfl rfl (by decide +kernel)
set_option maxRecDepth 65536 in
theorem w_c6 : (Jvm.Cond.code ({ cls := "com/example/chunkwise/chunkwise/item/RecordBuilder", name := "size", desc := "()I" } : Jvm.MethodName) prog_61_method_6_code (1 : Nat) (Option.some Jvm.ClassFile.FieldType.int)).before args0 about1 = true := code_word (m := ⟨2, 3⟩) (meth := k2m3) (c := k2c3) (by decide +kernel) rfl rfl rfl (by decide +kernel)
set_option maxRecDepth 65536 in
theorem w_c7 : (Jvm.Cond.code ({ cls := "com/example/chunkwise/chunkwise/item/RecordBuilder", name := "get", desc := "(I)Ljava/lang/String;" } : Jvm.MethodName) prog_61_method_7_code (3 : Nat) (Option.some (Jvm.ClassFile.FieldType.object "java/lang/String"))).before args0 about1 = true := code_word (m := ⟨2, 4⟩) (meth := k2m4) (c := k2c4) (by decide +kernel) rfl rfl rfl (by decide +kernel)
set_option maxRecDepth 65536 in
theorem w_c8 : (Jvm.Cond.code ({ cls := "java/lang/String", name := "<init>", desc := "([CII)V" } : Jvm.MethodName) jdk_42_method_4_code (4 : Nat) (Option.none : Option Jvm.ClassFile.FieldType)).before args0 about1 = true := code_word (m := ⟨8, 1⟩) (meth := k8m1) (c := k8c1) (by decide +kernel) rfl rfl rfl (by decide +kernel)
set_option maxRecDepth 65536 in
theorem w_c9 : (Jvm.Cond.code ({ cls := "java/lang/String", name := "rangeCheck", desc := "([CII)Ljava/lang/Void;" } : Jvm.MethodName) jdk_42_method_5_code (3 : Nat) (Option.some (Jvm.ClassFile.FieldType.object "java/lang/Void"))).before args0 about1 = true := code_word (m := ⟨8, 2⟩) (meth := k8m2) (c := k8c2) (by decide +kernel) rfl rfl rfl (by decide +kernel)
set_option maxRecDepth 65536 in
theorem w_c10 : (Jvm.Cond.code ({ cls := "java/lang/String", name := "checkBoundsOffCount", desc := "(III)I" } : Jvm.MethodName) jdk_42_method_157_code (3 : Nat) (Option.some Jvm.ClassFile.FieldType.int)).before args0 about1 = true := code_word (m := ⟨8, 10⟩) (meth := k8m10) (c := k8c10) (by decide +kernel) rfl rfl rfl (by decide +kernel)
set_option maxRecDepth 65536 in
theorem w_c11 : (Jvm.Cond.code ({ cls := "jdk/internal/util/Preconditions", name := "checkFromIndexSize", desc := "(IIILjava/util/function/BiFunction;)I" } : Jvm.MethodName) jdk_41_method_13_code (4 : Nat) (Option.some Jvm.ClassFile.FieldType.int)).before args0 about1 = true := code_word (m := ⟨9, 2⟩) (meth := k9m2) (c := k9c2) (by decide +kernel) rfl rfl rfl (by decide +kernel)
set_option maxRecDepth 65536 in
theorem w_c12 : (Jvm.Cond.code ({ cls := "java/lang/String", name := "<init>", desc := "([CIILjava/lang/Void;)V" } : Jvm.MethodName) jdk_42_method_149_code (6 : Nat) (Option.none : Option Jvm.ClassFile.FieldType)).before args0 about1 = true := code_word (m := ⟨8, 6⟩) (meth := k8m6) (c := k8c6) (by decide +kernel) rfl rfl rfl (by decide +kernel)
set_option maxRecDepth 65536 in
theorem w_c13 : (Jvm.Cond.code ({ cls := "java/lang/StringUTF16", name := "compress", desc := "([CII)[B" } : Jvm.MethodName) jdk_52_method_16_code (6 : Nat) (Option.some (Jvm.ClassFile.FieldType.array Jvm.ClassFile.FieldType.byte))).before args0 about1 = true := code_word (m := ⟨10, 2⟩) (meth := k10m2) (c := k10c2) (by decide +kernel) rfl rfl rfl (by decide +kernel)
set_option maxRecDepth 65536 in
theorem w_c14 : (Jvm.Cond.code ({ cls := "java/lang/StringUTF16", name := "compress", desc := "([CI[BII)I" } : Jvm.MethodName) jdk_52_method_21_code (7 : Nat) (Option.some Jvm.ClassFile.FieldType.int)).before args0 about1 = true := code_word (m := ⟨10, 3⟩) (meth := k10m3) (c := k10c3) (by decide +kernel) rfl rfl rfl (by decide +kernel)
set_option maxRecDepth 65536 in
theorem w_c15 : (Jvm.Cond.code ({ cls := "java/lang/StringUTF16", name := "coderFromArrayLen", desc := "([BI)B" } : Jvm.MethodName) jdk_52_method_15_code (2 : Nat) (Option.some Jvm.ClassFile.FieldType.byte)).before args0 about1 = true := code_word (m := ⟨10, 1⟩) (meth := k10m1) (c := k10c1) (by decide +kernel) rfl rfl rfl (by decide +kernel)
set_option maxRecDepth 65536 in
theorem w_c16 : (Jvm.Cond.code ({ cls := "java/lang/String", name := "length", desc := "()I" } : Jvm.MethodName) jdk_42_method_54_code (1 : Nat) (Option.some Jvm.ClassFile.FieldType.int)).before args0 about1 = true := code_word (m := ⟨8, 3⟩) (meth := k8m3) (c := k8c3) (by decide +kernel) rfl rfl rfl (by decide +kernel)
set_option maxRecDepth 65536 in
theorem w_c17 : (Jvm.Cond.code ({ cls := "java/lang/String", name := "coder", desc := "()B" } : Jvm.MethodName) jdk_42_method_152_code (1 : Nat) (Option.some Jvm.ClassFile.FieldType.byte)).before args0 about1 = true := code_word (m := ⟨8, 7⟩) (meth := k8m7) (c := k8c7) (by decide +kernel) rfl rfl rfl (by decide +kernel)
set_option maxRecDepth 65536 in
theorem w_c18 : (Jvm.Cond.code ({ cls := "java/lang/String", name := "charAt", desc := "(I)C" } : Jvm.MethodName) jdk_42_method_56_code (2 : Nat) (Option.some Jvm.ClassFile.FieldType.char)).before args0 about1 = true := code_word (m := ⟨8, 5⟩) (meth := k8m5) (c := k8c5) (by decide +kernel) rfl rfl rfl (by decide +kernel)
set_option maxRecDepth 65536 in
theorem w_c19 : (Jvm.Cond.code ({ cls := "java/lang/String", name := "isLatin1", desc := "()Z" } : Jvm.MethodName) jdk_42_method_154_code (1 : Nat) (Option.some Jvm.ClassFile.FieldType.boolean)).before args0 about1 = true := code_word (m := ⟨8, 8⟩) (meth := k8m8) (c := k8c8) (by decide +kernel) rfl rfl rfl (by decide +kernel)
set_option maxRecDepth 65536 in
theorem w_c20 : (Jvm.Cond.code ({ cls := "java/lang/StringLatin1", name := "charAt", desc := "([BI)C" } : Jvm.MethodName) jdk_43_method_2_code (2 : Nat) (Option.some Jvm.ClassFile.FieldType.char)).before args0 about1 = true := code_word (m := ⟨11, 1⟩) (meth := k11m1) (c := k11c1) (by decide +kernel) rfl rfl rfl (by decide +kernel)
set_option maxRecDepth 65536 in
theorem w_c21 : (Jvm.Cond.code ({ cls := "java/lang/String", name := "checkIndex", desc := "(II)V" } : Jvm.MethodName) jdk_42_method_155_code (2 : Nat) (Option.none : Option Jvm.ClassFile.FieldType)).before args0 about1 = true := code_word (m := ⟨8, 9⟩) (meth := k8m9) (c := k8c9) (by decide +kernel) rfl rfl rfl (by decide +kernel)
set_option maxRecDepth 65536 in
theorem w_c22 : (Jvm.Cond.code ({ cls := "jdk/internal/util/Preconditions", name := "checkIndex", desc := "(IILjava/util/function/BiFunction;)I" } : Jvm.MethodName) jdk_41_method_11_code (3 : Nat) (Option.some Jvm.ClassFile.FieldType.int)).before args0 about1 = true := code_word (m := ⟨9, 1⟩) (meth := k9m1) (c := k9c1) (by decide +kernel) rfl rfl rfl (by decide +kernel)
set_option maxRecDepth 65536 in
theorem w_c23 : (Jvm.Cond.code ({ cls := "java/lang/String", name := "isEmpty", desc := "()Z" } : Jvm.MethodName) jdk_42_method_55_code (1 : Nat) (Option.some Jvm.ClassFile.FieldType.boolean)).before args0 about1 = true := code_word (m := ⟨8, 4⟩) (meth := k8m4) (c := k8c4) (by decide +kernel) rfl rfl rfl (by decide +kernel)
set_option maxRecDepth 65536 in
theorem w_c24 : (Jvm.Cond.code ({ cls := "com/example/chunkwise/chunkwise/item/RecordBuilderEndValuePinLaw", name := "four", desc := "(Lcom/example/chunkwise/chunkwise/item/RecordBuilder;)V" } : Jvm.MethodName) method_3_code (1 : Nat) (Option.none : Option Jvm.ClassFile.FieldType)).before args0 about1 = true := code_word (m := ⟨1, 2⟩) (meth := k1m2) (c := k1c2) (by decide +kernel) rfl rfl rfl (by decide +kernel)
set_option maxRecDepth 65536 in
theorem w_c25 : (Jvm.Cond.code ({ cls := "java/util/Arrays", name := "copyOf", desc := "([II)[I" } : Jvm.MethodName) jdk_65_method_123_code (3 : Nat) (Option.some (Jvm.ClassFile.FieldType.array Jvm.ClassFile.FieldType.int))).before args0 about1 = true := code_word (m := ⟨12, 1⟩) (meth := k12m1) (c := k12c1) (by decide +kernel) rfl rfl rfl (by decide +kernel)
set_option maxRecDepth 65536 in
theorem w_c26 : (Jvm.Cond.code ({ cls := "java/lang/Math", name := "min", desc := "(II)I" } : Jvm.MethodName) jdk_29_method_69_code (2 : Nat) (Option.some Jvm.ClassFile.FieldType.int)).before args0 about1 = true := code_word (m := ⟨13, 1⟩) (meth := k13m1) (c := k13c1) (by decide +kernel) rfl rfl rfl (by decide +kernel)
def codes1 : List Jvm.Cond := [Jvm.Cond.code x code maxLocals ret, Jvm.Cond.code ({ cls := "com/example/chunkwise/chunkwise/item/RecordBuilder", name := "<init>", desc := "()V" } : Jvm.MethodName) prog_61_method_1_code (1 : Nat) (Option.none : Option Jvm.ClassFile.FieldType), Jvm.Cond.code ({ cls := "java/lang/Object", name := "<init>", desc := "()V" } : Jvm.MethodName) object_method_1_code (1 : Nat) (Option.none : Option Jvm.ClassFile.FieldType), Jvm.Cond.code ({ cls := "com/example/chunkwise/chunkwise/item/RecordBuilder", name := "append", desc := "(C)V" } : Jvm.MethodName) prog_61_method_4_code (2 : Nat) (Option.none : Option Jvm.ClassFile.FieldType), Jvm.Cond.code ({ cls := "com/example/chunkwise/chunkwise/item/RecordBuilder", name := "room", desc := "(I)V" } : Jvm.MethodName) prog_61_method_9_code (2 : Nat) (Option.none : Option Jvm.ClassFile.FieldType), Jvm.Cond.code ({ cls := "com/example/chunkwise/chunkwise/item/RecordBuilder", name := "endValue", desc := "()V" } : Jvm.MethodName) prog_61_method_5_code (1 : Nat) (Option.none : Option Jvm.ClassFile.FieldType), Jvm.Cond.code ({ cls := "com/example/chunkwise/chunkwise/item/RecordBuilder", name := "size", desc := "()I" } : Jvm.MethodName) prog_61_method_6_code (1 : Nat) (Option.some Jvm.ClassFile.FieldType.int), Jvm.Cond.code ({ cls := "com/example/chunkwise/chunkwise/item/RecordBuilder", name := "get", desc := "(I)Ljava/lang/String;" } : Jvm.MethodName) prog_61_method_7_code (3 : Nat) (Option.some (Jvm.ClassFile.FieldType.object "java/lang/String")), Jvm.Cond.code ({ cls := "java/lang/String", name := "<init>", desc := "([CII)V" } : Jvm.MethodName) jdk_42_method_4_code (4 : Nat) (Option.none : Option Jvm.ClassFile.FieldType), Jvm.Cond.code ({ cls := "java/lang/String", name := "rangeCheck", desc := "([CII)Ljava/lang/Void;" } : Jvm.MethodName) jdk_42_method_5_code (3 : Nat) (Option.some (Jvm.ClassFile.FieldType.object "java/lang/Void")), Jvm.Cond.code ({ cls := "java/lang/String", name := "checkBoundsOffCount", desc := "(III)I" } : Jvm.MethodName) jdk_42_method_157_code (3 : Nat) (Option.some Jvm.ClassFile.FieldType.int), Jvm.Cond.code ({ cls := "jdk/internal/util/Preconditions", name := "checkFromIndexSize", desc := "(IIILjava/util/function/BiFunction;)I" } : Jvm.MethodName) jdk_41_method_13_code (4 : Nat) (Option.some Jvm.ClassFile.FieldType.int), Jvm.Cond.code ({ cls := "java/lang/String", name := "<init>", desc := "([CIILjava/lang/Void;)V" } : Jvm.MethodName) jdk_42_method_149_code (6 : Nat) (Option.none : Option Jvm.ClassFile.FieldType), Jvm.Cond.code ({ cls := "java/lang/StringUTF16", name := "compress", desc := "([CII)[B" } : Jvm.MethodName) jdk_52_method_16_code (6 : Nat) (Option.some (Jvm.ClassFile.FieldType.array Jvm.ClassFile.FieldType.byte)), Jvm.Cond.code ({ cls := "java/lang/StringUTF16", name := "compress", desc := "([CI[BII)I" } : Jvm.MethodName) jdk_52_method_21_code (7 : Nat) (Option.some Jvm.ClassFile.FieldType.int), Jvm.Cond.code ({ cls := "java/lang/StringUTF16", name := "coderFromArrayLen", desc := "([BI)B" } : Jvm.MethodName) jdk_52_method_15_code (2 : Nat) (Option.some Jvm.ClassFile.FieldType.byte), Jvm.Cond.code ({ cls := "java/lang/String", name := "length", desc := "()I" } : Jvm.MethodName) jdk_42_method_54_code (1 : Nat) (Option.some Jvm.ClassFile.FieldType.int), Jvm.Cond.code ({ cls := "java/lang/String", name := "coder", desc := "()B" } : Jvm.MethodName) jdk_42_method_152_code (1 : Nat) (Option.some Jvm.ClassFile.FieldType.byte), Jvm.Cond.code ({ cls := "java/lang/String", name := "charAt", desc := "(I)C" } : Jvm.MethodName) jdk_42_method_56_code (2 : Nat) (Option.some Jvm.ClassFile.FieldType.char), Jvm.Cond.code ({ cls := "java/lang/String", name := "isLatin1", desc := "()Z" } : Jvm.MethodName) jdk_42_method_154_code (1 : Nat) (Option.some Jvm.ClassFile.FieldType.boolean), Jvm.Cond.code ({ cls := "java/lang/StringLatin1", name := "charAt", desc := "([BI)C" } : Jvm.MethodName) jdk_43_method_2_code (2 : Nat) (Option.some Jvm.ClassFile.FieldType.char), Jvm.Cond.code ({ cls := "java/lang/String", name := "checkIndex", desc := "(II)V" } : Jvm.MethodName) jdk_42_method_155_code (2 : Nat) (Option.none : Option Jvm.ClassFile.FieldType), Jvm.Cond.code ({ cls := "jdk/internal/util/Preconditions", name := "checkIndex", desc := "(IILjava/util/function/BiFunction;)I" } : Jvm.MethodName) jdk_41_method_11_code (3 : Nat) (Option.some Jvm.ClassFile.FieldType.int), Jvm.Cond.code ({ cls := "java/lang/String", name := "isEmpty", desc := "()Z" } : Jvm.MethodName) jdk_42_method_55_code (1 : Nat) (Option.some Jvm.ClassFile.FieldType.boolean), Jvm.Cond.code ({ cls := "com/example/chunkwise/chunkwise/item/RecordBuilderEndValuePinLaw", name := "four", desc := "(Lcom/example/chunkwise/chunkwise/item/RecordBuilder;)V" } : Jvm.MethodName) method_3_code (1 : Nat) (Option.none : Option Jvm.ClassFile.FieldType), Jvm.Cond.code ({ cls := "java/util/Arrays", name := "copyOf", desc := "([II)[I" } : Jvm.MethodName) jdk_65_method_123_code (3 : Nat) (Option.some (Jvm.ClassFile.FieldType.array Jvm.ClassFile.FieldType.int)), Jvm.Cond.code ({ cls := "java/lang/Math", name := "min", desc := "(II)I" } : Jvm.MethodName) jdk_29_method_69_code (2 : Nat) (Option.some Jvm.ClassFile.FieldType.int)]
set_option maxRecDepth 65536 in
theorem codes_eq : words1.filter isCode = codes1 := rfl
theorem w_codes : ∀ c ∈ words1.filter isCode, c.before args0 about1 = true := by
  rw [codes_eq]
  intro c hc
  simp only [codes1, List.mem_cons, List.not_mem_nil, or_false] at hc
  rcases hc with rfl | rfl | rfl | rfl | rfl | rfl | rfl | rfl | rfl | rfl | rfl | rfl | rfl | rfl | rfl | rfl | rfl | rfl | rfl | rfl | rfl | rfl | rfl | rfl | rfl | rfl | rfl
  · exact w_c0
  · exact w_c1
  · exact w_c2
  · exact w_c3
  · exact w_c4
  · exact w_c5
  · exact w_c6
  · exact w_c7
  · exact w_c8
  · exact w_c9
  · exact w_c10
  · exact w_c11
  · exact w_c12
  · exact w_c13
  · exact w_c14
  · exact w_c15
  · exact w_c16
  · exact w_c17
  · exact w_c18
  · exact w_c19
  · exact w_c20
  · exact w_c21
  · exact w_c22
  · exact w_c23
  · exact w_c24
  · exact w_c25
  · exact w_c26
set_option maxRecDepth 65536 in
theorem w_t1 : (words1.take 24).all (fun c => isCode c || c.before args0 about1) = true := by decide +kernel
set_option maxRecDepth 65536 in
theorem w_t2 : ((words1.drop 24).take 24).all (fun c => isCode c || c.before args0 about1) = true := by decide +kernel
set_option maxRecDepth 65536 in
theorem w_t3 : (((words1.drop 24).drop 24).take 24).all (fun c => isCode c || c.before args0 about1) = true := by decide +kernel
set_option maxRecDepth 65536 in
theorem w_t4 : ((((words1.drop 24).drop 24).drop 24).take 24).all (fun c => isCode c || c.before args0 about1) = true := by decide +kernel
set_option maxRecDepth 65536 in
theorem w_t5 : (((((words1.drop 24).drop 24).drop 24).drop 24).take 24).all (fun c => isCode c || c.before args0 about1) = true := by decide +kernel
set_option maxRecDepth 65536 in
theorem w_t6 : (((((words1.drop 24).drop 24).drop 24).drop 24).drop 24).all (fun c => isCode c || c.before args0 about1) = true := by decide +kernel
theorem w_tables : (allAtoms (Jvm.Cond.code x code maxLocals ret :: tables_1)).before args0 about1 = true := by
  rw [allAtoms_all]
  show words1.all (fun c => c.before args0 about1) = true
  refine all_split ?_ w_codes
  rw [← List.take_append_drop 24 words1, List.all_append, w_t1, ← List.take_append_drop 24 (words1.drop 24), List.all_append, w_t2, ← List.take_append_drop 24 ((words1.drop 24).drop 24), List.all_append, w_t3, ← List.take_append_drop 24 (((words1.drop 24).drop 24).drop 24), List.all_append, w_t4, ← List.take_append_drop 24 ((((words1.drop 24).drop 24).drop 24).drop 24), List.all_append, w_t5, w_t6]
  rfl
set_option maxRecDepth 65536 in
theorem w_rest : rest_1_c.before args0 about1 = true := by decide +kernel
set_option maxRecDepth 65536 in
theorem w_case : (Jvm.Cond.and given_1 narrow_1).before args0 about1 = true := by decide +kernel
set_option maxRecDepth 65536 in
theorem w_consts : constsHeld consts_1 about1 := Jvm.Lit.constsHeldB_iff.mp (by decide +kernel)
theorem w_applies : (headSpec (Jvm.Cond.code x code maxLocals ret :: tables_1) room_1).applies x e0.platform about1 = true :=
  (Spec.applies_iff w_frames).mpr ⟨w_running, w_runnable, w_alone, w_named, w_hears, w_ripe, w_room, w_tables⟩
theorem atStart : AtStart classFile x code maxLocals ret World_1 tables_1 room_1 Calls_1 rest_1 Pre_1 launch0 p0 e0 about1 theMethod args0 below0 :=
  ⟨lists_1, trivial, launch0.admits_env _ _ _, launch0.least_env, fairChoices_fair.cas, fairChoices_fair.clock, w_frames, w_args, w_heap, w_applies, ⟨w_consts, trivial⟩, w_rest, w_case⟩
end start1
theorem witness_1 : WitnessClaimed_1 := ⟨start1.p0, start1.e0, start1.about1, start1.theMethod, start1.args0, start1.below0, start1.atStart⟩
end Jvm.Pilot.@@N@@
