import JvmDerived
import JvmDerived.Pilot.@@N@@Statement
import JvmDerived.Pilot.@@N@@Code
set_option linter.unusedVariables false
set_option linter.unusedSimpArgs false
namespace Jvm.OwnKit
open Jvm Jvm.ClassFile Sem Op Lib Jvm.Free Jvm.Stand Jvm.LawKit Jvm.RoadKit Bundle
/-- what a walk keeps hidden: the old cells stand; narrow (w = false): the tables of the start; wide: since when, what is booked, and which cells are surely not booked -/
def Hid (w : Bool) (Z : State) (EL : List (String × Nat)) (n0 : Nat) (My : List Addr) (s : State) (vm : Vm) (h : Heap) : Prop :=
  Old Z n0 h ∧ (w = false → vm = s.vm) ∧ (w = true → (∃ a0, EW Z a0 EL) ∧ (∃ k0, s.Since vm k0 ∧ k0 ≤ h.size) ∧ CHr Z EL s.vm s.heap vm h ∧ ∀ x ∈ My, x < h.size ∧ Safe Z EL vm h x)
def EndW (w : Bool) (Z : State) (EL : List (String × Nat)) (Ny : List Addr) (R : Room) (s : State) (o : Outcome) (t : State) (L : List Loc) : Prop :=
  (w = false → FrameEnd s o t L R.cells R.slots) ∧ (w = true → ReturnedEndW s o t L R.cells R.slots ∧ CHr Z EL s.vm s.heap t.vm t.heap ∧ ∀ x ∈ Ny, x < t.heap.size ∧ Safe Z EL t.vm t.heap x)
/-- from here the method returns, with Q -/
def Run (w : Bool) (l : Launch) (Z : State) (EL : List (String × Nat)) (n0 : Nat) (own nm : String) (B : ByteArray) (ret : Option FieldType) (R : Room) (Q : Option Value → Heap → Prop) (Ny : Option Value → List Addr)
    (My : List Addr) (h : Heap) (cells slots pc : Nat) (ls : Array Slot) (st : List Value) : Prop :=
  ∀ (p : Program) (e : Env) (s : State) (m : MethodId) (args : Array Value) (below : List Frame) (meth : Method) (c : Code) (T : State) (locs : List Loc) (vm : Vm),
    p.tables.exec = Jvm.exec → c.code = B → c.maxLocals = ls.size → meth.sig.returnType = ret → meth.name = nm → meth.locks = false → Z.Warmed39 vm → vm.findClass own = some m.cls →
    Stand p l e R (s.setVm vm) m args below meth c T locs cells slots → T.heap = h → Fr n0 locs → Hid w Z EL n0 My s vm h →
    ∃ t o, Steps p.tables e below (T.setTop (mkF m pc ls st)) t ∧ t.status = .running ∧ Ended t below o ∧ ∃ v L, o = .returned v ∧ Q v t.heap ∧ Fr n0 L ∧ EndW w Z EL (Ny v) R s o t L
/-- the contract of a method at one start -/
def Ok (w : Bool) (l : Launch) (Z : State) (EL : List (String × Nat)) (n0 : Nat) (My : List Addr) (y : MethodName) (B : ByteArray) (maxL : Nat) (ret : Option FieldType) (rm : Room) (as : Array Value) (h : Heap) (Q : Option Value → Heap → Prop) (Ny : Option Value → List Addr) : Prop :=
  ∀ ws : List Jvm.Cond, MetFree l y (head1 (Jvm.Cond.code y B maxL ret :: ws) rm) (fun a U => a = as ∧ Z.Warmed39 U.vm ∧ U.heap = h ∧ Old Z n0 h ∧ (w = true → (∃ a0, EW Z a0 EL) ∧ CHv Z EL U.vm h ∧ ∀ x ∈ My, x < h.size ∧ Safe Z EL U.vm h x)) (fun _ _ _ _ _ => True)
    (fun _ U o U' => ∃ v L, o = .returned v ∧ Q v U'.heap ∧ Fr n0 L ∧ EndW w Z EL (Ny v) rm U o U' L)
/-- this cell may be written: it is no booked String and no booked String's array -/
def Sf (w : Bool) (Z : State) (h : Heap) (My : List Addr) (x : Addr) : Prop := w = false ∨ x ∈ My ∨ (∃ C, Exa Z h x C ∧ C ≠ "java/lang/String" ∧ C ≠ "[B") ∨ ∃ c ty, Arr Z h x c ty ∧ ty ≠ .byte
section Rules
variable {w : Bool} {l : Launch} {Z : State} {EL : List (String × Nat)} {n0 : Nat} {own nm : String} {B : ByteArray} {ret : Option FieldType} {R : Room} {Q : Option Value → Heap → Prop} {Ny : Option Value → List Addr} {My : List Addr} {h : Heap} {cells slots pc : Nat} {ls : Array Slot} {st : List Value} {a0 : Array Value}
theorem Run.cast {st' : List Value} (e : st = st') (r : Run w l Z EL n0 own nm B ret R Q Ny My h cells slots pc ls st') : Run w l Z EL n0 own nm B ret R Q Ny My h cells slots pc ls st := e ▸ r
theorem Run.castL {ls' : Array Slot} (e : ls = ls') (r : Run w l Z EL n0 own nm B ret R Q Ny My h cells slots pc ls' st) : Run w l Z EL n0 own nm B ret R Q Ny My h cells slots pc ls st := e ▸ r
theorem Run.old (r : Old Z n0 h → Run w l Z EL n0 own nm B ret R Q Ny My h cells slots pc ls st) : Run w l Z EL n0 own nm B ret R Q Ny My h cells slots pc ls st :=
  fun p e s m args below meth c T locs vm hx hby hml hret hnm hlk hZ hown X eT N hH => r hH.1 p e s m args below meth c T locs vm hx hby hml hret hnm hlk hZ hown X eT N hH
theorem Run.pure {pc' : Nat} {ls' : Array Slot} {st' : List Value} (H : ∀ (p : Program) (e : Env) (below : List Frame) (T : State) (m : MethodId) (c : Code) (target : State), At T m c below → p.tables.exec = Jvm.exec → c.code = B → Steps p.tables e below (T.setTop (mkF m pc' ls' st')) target → Steps p.tables e below (T.setTop (mkF m pc ls st)) target)
    (hsz : ls'.size = ls.size) (hr : Run w l Z EL n0 own nm B ret R Q Ny My h cells slots pc' ls' st') : Run w l Z EL n0 own nm B ret R Q Ny My h cells slots pc ls st := by
  intro p e s m args below meth c T locs vm hx hby hml hret hnm hlk hZ hown X eT N hH
  obtain ⟨t, o, hs, r⟩ := hr p e s m args below meth c T locs vm hx hby (hml.trans hsz.symm) hret hnm hlk hZ hown X eT N hH
  exact ⟨t, o, H p e below T m c t X.here hx hby hs, r⟩
/-- a step that may warm the tables, over one heap -/
theorem Run.warm {pc' : Nat} {st' : List Value} (H : ∀ (p : Program) (e : Env) (s : State) (m : MethodId) (args : Array Value) (below : List Frame) (meth : Method) (c : Code) (T : State) (locs : List Loc), p.tables.exec = Jvm.exec → c.code = B → c.maxLocals = ls.size → meth.name = nm → Z.Warmed39 s.vm → s.vm.findClass own = some m.cls → Stand p l e R s m args below meth c T locs cells slots → T.heap = h → Old Z n0 h →
      ∃ T', Stand p l e R s m args below meth c T' locs cells slots ∧ T'.heap = h ∧ ∀ target, Steps p.tables e below (T'.setTop (mkF m pc' ls st')) target → Steps p.tables e below (T.setTop (mkF m pc ls st)) target)
    (hr : Run w l Z EL n0 own nm B ret R Q Ny My h cells slots pc' ls st') : Run w l Z EL n0 own nm B ret R Q Ny My h cells slots pc ls st := by
  intro p e s m args below meth c T locs vm hx hby hml hret hnm hlk hZ hown X eT N hH
  obtain ⟨T', X', e', stp⟩ := H p e (s.setVm vm) m args below meth c T locs hx hby hml hnm hZ hown X eT hH.1
  obtain ⟨t, o, hs, r⟩ := hr p e s m args below meth c T' locs vm hx hby hml hret hnm hlk hZ hown X' e' N hH
  exact ⟨t, o, stp t hs, r⟩
theorem Hid.ext {s : State} {vm : Vm} {h' : Heap} (H : Hid w Z EL n0 My s vm h) (E : Ext h h') : Hid w Z EL n0 My s vm h' :=
  ⟨H.1.ext E, H.2.1, fun q => by
    obtain ⟨hEW, ⟨k0, a, b⟩, c, d⟩ := H.2.2 q
    exact ⟨hEW, ⟨k0, a, Nat.le_trans b E.1⟩, c.trans (CHr.ext E c.1), fun x hx => ⟨Nat.lt_of_lt_of_le (d x hx).1 E.1, (d x hx).2.ext E c.1⟩⟩⟩
/-- what was just made is not booked -/
theorem Hid.extNew {s : State} {vm : Vm} {h' : Heap} (H : Hid w Z EL n0 My s vm h) (E : Ext h h') (hlt : h.size < h'.size) : Hid w Z EL n0 (h.size :: My) s vm h' :=
  ⟨H.1.ext E, H.2.1, fun q => by
    obtain ⟨hEW, ⟨k0, a, b⟩, c, d⟩ := H.2.2 q
    refine ⟨hEW, ⟨k0, a, Nat.le_trans b E.1⟩, c.trans (CHr.ext E c.1), fun x hx => ?_⟩
    rcases List.mem_cons.mp hx with rfl | hx
    · exact ⟨hlt, (Safe.new (Nat.le_refl _)).ext E c.1⟩
    · exact ⟨Nat.lt_of_lt_of_le (d x hx).1 E.1, (d x hx).2.ext E c.1⟩⟩
theorem Sf.safe {vm : Vm} {x : Addr} (S : Sf w Z h My x) (q : w = true) (hal : Z.vm.Alike vm) (d : ∀ x ∈ My, x < h.size ∧ Safe Z EL vm h x) : Safe Z EL vm h x := by
  rcases S with e | e | ⟨C, e, h1, h2⟩ | ⟨c, ty, e, h1⟩
  · rw [q] at e; cases e
  · exact (d x e).2
  · exact Safe.exa hal e h1 h2
  · exact Safe.arr hal e h1
theorem Hid.keep {s : State} {vm : Vm} {h' : Heap} {ws : List Addr} (H : Hid w Z EL n0 My s vm h) (hZ : Z.Warmed39 vm) (K : Keep h h' ws) (hs : ∀ x ∈ ws, n0 ≤ x ∧ Sf w Z h My x) : Hid w Z EL n0 My s vm h' :=
  ⟨H.1.keep K fun x hx => (hs x hx).1, H.2.1, fun q => by
    obtain ⟨hEW, ⟨k0, a, b⟩, c, d⟩ := H.2.2 q
    have sf : ∀ x ∈ ws, Safe Z EL vm h x := fun x hx => (hs x hx).2.safe q hZ.alike d
    exact ⟨hEW, ⟨k0, a, Nat.le_trans b K.1⟩, c.trans (CHr.keep K sf c.1), fun x hx => ⟨Nat.lt_of_lt_of_le (d x hx).1 K.1, (d x hx).2.keep K sf c.1⟩⟩⟩
theorem Run.forget {My' : List Addr} (hsub : ∀ x ∈ My', x ∈ My) (r : Run w l Z EL n0 own nm B ret R Q Ny My' h cells slots pc ls st) : Run w l Z EL n0 own nm B ret R Q Ny My h cells slots pc ls st :=
  fun p e s m args below meth c T locs vm hx hby hml hret hnm hlk hZ hown X eT N hH => r p e s m args below meth c T locs vm hx hby hml hret hnm hlk hZ hown X eT N ⟨hH.1, hH.2.1, fun q => ⟨(hH.2.2 q).1, (hH.2.2 q).2.1, (hH.2.2 q).2.2.1, fun x hx => (hH.2.2 q).2.2.2 x (hsub x hx)⟩⟩
/-- more room used than told -/
theorem Run.spend {cells' slots' : Nat} (h1 : cells ≤ cells') (h2 : slots ≤ slots') (r : Run w l Z EL n0 own nm B ret R Q Ny My h cells' slots' pc ls st) : Run w l Z EL n0 own nm B ret R Q Ny My h cells slots pc ls st :=
  fun p e s m args below meth c T locs vm hx hby hml hret hnm hlk hZ hown X eT N hH => r p e s m args below meth c T locs vm hx hby hml hret hnm hlk hZ hown (X.mono h1 h2) eT N hH
theorem Run.post {Q' : Option Value → Heap → Prop} {Ny' : Option Value → List Addr} (hQ : ∀ v h', Q' v h' → Q v h') (hN : ∀ v, ∀ x ∈ Ny v, x ∈ Ny' v) (r : Run w l Z EL n0 own nm B ret R Q' Ny' My h cells slots pc ls st) : Run w l Z EL n0 own nm B ret R Q Ny My h cells slots pc ls st := by
  intro p e s m args below meth c T locs vm hx hby hml hret hnm hlk hZ hown X eT N hH
  obtain ⟨t, o, hs, h1, h2, v, L, h3, h4, h5, h6, h7⟩ := r p e s m args below meth c T locs vm hx hby hml hret hnm hlk hZ hown X eT N hH
  exact ⟨t, o, hs, h1, h2, v, L, h3, hQ _ _ h4, h5, h6, fun q => ⟨(h7 q).1, (h7 q).2.1, fun x hx => (h7 q).2.2 x (hN v x hx)⟩⟩
theorem r_aloadN {pc' : Nat} {k : Fin 4} {v : Value} (hd : decode B pc = .ok (.aload_n k, 1)) (hp : pc + 1 = pc') (hl : ls[k.val]? = some (.val v)) (hv : v.isRef = true) (hr : Run w l Z EL n0 own nm B ret R Q Ny My h cells slots pc' ls (v :: st)) : Run w l Z EL n0 own nm B ret R Q Ny My h cells slots pc ls (st) :=
  Run.pure (fun p e below T m c target hA hx hby hs => XS.aloadN hA hx rfl (hb hby hd) hl hv (by subst hp; exact hs)) rfl hr
theorem r_aload {pc' : Nat} {k : Nat} {v : Value} (hd : decode B pc = .ok (.aload k, 2)) (hp : pc + 2 = pc') (hl : ls[k]? = some (.val v)) (hv : v.isRef = true) (hr : Run w l Z EL n0 own nm B ret R Q Ny My h cells slots pc' ls (v :: st)) : Run w l Z EL n0 own nm B ret R Q Ny My h cells slots pc ls (st) :=
  Run.pure (fun p e below T m c target hA hx hby hs => XS.aload hA hx rfl (hb hby hd) hl hv (by subst hp; exact hs)) rfl hr
theorem r_iloadN {pc' : Nat} {k : Fin 4} {v : Int32} (hd : decode B pc = .ok (.iload_n k, 1)) (hp : pc + 1 = pc') (hl : ls[k.val]? = some (.val (.int v))) (hr : Run w l Z EL n0 own nm B ret R Q Ny My h cells slots pc' ls (.int v :: st)) : Run w l Z EL n0 own nm B ret R Q Ny My h cells slots pc ls (st) :=
  Run.pure (fun p e below T m c target hA hx hby hs => XS.iloadN hA hx rfl (hb hby hd) hl (by subst hp; exact hs)) rfl hr
theorem r_iload {pc' : Nat} {k : Nat} {v : Int32} (hd : decode B pc = .ok (.iload k, 2)) (hp : pc + 2 = pc') (hl : ls[k]? = some (.val (.int v))) (hr : Run w l Z EL n0 own nm B ret R Q Ny My h cells slots pc' ls (.int v :: st)) : Run w l Z EL n0 own nm B ret R Q Ny My h cells slots pc ls (st) :=
  Run.pure (fun p e below T m c target hA hx hby hs => XS.iload hA hx rfl (hb hby hd) hl (by subst hp; exact hs)) rfl hr
theorem r_lloadN {pc' : Nat} {k : Fin 4} {v : Int64} (hd : decode B pc = .ok (.lload_n k, 1)) (hp : pc + 1 = pc') (hl : ls[k.val]? = some (.val (.long v))) (hr : Run w l Z EL n0 own nm B ret R Q Ny My h cells slots pc' ls (.long v :: st)) : Run w l Z EL n0 own nm B ret R Q Ny My h cells slots pc ls (st) :=
  Run.pure (fun p e below T m c target hA hx hby hs => XS.lloadN hA hx rfl (hb hby hd) hl (by subst hp; exact hs)) rfl hr
theorem r_lload {pc' : Nat} {k : Nat} {v : Int64} (hd : decode B pc = .ok (.lload k, 2)) (hp : pc + 2 = pc') (hl : ls[k]? = some (.val (.long v))) (hr : Run w l Z EL n0 own nm B ret R Q Ny My h cells slots pc' ls (.long v :: st)) : Run w l Z EL n0 own nm B ret R Q Ny My h cells slots pc ls (st) :=
  Run.pure (fun p e below T m c target hA hx hby hs => XS.lload hA hx rfl (hb hby hd) hl (by subst hp; exact hs)) rfl hr
theorem r_iconst {pc' : Nat} {i : Int} {v : Int32} (hd : decode B pc = .ok (.iconst i, 1)) (hp : pc + 1 = pc') (hv : Int32.ofInt i = v) (hr : Run w l Z EL n0 own nm B ret R Q Ny My h cells slots pc' ls (.int v :: st)) : Run w l Z EL n0 own nm B ret R Q Ny My h cells slots pc ls st :=
  Run.pure (fun p e below T m c target hA hx hby hs => XS.iconst hA hx rfl (hb hby hd) (by subst hp hv; exact hs)) rfl hr
theorem r_bipush {pc' : Nat} {i : Int} {v : Int32} (hd : decode B pc = .ok (.bipush i, 2)) (hp : pc + 2 = pc') (hv : (Int8.ofInt i).toInt32 = v) (hr : Run w l Z EL n0 own nm B ret R Q Ny My h cells slots pc' ls (.int v :: st)) : Run w l Z EL n0 own nm B ret R Q Ny My h cells slots pc ls st :=
  Run.pure (fun p e below T m c target hA hx hby hs => XS.bipush hA hx rfl (hb hby hd) (by subst hp hv; exact hs)) rfl hr
theorem r_sipush {pc' : Nat} {i : Int} {v : Int32} (hd : decode B pc = .ok (.sipush i, 3)) (hp : pc + 3 = pc') (hv : (Int16.ofInt i).toInt32 = v) (hr : Run w l Z EL n0 own nm B ret R Q Ny My h cells slots pc' ls (.int v :: st)) : Run w l Z EL n0 own nm B ret R Q Ny My h cells slots pc ls st :=
  Run.pure (fun p e below T m c target hA hx hby hs => XS.sipush hA hx rfl (hb hby hd) (by subst hp hv; exact hs)) rfl hr
theorem r_lconst {pc' : Nat} {k : Fin 2} {v : Int64} (hd : decode B pc = .ok (.lconst k, 1)) (hp : pc + 1 = pc') (hv : Int64.ofNat k = v) (hr : Run w l Z EL n0 own nm B ret R Q Ny My h cells slots pc' ls (.long v :: st)) : Run w l Z EL n0 own nm B ret R Q Ny My h cells slots pc ls st :=
  Run.pure (fun p e below T m c target hA hx hby hs => XS.lconst hA hx rfl (hb hby hd) (by subst hp hv; exact hs)) rfl hr
theorem r_aconst {pc' : Nat} (hd : decode B pc = .ok (.aconst_null, 1)) (hp : pc + 1 = pc') (hr : Run w l Z EL n0 own nm B ret R Q Ny My h cells slots pc' ls (.null :: st)) : Run w l Z EL n0 own nm B ret R Q Ny My h cells slots pc ls (st) :=
  Run.pure (fun p e below T m c target hA hx hby hs => XS.aconstNull hA hx rfl (hb hby hd) (by subst hp; exact hs)) rfl hr
theorem r_iadd {pc' : Nat} {x y : Int32} (hd : decode B pc = .ok (.iadd, 1)) (hp : pc + 1 = pc') (hr : Run w l Z EL n0 own nm B ret R Q Ny My h cells slots pc' ls (.int (x + y) :: st)) : Run w l Z EL n0 own nm B ret R Q Ny My h cells slots pc ls (.int y :: .int x :: st) :=
  Run.pure (fun p e below T m c target hA hx hby hs => XS.iadd hA hx rfl (hb hby hd) rfl (by subst hp; exact hs)) rfl hr
theorem r_isub {pc' : Nat} {x y : Int32} (hd : decode B pc = .ok (.isub, 1)) (hp : pc + 1 = pc') (hr : Run w l Z EL n0 own nm B ret R Q Ny My h cells slots pc' ls (.int (x - y) :: st)) : Run w l Z EL n0 own nm B ret R Q Ny My h cells slots pc ls (.int y :: .int x :: st) :=
  Run.pure (fun p e below T m c target hA hx hby hs => XS.isub hA hx rfl (hb hby hd) rfl (by subst hp; exact hs)) rfl hr
theorem r_imul {pc' : Nat} {x y : Int32} (hd : decode B pc = .ok (.imul, 1)) (hp : pc + 1 = pc') (hr : Run w l Z EL n0 own nm B ret R Q Ny My h cells slots pc' ls (.int (x * y) :: st)) : Run w l Z EL n0 own nm B ret R Q Ny My h cells slots pc ls (.int y :: .int x :: st) :=
  Run.pure (fun p e below T m c target hA hx hby hs => XS.imul hA hx rfl (hb hby hd) rfl (by subst hp; exact hs)) rfl hr
theorem r_iand {pc' : Nat} {x y : Int32} (hd : decode B pc = .ok (.iand, 1)) (hp : pc + 1 = pc') (hr : Run w l Z EL n0 own nm B ret R Q Ny My h cells slots pc' ls (.int (x &&& y) :: st)) : Run w l Z EL n0 own nm B ret R Q Ny My h cells slots pc ls (.int y :: .int x :: st) :=
  Run.pure (fun p e below T m c target hA hx hby hs => XS.iand hA hx rfl (hb hby hd) rfl (by subst hp; exact hs)) rfl hr
theorem r_ior {pc' : Nat} {x y : Int32} (hd : decode B pc = .ok (.ior, 1)) (hp : pc + 1 = pc') (hr : Run w l Z EL n0 own nm B ret R Q Ny My h cells slots pc' ls (.int (x ||| y) :: st)) : Run w l Z EL n0 own nm B ret R Q Ny My h cells slots pc ls (.int y :: .int x :: st) :=
  Run.pure (fun p e below T m c target hA hx hby hs => XS.ior hA hx rfl (hb hby hd) rfl (by subst hp; exact hs)) rfl hr
theorem r_ixor {pc' : Nat} {x y : Int32} (hd : decode B pc = .ok (.ixor, 1)) (hp : pc + 1 = pc') (hr : Run w l Z EL n0 own nm B ret R Q Ny My h cells slots pc' ls (.int (x ^^^ y) :: st)) : Run w l Z EL n0 own nm B ret R Q Ny My h cells slots pc ls (.int y :: .int x :: st) :=
  Run.pure (fun p e below T m c target hA hx hby hs => XS.ixor hA hx rfl (hb hby hd) rfl (by subst hp; exact hs)) rfl hr
theorem r_ishl {pc' : Nat} {x y : Int32} (hd : decode B pc = .ok (.ishl, 1)) (hp : pc + 1 = pc') (hr : Run w l Z EL n0 own nm B ret R Q Ny My h cells slots pc' ls (.int (x <<< (y &&& 31)) :: st)) : Run w l Z EL n0 own nm B ret R Q Ny My h cells slots pc ls (.int y :: .int x :: st) :=
  Run.pure (fun p e below T m c target hA hx hby hs => XS.ishl hA hx rfl (hb hby hd) rfl (by subst hp; exact hs)) rfl hr
theorem r_ishr {pc' : Nat} {x y : Int32} (hd : decode B pc = .ok (.ishr, 1)) (hp : pc + 1 = pc') (hr : Run w l Z EL n0 own nm B ret R Q Ny My h cells slots pc' ls (.int (x >>> (y &&& 31)) :: st)) : Run w l Z EL n0 own nm B ret R Q Ny My h cells slots pc ls (.int y :: .int x :: st) :=
  Run.pure (fun p e below T m c target hA hx hby hs => XS.ishr hA hx rfl (hb hby hd) rfl (by subst hp; exact hs)) rfl hr
theorem r_iushr {pc' : Nat} {x y : Int32} (hd : decode B pc = .ok (.iushr, 1)) (hp : pc + 1 = pc') (hr : Run w l Z EL n0 own nm B ret R Q Ny My h cells slots pc' ls (.int ((x.toUInt32 >>> (y &&& 31).toUInt32).toInt32) :: st)) : Run w l Z EL n0 own nm B ret R Q Ny My h cells slots pc ls (.int y :: .int x :: st) :=
  Run.pure (fun p e below T m c target hA hx hby hs => XS.iushr hA hx rfl (hb hby hd) rfl (by subst hp; exact hs)) rfl hr
theorem r_ladd {pc' : Nat} {x y : Int64} (hd : decode B pc = .ok (.ladd, 1)) (hp : pc + 1 = pc') (hr : Run w l Z EL n0 own nm B ret R Q Ny My h cells slots pc' ls (.long (x + y) :: st)) : Run w l Z EL n0 own nm B ret R Q Ny My h cells slots pc ls (.long y :: .long x :: st) :=
  Run.pure (fun p e below T m c target hA hx hby hs => XS.ladd hA hx rfl (hb hby hd) rfl (by subst hp; exact hs)) rfl hr
theorem r_lsub {pc' : Nat} {x y : Int64} (hd : decode B pc = .ok (.lsub, 1)) (hp : pc + 1 = pc') (hr : Run w l Z EL n0 own nm B ret R Q Ny My h cells slots pc' ls (.long (x - y) :: st)) : Run w l Z EL n0 own nm B ret R Q Ny My h cells slots pc ls (.long y :: .long x :: st) :=
  Run.pure (fun p e below T m c target hA hx hby hs => XS.lsub hA hx rfl (hb hby hd) rfl (by subst hp; exact hs)) rfl hr
theorem r_lmul {pc' : Nat} {x y : Int64} (hd : decode B pc = .ok (.lmul, 1)) (hp : pc + 1 = pc') (hr : Run w l Z EL n0 own nm B ret R Q Ny My h cells slots pc' ls (.long (x * y) :: st)) : Run w l Z EL n0 own nm B ret R Q Ny My h cells slots pc ls (.long y :: .long x :: st) :=
  Run.pure (fun p e below T m c target hA hx hby hs => XS.lmul hA hx rfl (hb hby hd) rfl (by subst hp; exact hs)) rfl hr
theorem r_land {pc' : Nat} {x y : Int64} (hd : decode B pc = .ok (.land, 1)) (hp : pc + 1 = pc') (hr : Run w l Z EL n0 own nm B ret R Q Ny My h cells slots pc' ls (.long (x &&& y) :: st)) : Run w l Z EL n0 own nm B ret R Q Ny My h cells slots pc ls (.long y :: .long x :: st) :=
  Run.pure (fun p e below T m c target hA hx hby hs => XS.land hA hx rfl (hb hby hd) rfl (by subst hp; exact hs)) rfl hr
theorem r_lor {pc' : Nat} {x y : Int64} (hd : decode B pc = .ok (.lor, 1)) (hp : pc + 1 = pc') (hr : Run w l Z EL n0 own nm B ret R Q Ny My h cells slots pc' ls (.long (x ||| y) :: st)) : Run w l Z EL n0 own nm B ret R Q Ny My h cells slots pc ls (.long y :: .long x :: st) :=
  Run.pure (fun p e below T m c target hA hx hby hs => XS.lor hA hx rfl (hb hby hd) rfl (by subst hp; exact hs)) rfl hr
theorem r_lxor {pc' : Nat} {x y : Int64} (hd : decode B pc = .ok (.lxor, 1)) (hp : pc + 1 = pc') (hr : Run w l Z EL n0 own nm B ret R Q Ny My h cells slots pc' ls (.long (x ^^^ y) :: st)) : Run w l Z EL n0 own nm B ret R Q Ny My h cells slots pc ls (.long y :: .long x :: st) :=
  Run.pure (fun p e below T m c target hA hx hby hs => XS.lxor hA hx rfl (hb hby hd) rfl (by subst hp; exact hs)) rfl hr
theorem r_idiv {pc' : Nat} {x y : Int32} (hd : decode B pc = .ok (.idiv, 1)) (hp : pc + 1 = pc') (hy : y ≠ 0) (hr : Run w l Z EL n0 own nm B ret R Q Ny My h cells slots pc' ls (.int (x / y) :: st)) : Run w l Z EL n0 own nm B ret R Q Ny My h cells slots pc ls (.int y :: .int x :: st) :=
  Run.pure (fun p e below T m c target hA hx hby hs => XS.idiv hA hx rfl (hb hby hd) rfl hy (by subst hp; exact hs)) rfl hr
theorem r_ldiv {pc' : Nat} {x y : Int64} (hd : decode B pc = .ok (.ldiv, 1)) (hp : pc + 1 = pc') (hy : y ≠ 0) (hr : Run w l Z EL n0 own nm B ret R Q Ny My h cells slots pc' ls (.long (x / y) :: st)) : Run w l Z EL n0 own nm B ret R Q Ny My h cells slots pc ls (.long y :: .long x :: st) :=
  Run.pure (fun p e below T m c target hA hx hby hs => XS.ldiv hA hx rfl (hb hby hd) rfl hy (by subst hp; exact hs)) rfl hr
theorem r_ineg {pc' : Nat} {x : Int32} (hd : decode B pc = .ok (.ineg, 1)) (hp : pc + 1 = pc') (hr : Run w l Z EL n0 own nm B ret R Q Ny My h cells slots pc' ls (.int (-x) :: st)) : Run w l Z EL n0 own nm B ret R Q Ny My h cells slots pc ls (.int x :: st) :=
  Run.pure (fun p e below T m c target hA hx hby hs => XS.ineg hA hx rfl (hb hby hd) rfl (by subst hp; exact hs)) rfl hr
theorem r_i2b {pc' : Nat} {x : Int32} (hd : decode B pc = .ok (.i2b, 1)) (hp : pc + 1 = pc') (hr : Run w l Z EL n0 own nm B ret R Q Ny My h cells slots pc' ls (.int (x.toInt8.toInt32) :: st)) : Run w l Z EL n0 own nm B ret R Q Ny My h cells slots pc ls (.int x :: st) :=
  Run.pure (fun p e below T m c target hA hx hby hs => XS.i2b hA hx rfl (hb hby hd) rfl (by subst hp; exact hs)) rfl hr
theorem r_i2c {pc' : Nat} {x : Int32} (hd : decode B pc = .ok (.i2c, 1)) (hp : pc + 1 = pc') (hr : Run w l Z EL n0 own nm B ret R Q Ny My h cells slots pc' ls (.int (x.toUInt32.toUInt16.toUInt32.toInt32) :: st)) : Run w l Z EL n0 own nm B ret R Q Ny My h cells slots pc ls (.int x :: st) :=
  Run.pure (fun p e below T m c target hA hx hby hs => XS.i2c hA hx rfl (hb hby hd) rfl (by subst hp; exact hs)) rfl hr
theorem r_i2s {pc' : Nat} {x : Int32} (hd : decode B pc = .ok (.i2s, 1)) (hp : pc + 1 = pc') (hr : Run w l Z EL n0 own nm B ret R Q Ny My h cells slots pc' ls (.int (x.toInt16.toInt32) :: st)) : Run w l Z EL n0 own nm B ret R Q Ny My h cells slots pc ls (.int x :: st) :=
  Run.pure (fun p e below T m c target hA hx hby hs => XS.i2s hA hx rfl (hb hby hd) rfl (by subst hp; exact hs)) rfl hr
theorem r_i2l {pc' : Nat} {x : Int32} (hd : decode B pc = .ok (.i2l, 1)) (hp : pc + 1 = pc') (hr : Run w l Z EL n0 own nm B ret R Q Ny My h cells slots pc' ls (.long (x.toInt64) :: st)) : Run w l Z EL n0 own nm B ret R Q Ny My h cells slots pc ls (.int x :: st) :=
  Run.pure (fun p e below T m c target hA hx hby hs => XS.i2l hA hx rfl (hb hby hd) rfl (by subst hp; exact hs)) rfl hr
theorem r_l2i {pc' : Nat} {x : Int64} (hd : decode B pc = .ok (.l2i, 1)) (hp : pc + 1 = pc') (hr : Run w l Z EL n0 own nm B ret R Q Ny My h cells slots pc' ls (.int (x.toInt32) :: st)) : Run w l Z EL n0 own nm B ret R Q Ny My h cells slots pc ls (.long x :: st) :=
  Run.pure (fun p e below T m c target hA hx hby hs => XS.l2i hA hx rfl (hb hby hd) rfl (by subst hp; exact hs)) rfl hr
theorem r_lneg {pc' : Nat} {x : Int64} (hd : decode B pc = .ok (.lneg, 1)) (hp : pc + 1 = pc') (hr : Run w l Z EL n0 own nm B ret R Q Ny My h cells slots pc' ls (.long (-x) :: st)) : Run w l Z EL n0 own nm B ret R Q Ny My h cells slots pc ls (.long x :: st) :=
  Run.pure (fun p e below T m c target hA hx hby hs => XS.lneg hA hx rfl (hb hby hd) rfl (by subst hp; exact hs)) rfl hr
theorem r_lcmp {pc' : Nat} {x y : Int64} (hd : decode B pc = .ok (.lcmp, 1)) (hp : pc + 1 = pc') (hr : Run w l Z EL n0 own nm B ret R Q Ny My h cells slots pc' ls (.int (lcmpW x y) :: st)) : Run w l Z EL n0 own nm B ret R Q Ny My h cells slots pc ls (.long y :: .long x :: st) :=
  Run.pure (fun p e below T m c target hA hx hby hs => XS.lcmp hA hx rfl (hb hby hd) rfl (by subst hp; exact hs)) rfl hr
theorem r_pop {pc' : Nat} {x : Value} (hd : decode B pc = .ok (.pop, 1)) (hp : pc + 1 = pc') (hc : x.category = 1) (hr : Run w l Z EL n0 own nm B ret R Q Ny My h cells slots pc' ls (st)) : Run w l Z EL n0 own nm B ret R Q Ny My h cells slots pc ls (x :: st) :=
  Run.pure (fun p e below T m c target hA hx hby hs => XS.pop hA hx rfl (hb hby hd) rfl hc (by subst hp; exact hs)) rfl hr
theorem r_dup {pc' : Nat} {x : Value} (hd : decode B pc = .ok (.dup, 1)) (hp : pc + 1 = pc') (hc : x.category = 1) (hr : Run w l Z EL n0 own nm B ret R Q Ny My h cells slots pc' ls (x :: x :: st)) : Run w l Z EL n0 own nm B ret R Q Ny My h cells slots pc ls (x :: st) :=
  Run.pure (fun p e below T m c target hA hx hby hs => XS.dup hA hx rfl (hb hby hd) rfl hc (by subst hp; exact hs)) rfl hr
theorem r_swap {pc' : Nat} {x y : Value} (hd : decode B pc = .ok (.swap, 1)) (hp : pc + 1 = pc') (hc : x.category = 1) (hc2 : y.category = 1) (hr : Run w l Z EL n0 own nm B ret R Q Ny My h cells slots pc' ls (y :: x :: st)) : Run w l Z EL n0 own nm B ret R Q Ny My h cells slots pc ls (x :: y :: st) :=
  Run.pure (fun p e below T m c target hA hx hby hs => XS.swap hA hx rfl (hb hby hd) rfl hc hc2 (by subst hp; exact hs)) rfl hr
theorem r_dupX1 {pc' : Nat} {x y : Value} (hd : decode B pc = .ok (.dup_x1, 1)) (hp : pc + 1 = pc') (hc : x.category = 1) (hc2 : y.category = 1) (hr : Run w l Z EL n0 own nm B ret R Q Ny My h cells slots pc' ls (x :: y :: x :: st)) : Run w l Z EL n0 own nm B ret R Q Ny My h cells slots pc ls (x :: y :: st) :=
  Run.pure (fun p e below T m c target hA hx hby hs => XS.dupX1 hA hx rfl (hb hby hd) rfl hc hc2 (by subst hp; exact hs)) rfl hr
theorem r_dup2 {pc' : Nat} {x y : Value} (hd : decode B pc = .ok (.dup2, 1)) (hp : pc + 1 = pc') (hc : x.category = 1) (hc2 : y.category = 1) (hr : Run w l Z EL n0 own nm B ret R Q Ny My h cells slots pc' ls (x :: y :: x :: y :: st)) : Run w l Z EL n0 own nm B ret R Q Ny My h cells slots pc ls (x :: y :: st) :=
  Run.pure (fun p e below T m c target hA hx hby hs => XT.dup2 hA hx rfl (hb hby hd) rfl hc hc2 (by subst hp; exact hs)) rfl hr
theorem r_istoreN {pc' : Nat} {k : Fin 4} {x : Int32} {l' : Array Slot} (hd : decode B pc = .ok (.istore_n k, 1)) (hp : pc + 1 = pc') (hl : storeLocals ls k.val (.int x) = some l') (hsz : l'.size = ls.size) (hr : Run w l Z EL n0 own nm B ret R Q Ny My h cells slots pc' l' (st)) : Run w l Z EL n0 own nm B ret R Q Ny My h cells slots pc ls (.int x :: st) :=
  Run.pure (fun p e below T m c target hA hx hby hs => XS.istoreN hA hx rfl (hb hby hd) rfl hl (by subst hp; exact hs)) hsz hr
theorem r_istore {pc' : Nat} {k : Nat} {x : Int32} {l' : Array Slot} (hd : decode B pc = .ok (.istore k, 2)) (hp : pc + 2 = pc') (hl : storeLocals ls k (.int x) = some l') (hsz : l'.size = ls.size) (hr : Run w l Z EL n0 own nm B ret R Q Ny My h cells slots pc' l' (st)) : Run w l Z EL n0 own nm B ret R Q Ny My h cells slots pc ls (.int x :: st) :=
  Run.pure (fun p e below T m c target hA hx hby hs => XS.istore hA hx rfl (hb hby hd) rfl hl (by subst hp; exact hs)) hsz hr
theorem r_lstoreN {pc' : Nat} {k : Fin 4} {x : Int64} {l' : Array Slot} (hd : decode B pc = .ok (.lstore_n k, 1)) (hp : pc + 1 = pc') (hl : storeLocals ls k.val (.long x) = some l') (hsz : l'.size = ls.size) (hr : Run w l Z EL n0 own nm B ret R Q Ny My h cells slots pc' l' (st)) : Run w l Z EL n0 own nm B ret R Q Ny My h cells slots pc ls (.long x :: st) :=
  Run.pure (fun p e below T m c target hA hx hby hs => XS.lstoreN hA hx rfl (hb hby hd) rfl hl (by subst hp; exact hs)) hsz hr
theorem r_lstore {pc' : Nat} {k : Nat} {x : Int64} {l' : Array Slot} (hd : decode B pc = .ok (.lstore k, 2)) (hp : pc + 2 = pc') (hl : storeLocals ls k (.long x) = some l') (hsz : l'.size = ls.size) (hr : Run w l Z EL n0 own nm B ret R Q Ny My h cells slots pc' l' (st)) : Run w l Z EL n0 own nm B ret R Q Ny My h cells slots pc ls (.long x :: st) :=
  Run.pure (fun p e below T m c target hA hx hby hs => XS.lstore hA hx rfl (hb hby hd) rfl hl (by subst hp; exact hs)) hsz hr
theorem r_astoreN {pc' : Nat} {k : Fin 4} {x : Value} {l' : Array Slot} (hd : decode B pc = .ok (.astore_n k, 1)) (hp : pc + 1 = pc') (hv : x.isRef = true) (hl : storeLocals ls k.val x = some l') (hsz : l'.size = ls.size) (hr : Run w l Z EL n0 own nm B ret R Q Ny My h cells slots pc' l' (st)) : Run w l Z EL n0 own nm B ret R Q Ny My h cells slots pc ls (x :: st) :=
  Run.pure (fun p e below T m c target hA hx hby hs => XS.astoreN hA hx rfl (hb hby hd) rfl hv hl (by subst hp; exact hs)) hsz hr
theorem r_astore {pc' : Nat} {k : Nat} {x : Value} {l' : Array Slot} (hd : decode B pc = .ok (.astore k, 2)) (hp : pc + 2 = pc') (hv : x.isRef = true) (hl : storeLocals ls k x = some l') (hsz : l'.size = ls.size) (hr : Run w l Z EL n0 own nm B ret R Q Ny My h cells slots pc' l' (st)) : Run w l Z EL n0 own nm B ret R Q Ny My h cells slots pc ls (x :: st) :=
  Run.pure (fun p e below T m c target hA hx hby hs => XS.astore hA hx rfl (hb hby hd) rfl hv hl (by subst hp; exact hs)) hsz hr
theorem r_iinc {pc' : Nat} {k : Nat} {cst : Int} {x : Int32} {l' : Array Slot} (hd : decode B pc = .ok (.iinc k cst, 3)) (hp : pc + 3 = pc') (hl : ls[k]? = some (.val (.int x))) (hl' : storeLocals ls k (.int (x + Int32.ofInt cst)) = some l') (hsz : l'.size = ls.size) (hr : Run w l Z EL n0 own nm B ret R Q Ny My h cells slots pc' l' (st)) : Run w l Z EL n0 own nm B ret R Q Ny My h cells slots pc ls (st) :=
  Run.pure (fun p e below T m c target hA hx hby hs => XS.iinc hA hx rfl (hb hby hd) hl hl' (by subst hp; exact hs)) hsz hr
theorem r_goto {pc' : Nat} {o : Int} (hd : decode B pc = .ok (.goto o, 3)) (hp : (pc : Int) + o = (pc' : Int)) (hr : Run w l Z EL n0 own nm B ret R Q Ny My h cells slots pc' ls st) : Run w l Z EL n0 own nm B ret R Q Ny My h cells slots pc ls st :=
  Run.pure (fun p e below T m c target hA hx hby hs => XS.goto hA hx rfl (pc0 := pc) (pc' := pc') rfl (hb hby hd) (by omega) (by omega) hs) rfl hr
theorem r_if {pc' pc2 : Nat} {cd : ClassFile.Cond} {o : Int} {x : Int32} (hd : decode B pc = .ok (.ifCond cd o, 3)) (hp : pc + 3 = pc') (hq : (pc : Int) + o = (pc2 : Int)) (h1 : if_icmp.holds cd x 0 = true → Run w l Z EL n0 own nm B ret R Q Ny My h cells slots pc2 ls st) (h2 : if_icmp.holds cd x 0 = false → Run w l Z EL n0 own nm B ret R Q Ny My h cells slots pc' ls st) : Run w l Z EL n0 own nm B ret R Q Ny My h cells slots pc ls (.int x :: st) := by
  cases hb0 : if_icmp.holds cd x 0 with
  | true => exact Run.pure (fun p e below T m c target hA hx hby hs => XS.ifYes hA hx rfl (pc0 := pc) (pc' := pc2) rfl (hb hby hd) rfl ((if0 _ _).trans hb0) (by omega) (by omega) hs) rfl (h1 hb0)
  | false => exact Run.pure (fun p e below T m c target hA hx hby hs => XS.ifNo hA hx rfl (hb hby hd) rfl ((if0 _ _).trans hb0) (by subst hp; exact hs)) rfl (h2 hb0)
theorem r_icmp {pc' pc2 : Nat} {cd : ClassFile.Cond} {o : Int} {x y : Int32} (hd : decode B pc = .ok (.if_icmp cd o, 3)) (hp : pc + 3 = pc') (hq : (pc : Int) + o = (pc2 : Int)) (h1 : if_icmp.holds cd x y = true → Run w l Z EL n0 own nm B ret R Q Ny My h cells slots pc2 ls st) (h2 : if_icmp.holds cd x y = false → Run w l Z EL n0 own nm B ret R Q Ny My h cells slots pc' ls st) : Run w l Z EL n0 own nm B ret R Q Ny My h cells slots pc ls (.int y :: .int x :: st) := by
  cases hb0 : if_icmp.holds cd x y with
  | true => exact Run.pure (fun p e below T m c target hA hx hby hs => XS.icmpYes hA hx rfl (pc0 := pc) (pc' := pc2) rfl (hb hby hd) rfl hb0 (by omega) (by omega) hs) rfl (h1 hb0)
  | false => exact Run.pure (fun p e below T m c target hA hx hby hs => XS.icmpNo hA hx rfl (hb hby hd) rfl hb0 (by subst hp; exact hs)) rfl (h2 hb0)
theorem h_eq {x y : Int32} : (if_icmp.holds .eq x y = true → x = y) ∧ (if_icmp.holds .eq x y = false → ¬ x = y) := ⟨fun q => Classical.byContradiction fun e => (by rw [(feq e).1] at q; cases q), fun q e => (by rw [(teq e).1] at q; cases q)⟩
theorem h_ne {x y : Int32} : (if_icmp.holds .ne x y = true → ¬ x = y) ∧ (if_icmp.holds .ne x y = false → x = y) := ⟨fun q e => (by rw [(teq e).2] at q; cases q), fun q => Classical.byContradiction fun e => (by rw [(feq e).2] at q; cases q)⟩
theorem h_lt {x y : Int32} : (if_icmp.holds .lt x y = true → x < y) ∧ (if_icmp.holds .lt x y = false → ¬ x < y) := ⟨fun q => Classical.byContradiction fun e => (by rw [(flt e).1] at q; cases q), fun q e => (by rw [(tlt e).1] at q; cases q)⟩
theorem h_ge {x y : Int32} : (if_icmp.holds .ge x y = true → ¬ x < y) ∧ (if_icmp.holds .ge x y = false → x < y) := ⟨fun q e => (by rw [(tlt e).2.1] at q; cases q), fun q => Classical.byContradiction fun e => (by rw [(flt e).2.1] at q; cases q)⟩
theorem h_gt {x y : Int32} : (if_icmp.holds .gt x y = true → y < x) ∧ (if_icmp.holds .gt x y = false → ¬ y < x) := ⟨fun q => Classical.byContradiction fun e => (by rw [(flt e).2.2.1] at q; cases q), fun q e => (by rw [(tlt e).2.2.1] at q; cases q)⟩
theorem h_le {x y : Int32} : (if_icmp.holds .le x y = true → ¬ y < x) ∧ (if_icmp.holds .le x y = false → y < x) := ⟨fun q e => (by rw [(tlt e).2.2.2] at q; cases q), fun q => Classical.byContradiction fun e => (by rw [(flt e).2.2.2] at q; cases q)⟩
theorem r_ifeq {pc' pc2 : Nat} {o : Int} {x : Int32} (hd : decode B pc = .ok (.ifCond .eq o, 3)) (hp : pc + 3 = pc') (hq : (pc : Int) + o = (pc2 : Int)) (h1 : x = (0 : Int32) → Run w l Z EL n0 own nm B ret R Q Ny My h cells slots pc2 ls st) (h2 : ¬ x = (0 : Int32) → Run w l Z EL n0 own nm B ret R Q Ny My h cells slots pc' ls st) : Run w l Z EL n0 own nm B ret R Q Ny My h cells slots pc ls (.int x :: st) := r_if hd hp hq (fun q => h1 (h_eq.1 q)) (fun q => h2 (h_eq.2 q))
theorem r_icmpeq {pc' pc2 : Nat} {o : Int} {x y : Int32} (hd : decode B pc = .ok (.if_icmp .eq o, 3)) (hp : pc + 3 = pc') (hq : (pc : Int) + o = (pc2 : Int)) (h1 : x = y → Run w l Z EL n0 own nm B ret R Q Ny My h cells slots pc2 ls st) (h2 : ¬ x = y → Run w l Z EL n0 own nm B ret R Q Ny My h cells slots pc' ls st) : Run w l Z EL n0 own nm B ret R Q Ny My h cells slots pc ls (.int y :: .int x :: st) := r_icmp hd hp hq (fun q => h1 (h_eq.1 q)) (fun q => h2 (h_eq.2 q))
theorem r_ifne {pc' pc2 : Nat} {o : Int} {x : Int32} (hd : decode B pc = .ok (.ifCond .ne o, 3)) (hp : pc + 3 = pc') (hq : (pc : Int) + o = (pc2 : Int)) (h1 : ¬ x = (0 : Int32) → Run w l Z EL n0 own nm B ret R Q Ny My h cells slots pc2 ls st) (h2 : x = (0 : Int32) → Run w l Z EL n0 own nm B ret R Q Ny My h cells slots pc' ls st) : Run w l Z EL n0 own nm B ret R Q Ny My h cells slots pc ls (.int x :: st) := r_if hd hp hq (fun q => h1 (h_ne.1 q)) (fun q => h2 (h_ne.2 q))
theorem r_icmpne {pc' pc2 : Nat} {o : Int} {x y : Int32} (hd : decode B pc = .ok (.if_icmp .ne o, 3)) (hp : pc + 3 = pc') (hq : (pc : Int) + o = (pc2 : Int)) (h1 : ¬ x = y → Run w l Z EL n0 own nm B ret R Q Ny My h cells slots pc2 ls st) (h2 : x = y → Run w l Z EL n0 own nm B ret R Q Ny My h cells slots pc' ls st) : Run w l Z EL n0 own nm B ret R Q Ny My h cells slots pc ls (.int y :: .int x :: st) := r_icmp hd hp hq (fun q => h1 (h_ne.1 q)) (fun q => h2 (h_ne.2 q))
theorem r_iflt {pc' pc2 : Nat} {o : Int} {x : Int32} (hd : decode B pc = .ok (.ifCond .lt o, 3)) (hp : pc + 3 = pc') (hq : (pc : Int) + o = (pc2 : Int)) (h1 : x < (0 : Int32) → Run w l Z EL n0 own nm B ret R Q Ny My h cells slots pc2 ls st) (h2 : ¬ x < (0 : Int32) → Run w l Z EL n0 own nm B ret R Q Ny My h cells slots pc' ls st) : Run w l Z EL n0 own nm B ret R Q Ny My h cells slots pc ls (.int x :: st) := r_if hd hp hq (fun q => h1 (h_lt.1 q)) (fun q => h2 (h_lt.2 q))
theorem r_icmplt {pc' pc2 : Nat} {o : Int} {x y : Int32} (hd : decode B pc = .ok (.if_icmp .lt o, 3)) (hp : pc + 3 = pc') (hq : (pc : Int) + o = (pc2 : Int)) (h1 : x < y → Run w l Z EL n0 own nm B ret R Q Ny My h cells slots pc2 ls st) (h2 : ¬ x < y → Run w l Z EL n0 own nm B ret R Q Ny My h cells slots pc' ls st) : Run w l Z EL n0 own nm B ret R Q Ny My h cells slots pc ls (.int y :: .int x :: st) := r_icmp hd hp hq (fun q => h1 (h_lt.1 q)) (fun q => h2 (h_lt.2 q))
theorem r_ifge {pc' pc2 : Nat} {o : Int} {x : Int32} (hd : decode B pc = .ok (.ifCond .ge o, 3)) (hp : pc + 3 = pc') (hq : (pc : Int) + o = (pc2 : Int)) (h1 : ¬ x < (0 : Int32) → Run w l Z EL n0 own nm B ret R Q Ny My h cells slots pc2 ls st) (h2 : x < (0 : Int32) → Run w l Z EL n0 own nm B ret R Q Ny My h cells slots pc' ls st) : Run w l Z EL n0 own nm B ret R Q Ny My h cells slots pc ls (.int x :: st) := r_if hd hp hq (fun q => h1 (h_ge.1 q)) (fun q => h2 (h_ge.2 q))
theorem r_icmpge {pc' pc2 : Nat} {o : Int} {x y : Int32} (hd : decode B pc = .ok (.if_icmp .ge o, 3)) (hp : pc + 3 = pc') (hq : (pc : Int) + o = (pc2 : Int)) (h1 : ¬ x < y → Run w l Z EL n0 own nm B ret R Q Ny My h cells slots pc2 ls st) (h2 : x < y → Run w l Z EL n0 own nm B ret R Q Ny My h cells slots pc' ls st) : Run w l Z EL n0 own nm B ret R Q Ny My h cells slots pc ls (.int y :: .int x :: st) := r_icmp hd hp hq (fun q => h1 (h_ge.1 q)) (fun q => h2 (h_ge.2 q))
theorem r_ifgt {pc' pc2 : Nat} {o : Int} {x : Int32} (hd : decode B pc = .ok (.ifCond .gt o, 3)) (hp : pc + 3 = pc') (hq : (pc : Int) + o = (pc2 : Int)) (h1 : (0 : Int32) < x → Run w l Z EL n0 own nm B ret R Q Ny My h cells slots pc2 ls st) (h2 : ¬ (0 : Int32) < x → Run w l Z EL n0 own nm B ret R Q Ny My h cells slots pc' ls st) : Run w l Z EL n0 own nm B ret R Q Ny My h cells slots pc ls (.int x :: st) := r_if hd hp hq (fun q => h1 (h_gt.1 q)) (fun q => h2 (h_gt.2 q))
theorem r_icmpgt {pc' pc2 : Nat} {o : Int} {x y : Int32} (hd : decode B pc = .ok (.if_icmp .gt o, 3)) (hp : pc + 3 = pc') (hq : (pc : Int) + o = (pc2 : Int)) (h1 : y < x → Run w l Z EL n0 own nm B ret R Q Ny My h cells slots pc2 ls st) (h2 : ¬ y < x → Run w l Z EL n0 own nm B ret R Q Ny My h cells slots pc' ls st) : Run w l Z EL n0 own nm B ret R Q Ny My h cells slots pc ls (.int y :: .int x :: st) := r_icmp hd hp hq (fun q => h1 (h_gt.1 q)) (fun q => h2 (h_gt.2 q))
theorem r_ifle {pc' pc2 : Nat} {o : Int} {x : Int32} (hd : decode B pc = .ok (.ifCond .le o, 3)) (hp : pc + 3 = pc') (hq : (pc : Int) + o = (pc2 : Int)) (h1 : ¬ (0 : Int32) < x → Run w l Z EL n0 own nm B ret R Q Ny My h cells slots pc2 ls st) (h2 : (0 : Int32) < x → Run w l Z EL n0 own nm B ret R Q Ny My h cells slots pc' ls st) : Run w l Z EL n0 own nm B ret R Q Ny My h cells slots pc ls (.int x :: st) := r_if hd hp hq (fun q => h1 (h_le.1 q)) (fun q => h2 (h_le.2 q))
theorem r_icmple {pc' pc2 : Nat} {o : Int} {x y : Int32} (hd : decode B pc = .ok (.if_icmp .le o, 3)) (hp : pc + 3 = pc') (hq : (pc : Int) + o = (pc2 : Int)) (h1 : ¬ y < x → Run w l Z EL n0 own nm B ret R Q Ny My h cells slots pc2 ls st) (h2 : y < x → Run w l Z EL n0 own nm B ret R Q Ny My h cells slots pc' ls st) : Run w l Z EL n0 own nm B ret R Q Ny My h cells slots pc ls (.int y :: .int x :: st) := r_icmp hd hp hq (fun q => h1 (h_le.1 q)) (fun q => h2 (h_le.2 q))
theorem r_ifnullY {pc2 : Nat} {o : Int} (hd : decode B pc = .ok (.ifnull o, 3)) (hq : (pc : Int) + o = (pc2 : Int)) (hr : Run w l Z EL n0 own nm B ret R Q Ny My h cells slots pc2 ls st) : Run w l Z EL n0 own nm B ret R Q Ny My h cells slots pc ls (.null :: st) :=
  Run.pure (fun p e below T m c target hA hx hby hs => XS.ifnullYes hA hx rfl (pc0 := pc) (pc' := pc2) rfl (hb hby hd) rfl (by omega) (by omega) hs) rfl hr
theorem r_ifnullN {pc' : Nat} {o : Int} {b : Addr} (hd : decode B pc = .ok (.ifnull o, 3)) (hp : pc + 3 = pc') (hr : Run w l Z EL n0 own nm B ret R Q Ny My h cells slots pc' ls st) : Run w l Z EL n0 own nm B ret R Q Ny My h cells slots pc ls (.ref b :: st) :=
  Run.pure (fun p e below T m c target hA hx hby hs => XS.ifnullNo hA hx rfl (hb hby hd) rfl (by subst hp; exact hs)) rfl hr
theorem r_ifnonnullY {pc2 : Nat} {o : Int} {b : Addr} (hd : decode B pc = .ok (.ifnonnull o, 3)) (hq : (pc : Int) + o = (pc2 : Int)) (hr : Run w l Z EL n0 own nm B ret R Q Ny My h cells slots pc2 ls st) : Run w l Z EL n0 own nm B ret R Q Ny My h cells slots pc ls (.ref b :: st) :=
  Run.pure (fun p e below T m c target hA hx hby hs => XS.ifnonnullYes hA hx rfl (pc0 := pc) (pc' := pc2) rfl (hb hby hd) rfl (by omega) (by omega) hs) rfl hr
theorem r_ifnonnullN {pc' : Nat} {o : Int} (hd : decode B pc = .ok (.ifnonnull o, 3)) (hp : pc + 3 = pc') (hr : Run w l Z EL n0 own nm B ret R Q Ny My h cells slots pc' ls st) : Run w l Z EL n0 own nm B ret R Q Ny My h cells slots pc ls (.null :: st) :=
  Run.pure (fun p e below T m c target hA hx hby hs => XS.ifnonnullNo hA hx rfl (hb hby hd) rfl (by subst hp; exact hs)) rfl hr
theorem r_acmp {pc' pc2 : Nat} {cd : ClassFile.ACond} {o : Int} {x y : Value} (hx1 : x.isRef = true) (hy1 : y.isRef = true) (hd : decode B pc = .ok (.if_acmp cd o, 3)) (hp : pc + 3 = pc') (hq : (pc : Int) + o = (pc2 : Int)) (h1 : XT.acmp cd x y = true → Run w l Z EL n0 own nm B ret R Q Ny My h cells slots pc2 ls st) (h2 : XT.acmp cd x y = false → Run w l Z EL n0 own nm B ret R Q Ny My h cells slots pc' ls st) : Run w l Z EL n0 own nm B ret R Q Ny My h cells slots pc ls (y :: x :: st) := by
  cases hb0 : XT.acmp cd x y with
  | true => exact Run.pure (fun p e below T m c target hA hx hby hs => XT.acmpYes hA hx rfl (pc0 := pc) (pc' := pc2) rfl (hb hby hd) rfl hx1 hy1 hb0 (by omega) (by omega) hs) rfl (h1 hb0)
  | false => exact Run.pure (fun p e below T m c target hA hx hby hs => XT.acmpNo hA hx rfl (hb hby hd) rfl hx1 hy1 hb0 (by subst hp; exact hs)) rfl (h2 hb0)
theorem r_irem {pc' : Nat} {x y : Int32} (hd : decode B pc = .ok (.irem, 1)) (hp : pc + 1 = pc') (hy : y ≠ 0) (hr : Run w l Z EL n0 own nm B ret R Q Ny My h cells slots pc' ls (.int (x % y) :: st)) : Run w l Z EL n0 own nm B ret R Q Ny My h cells slots pc ls (.int y :: .int x :: st) :=
  Run.warm (fun p e s m args below meth c T locs hx hby hml hnm hZ hown X eT hO => ⟨T, X, eT, fun t k => iremM X hx (g := mkF m pc ls (.int y :: .int x :: st)) rfl (hb hby hd) rfl hy (by subst hp; exact k)⟩) hr
theorem r_getfield {pc' : Nat} {R0 O n d host : String} {index : Nat} {a : Addr} {v : Value} (hd : decode B pc = .ok (.getfield index, 3)) (hp : pc + 3 = pc') (wl : (Jvm.Cond.fieldLink own index R0 n d).before a0 Z = true ∨ (Jvm.Cond.fieldLinkNest own index R0 n d host).before a0 Z = true) (via : Via Z R0 O n d) (F : Fld Z h a O n d v) (hr : Run w l Z EL n0 own nm B ret R Q Ny My h cells slots pc' ls (v :: st)) : Run w l Z EL n0 own nm B ret R Q Ny My h cells slots pc ls (.ref a :: st) :=
  Run.warm (fun p e s m args below meth c T locs hx hby hml hnm hZ hown X eT hO => by
    obtain ⟨T', X', e', stp⟩ := getF X hx hZ hown wl via eT F (g := mkF m pc ls (.ref a :: st)) rfl rfl (hb hby hd)
    exact ⟨T', X', e', fun t k => stp t (by subst hp; exact k)⟩) hr
theorem r_getstatic {pc' : Nat} {R0 O n d host : String} {index : Nat} {v : Value} (hd : decode B pc = .ok (.getstatic index, 3)) (hp : pc + 3 = pc') (wl : (Jvm.Cond.fieldLink own index R0 n d).before a0 Z = true ∨ (Jvm.Cond.fieldLinkNest own index R0 n d host).before a0 Z = true) (via : Via Z R0 O n d) (F : Sta Z Z.heap O n d v) (hr : Run w l Z EL n0 own nm B ret R Q Ny My h cells slots pc' ls (v :: st)) : Run w l Z EL n0 own nm B ret R Q Ny My h cells slots pc ls st :=
  Run.warm (fun p e s m args below meth c T locs hx hby hml hnm hZ hown X eT hO => by
    obtain ⟨T', X', e', stp⟩ := getS2 X hx hZ hown wl via eT (F.ext hO.2) (g := mkF m pc ls st) rfl (hb hby hd)
    exact ⟨T', X', e', fun t k => stp t (by subst hp; exact k)⟩) hr
theorem r_castY {pc' : Nat} {K : String} {index : Nat} {a : Addr} (hd : decode B pc = .ok (.checkcast index, 3)) (hp : pc + 3 = pc') (wl : (Jvm.Cond.classLink own index K).before a0 Z = true) (F : Ins Z h a K true) (hr : Run w l Z EL n0 own nm B ret R Q Ny My h cells slots pc' ls (.ref a :: st)) : Run w l Z EL n0 own nm B ret R Q Ny My h cells slots pc ls (.ref a :: st) :=
  Run.warm (fun p e s m args below meth c T locs hx hby hml hnm hZ hown X eT hO => by
    obtain ⟨T', X', e', stp⟩ := castY X hx hZ hown wl eT F (g := mkF m pc ls (.ref a :: st)) rfl rfl (hb hby hd)
    exact ⟨T', X', e', fun t k => stp t (by subst hp; exact k)⟩) hr
theorem r_instY {pc' : Nat} {K : String} {index : Nat} {a : Addr} (hd : decode B pc = .ok (.instanceof index, 3)) (hp : pc + 3 = pc') (wl : (Jvm.Cond.classLink own index K).before a0 Z = true) (F : Ins Z h a K true) (hr : Run w l Z EL n0 own nm B ret R Q Ny My h cells slots pc' ls (.int 1 :: st)) : Run w l Z EL n0 own nm B ret R Q Ny My h cells slots pc ls (.ref a :: st) :=
  Run.warm (fun p e s m args below meth c T locs hx hby hml hnm hZ hown X eT hO => by
    obtain ⟨T', X', e', stp⟩ := instY X hx hZ hown wl eT F (g := mkF m pc ls (.ref a :: st)) rfl rfl (hb hby hd)
    exact ⟨T', X', e', fun t k => stp t (by subst hp; exact k)⟩) hr
theorem r_instNo {pc' : Nat} {K C : String} {index : Nat} {a : Addr} (hd : decode B pc = .ok (.instanceof index, 3)) (hp : pc + 3 = pc') (wl : (Jvm.Cond.classLink own index K).before a0 Z = true) (E : Exa Z h a C) (F : ∃ c t, Z.vm.findClass C = some c ∧ Z.vm.findClass K = some t ∧ Z.vm.assignable c t = false) (hr : Run w l Z EL n0 own nm B ret R Q Ny My h cells slots pc' ls (.int 0 :: st)) : Run w l Z EL n0 own nm B ret R Q Ny My h cells slots pc ls (.ref a :: st) :=
  Run.warm (fun p e s m args below meth c T locs hx hby hml hnm hZ hown X eT hO => by
    obtain ⟨T', X', e', stp⟩ := instNo X hx hZ hown wl eT E F (g := mkF m pc ls (.ref a :: st)) rfl rfl (hb hby hd)
    exact ⟨T', X', e', fun t k => stp t (by subst hp; exact k)⟩) hr
theorem r_instNull {pc' : Nat} {index : Nat} (hd : decode B pc = .ok (.instanceof index, 3)) (hp : pc + 3 = pc') (hr : Run w l Z EL n0 own nm B ret R Q Ny My h cells slots pc' ls (.int 0 :: st)) : Run w l Z EL n0 own nm B ret R Q Ny My h cells slots pc ls (.null :: st) :=
  Run.warm (fun p e s m args below meth c T locs hx hby hml hnm hZ hown X eT hO => ⟨T, X, eT, fun t k => X.instanceofNull hx (g := mkF m pc ls (.null :: st)) rfl rfl (hb hby hd) t (by subst hp; exact k)⟩) hr
theorem r_castNull {pc' : Nat} {index : Nat} (hd : decode B pc = .ok (.checkcast index, 3)) (hp : pc + 3 = pc') (hr : Run w l Z EL n0 own nm B ret R Q Ny My h cells slots pc' ls (.null :: st)) : Run w l Z EL n0 own nm B ret R Q Ny My h cells slots pc ls (.null :: st) :=
  Run.warm (fun p e s m args below meth c T locs hx hby hml hnm hZ hown X eT hO => ⟨T, X, eT, fun t k => X.checkcastNull hx (g := mkF m pc ls (.null :: st)) rfl rfl (hb hby hd) t (by subst hp; exact k)⟩) hr
theorem r_initO {pc' : Nat} {index : Nat} {a : Addr} {W : Nat} (hd : decode B pc = .ok (.invokespecial index, 3)) (hp : pc + 3 = pc') (w1 : (Jvm.Cond.methodLink own index Lib.objectInit).before a0 Z = true) (w2 : (Jvm.Cond.instanceMethod Lib.objectInit).before a0 Z = true) (w3 : (Jvm.Cond.code Lib.objectInit ⟨#[0xb1]⟩ 1 none).before a0 Z = true)
    (hf : 1 ≤ R.frames) (hW : (st.map fun v => v.category).sum ≤ W) (hl : W + 12 ≤ R.locals) (hr : Run w l Z EL n0 own nm B ret R Q Ny My h cells slots pc' ls st) : Run w l Z EL n0 own nm B ret R Q Ny My h cells slots pc ls (.ref a :: st) :=
  Run.warm (fun p e s m args below meth c T locs hx hby hml hnm hZ hown X eT hO => by
    obtain ⟨T', X', e', stp⟩ := initO X hx hZ hown w1 w2 w3 eT (g := mkF m pc ls (.ref a :: st)) rfl hml.symm rfl (hb hby hd) hf (W := W) (by show 2 * 0 + _ ≤ _; omega) hl
    exact ⟨T', X', e', fun t k => stp t (by subst hp; exact k)⟩) hr
theorem r_ldcI {pc' : Nat} {index : Nat} {v : Int32} (hd : decode B pc = .ok (.ldc index, 2)) (hp : pc + 2 = pc') (wl : (Jvm.Cond.constant own index v).before a0 Z = true) (hr : Run w l Z EL n0 own nm B ret R Q Ny My h cells slots pc' ls (.int v :: st)) : Run w l Z EL n0 own nm B ret R Q Ny My h cells slots pc ls st :=
  Run.warm (fun p e s m args below meth c T locs hx hby hml hnm hZ hown X eT hO => ⟨T, X, eT, fun t k => X.ldcInt hx hown (mvT hZ wl) (g := mkF m pc ls st) rfl (hb hby hd) t (by subst hp; exact k)⟩) hr
theorem r_ldcwI {pc' : Nat} {index : Nat} {v : Int32} (hd : decode B pc = .ok (.ldc_w index, 3)) (hp : pc + 3 = pc') (wl : (Jvm.Cond.constant own index v).before a0 Z = true) (hr : Run w l Z EL n0 own nm B ret R Q Ny My h cells slots pc' ls (.int v :: st)) : Run w l Z EL n0 own nm B ret R Q Ny My h cells slots pc ls st :=
  Run.warm (fun p e s m args below meth c T locs hx hby hml hnm hZ hown X eT hO => ⟨T, X, eT, fun t k => X.ldcwInt hx hown (mvT hZ wl) (g := mkF m pc ls st) rfl (hb hby hd) t (by subst hp; exact k)⟩) hr
theorem r_lookHit {pc2 len : Nat} {k : Int32} {dflt a off : Int} {pairs : Array (Int × Int)} (hd : decode B pc = .ok (.lookupswitch dflt pairs, len)) (hs : (pairs.toList.zip (pairs.toList.drop 1)).all (fun (a, next) => a.1 < next.1) = true) (hf : pairs.find? (·.1 == k.toInt) = some (a, off)) (hq : (pc : Int) + off = (pc2 : Int)) (hr : Run w l Z EL n0 own nm B ret R Q Ny My h cells slots pc2 ls st) : Run w l Z EL n0 own nm B ret R Q Ny My h cells slots pc ls (.int k :: st) :=
  Run.warm (fun p ee s m args below meth c T locs hx hby hml hnm hZ hown X eT hO => ⟨T, X, eT, fun t kk => X.lookupswitchHit hx (g := mkF m pc ls (.int k :: st)) rfl rfl (hb hby hd) hs hf (by show 0 ≤ (pc : Int) + off; omega) t (by
    have e : ((pc : Int) + off).toNat = pc2 := by omega
    show Steps p.tables ee below (T.setTop (mkF m ((pc : Int) + off).toNat ls st)) t
    rw [e]; exact kk)⟩) hr
theorem r_lookMiss {pc2 len : Nat} {k : Int32} {dflt : Int} {pairs : Array (Int × Int)} (hd : decode B pc = .ok (.lookupswitch dflt pairs, len)) (hs : (pairs.toList.zip (pairs.toList.drop 1)).all (fun (a, next) => a.1 < next.1) = true) (hf : pairs.find? (·.1 == k.toInt) = none) (hq : (pc : Int) + dflt = (pc2 : Int)) (hr : Run w l Z EL n0 own nm B ret R Q Ny My h cells slots pc2 ls st) : Run w l Z EL n0 own nm B ret R Q Ny My h cells slots pc ls (.int k :: st) :=
  Run.warm (fun p ee s m args below meth c T locs hx hby hml hnm hZ hown X eT hO => ⟨T, X, eT, fun t kk => X.lookupswitchMiss hx (g := mkF m pc ls (.int k :: st)) rfl rfl (hb hby hd) hs hf (by show 0 ≤ (pc : Int) + dflt; omega) t (by
    have e : ((pc : Int) + dflt).toNat = pc2 := by omega
    show Steps p.tables ee below (T.setTop (mkF m ((pc : Int) + dflt).toNat ls st)) t
    rw [e]; exact kk)⟩) hr
theorem r_tabIn {pc2 len : Nat} {k : Int32} {dflt low high off : Int} {offs : Array Int} (hd : decode B pc = .ok (.tableswitch dflt low high offs, len)) (hin : ¬ (k.toInt < low ∨ k.toInt > high)) (ho : offs[(k.toInt - low).toNat]? = some off) (hq : (pc : Int) + off = (pc2 : Int)) (hr : Run w l Z EL n0 own nm B ret R Q Ny My h cells slots pc2 ls st) : Run w l Z EL n0 own nm B ret R Q Ny My h cells slots pc ls (.int k :: st) :=
  Run.pure (fun p e below T m c target hA hx hby hs => XS.tswIn hA hx rfl (pc0 := pc) (pc' := pc2) rfl (hb hby hd) rfl hin ho (by omega) (by omega) hs) rfl hr
theorem r_tabOut {pc2 len : Nat} {k : Int32} {dflt low high : Int} {offs : Array Int} (hd : decode B pc = .ok (.tableswitch dflt low high offs, len)) (hout : k.toInt < low ∨ k.toInt > high) (hq : (pc : Int) + dflt = (pc2 : Int)) (hr : Run w l Z EL n0 own nm B ret R Q Ny My h cells slots pc2 ls st) : Run w l Z EL n0 own nm B ret R Q Ny My h cells slots pc ls (.int k :: st) :=
  Run.pure (fun p e below T m c target hA hx hby hs => XS.tswOut hA hx rfl (pc0 := pc) (pc' := pc2) rfl (hb hby hd) rfl hout (by omega) (by omega) hs) rfl hr
theorem r_ldc2L {pc' : Nat} {index : Nat} {v : Int64} (hd : decode B pc = .ok (.ldc2_w index, 3)) (hp : pc + 3 = pc') (wl : (Jvm.Cond.constantLong own index v).before a0 Z = true) (hr : Run w l Z EL n0 own nm B ret R Q Ny My h cells slots pc' ls (.long v :: st)) : Run w l Z EL n0 own nm B ret R Q Ny My h cells slots pc ls st :=
  Run.warm (fun p e s m args below meth c T locs hx hby hml hnm hZ hown X eT hO => ⟨T, X, eT, fun t k => X.ldc2Long hx hown (mvT hZ wl) (g := mkF m pc ls st) rfl (hb hby hd) t (by subst hp; exact k)⟩) hr
theorem r_arraylength {pc' : Nat} {a : Addr} {k : ClassId} {ty : FieldType} {z : Int32} {vs : List Value} {dv : Value} (hd : decode B pc = .ok (.arraylength, 1)) (hp : pc + 1 = pc') (A : Arv Z h a k ty z vs dv) (hr : Run w l Z EL n0 own nm B ret R Q Ny My h cells slots pc' ls (.int z :: st)) : Run w l Z EL n0 own nm B ret R Q Ny My h cells slots pc ls (.ref a :: st) :=
  Run.warm (fun p e s m args below meth c T locs hx hby hml hnm hZ hown X eT hO => by
    obtain ⟨cl, A1, -, S1, N1, -, -⟩ := A
    refine ⟨T, X, eT, fun t k => X.arraylength hx (by rw [eT]; exact A1.1) (State.isArrayOf_alike hZ.alike A1.2.1) (g := mkF m pc ls (.ref a :: st)) rfl rfl (hb hby hd) t ?_⟩
    rw [len_of S1 N1]; subst hp; exact k) hr
theorem arv_at {Z : State} {h : Heap} {a : Addr} {k : ClassId} {ty : FieldType} {z j : Int32} {vs : List Value} {dv v : Value} (A : Arv Z h a k ty z vs dv) (hj : ¬ j < 0 ∧ j < z) (hv : vs.getD j.toNatClampNeg dv = v) :
    ∃ c, Arr Z h a c ty ∧ ¬ (j < 0 ∨ c.slots.size ≤ j.toNatClampNeg) ∧ c.slots[j.toNatClampNeg]? = some v := by
  obtain ⟨cl, A1, -, S1, N1, H1, -⟩ := A
  exact ⟨cl, A1, inb_of S1 hj, H1.at (inb_of S1 hj) hv⟩
theorem r_caload {pc' : Nat} {a : Addr} {k : ClassId} {z j : Int32} {vs : List Value} {dv v : Value} (hd : decode B pc = .ok (.caload, 1)) (hp : pc + 1 = pc') (A : Arv Z h a k .char z vs dv) (hj : ¬ j < 0 ∧ j < z) (hv : vs.getD j.toNatClampNeg dv = v) (hr : Run w l Z EL n0 own nm B ret R Q Ny My h cells slots pc' ls (v :: st)) : Run w l Z EL n0 own nm B ret R Q Ny My h cells slots pc ls (.int j :: .ref a :: st) :=
  Run.warm (fun p e s m args below meth c T locs hx hby hml hnm hZ hown X eT hO => by
    obtain ⟨cl, A1, b1, g1⟩ := arv_at A hj hv
    exact ⟨T, X, eT, fun t k => X.caload hx (by rw [eT]; exact A1.1) (State.isArrayOf_alike hZ.alike A1.2.1) A1.2.2 b1 g1 (g := mkF m pc ls (.int j :: .ref a :: st)) rfl rfl (hb hby hd) t (by subst hp; exact k)⟩) hr
theorem r_iaload {pc' : Nat} {a : Addr} {k : ClassId} {z j : Int32} {vs : List Value} {dv v : Value} (hd : decode B pc = .ok (.iaload, 1)) (hp : pc + 1 = pc') (A : Arv Z h a k .int z vs dv) (hj : ¬ j < 0 ∧ j < z) (hv : vs.getD j.toNatClampNeg dv = v) (hr : Run w l Z EL n0 own nm B ret R Q Ny My h cells slots pc' ls (v :: st)) : Run w l Z EL n0 own nm B ret R Q Ny My h cells slots pc ls (.int j :: .ref a :: st) :=
  Run.warm (fun p e s m args below meth c T locs hx hby hml hnm hZ hown X eT hO => by
    obtain ⟨cl, A1, b1, g1⟩ := arv_at A hj hv
    exact ⟨T, X, eT, fun t k => X.iaload hx (by rw [eT]; exact A1.1) (State.isArrayOf_alike hZ.alike A1.2.1) A1.2.2 b1 g1 (g := mkF m pc ls (.int j :: .ref a :: st)) rfl rfl (hb hby hd) t (by subst hp; exact k)⟩) hr
theorem r_baload {pc' : Nat} {a : Addr} {k : ClassId} {z j : Int32} {vs : List Value} {dv v : Value} (hd : decode B pc = .ok (.baload, 1)) (hp : pc + 1 = pc') (A : Arv Z h a k .byte z vs dv) (hj : ¬ j < 0 ∧ j < z) (hv : vs.getD j.toNatClampNeg dv = v) (hr : Run w l Z EL n0 own nm B ret R Q Ny My h cells slots pc' ls (v :: st)) : Run w l Z EL n0 own nm B ret R Q Ny My h cells slots pc ls (.int j :: .ref a :: st) :=
  Run.warm (fun p e s m args below meth c T locs hx hby hml hnm hZ hown X eT hO => by
    obtain ⟨cl, A1, b1, g1⟩ := arv_at A hj hv
    exact ⟨T, X, eT, fun t k => X.baloadBytes hx (by rw [eT]; exact A1.1) (State.isArrayOf_alike hZ.alike A1.2.1) A1.2.2 b1 g1 (g := mkF m pc ls (.int j :: .ref a :: st)) rfl rfl (hb hby hd) t (by subst hp; exact k)⟩) hr
theorem r_aaload {pc' : Nat} {a : Addr} {k : ClassId} {ty : FieldType} {z j : Int32} {vs : List Value} {dv v : Value} (hd : decode B pc = .ok (.aaload, 1)) (hp : pc + 1 = pc') (A : Arv Z h a k ty z vs dv) (hty : ty.isReference = true) (hj : ¬ j < 0 ∧ j < z) (hv : vs.getD j.toNatClampNeg dv = v) (hr : Run w l Z EL n0 own nm B ret R Q Ny My h cells slots pc' ls (v :: st)) : Run w l Z EL n0 own nm B ret R Q Ny My h cells slots pc ls (.int j :: .ref a :: st) :=
  Run.warm (fun p e s m args below meth c T locs hx hby hml hnm hZ hown X eT hO => by
    obtain ⟨cl, A1, b1, g1⟩ := arv_at A hj hv
    exact ⟨T, X, eT, fun t k => X.aaload hx (by rw [eT]; exact A1.1) (State.isArrayOf_alike hZ.alike A1.2.1) hty A1.2.2 b1 g1 (g := mkF m pc ls (.int j :: .ref a :: st)) rfl rfl (hb hby hd) t (by subst hp; exact k)⟩) hr
/-- a step that makes or writes -/
theorem Run.heap {pc' cells' slots' : Nat} {st' : List Value} {h' : Heap} {My' : List Addr} (H : ∀ (p : Program) (e : Env) (s : State) (m : MethodId) (args : Array Value) (below : List Frame) (meth : Method) (c : Code) (T : State) (locs : List Loc) (vm : Vm), p.tables.exec = Jvm.exec → c.code = B → c.maxLocals = ls.size → meth.name = nm → Z.Warmed39 vm → vm.findClass own = some m.cls → Stand p l e R (s.setVm vm) m args below meth c T locs cells slots → T.heap = h → Fr n0 locs → Hid w Z EL n0 My s vm h →
      ∃ T' locs', Stand p l e R (s.setVm vm) m args below meth c T' locs' cells' slots' ∧ T'.heap = h' ∧ Fr n0 locs' ∧ Hid w Z EL n0 My' s vm h' ∧ ∀ target, Steps p.tables e below (T'.setTop (mkF m pc' ls st')) target → Steps p.tables e below (T.setTop (mkF m pc ls st)) target)
    (hr : Run w l Z EL n0 own nm B ret R Q Ny My' h' cells' slots' pc' ls st') : Run w l Z EL n0 own nm B ret R Q Ny My h cells slots pc ls st := by
  intro p e s m args below meth c T locs vm hx hby hml hret hnm hlk hZ hown X eT N hH
  obtain ⟨T', locs', X', e', N', hH', stp⟩ := H p e s m args below meth c T locs vm hx hby hml hnm hZ hown X eT N hH
  obtain ⟨t, o, hs, r⟩ := hr p e s m args below meth c T' locs' vm hx hby hml hret hnm hlk hZ hown X' e' N' hH'
  exact ⟨t, o, stp t hs, r⟩
theorem r_new {pc' : Nat} {C : String} {index n : Nat} (hd : decode B pc = .ok (.new index, 3)) (hp : pc + 3 = pc') (wl : (Jvm.Cond.classLink own index C).before a0 Z = true) (wi : (Jvm.Cond.instantiable C n).before a0 Z = true) (wz : (Jvm.Cond.initialized C).before a0 Z = true) (hc : cells + 1 ≤ R.cells) (hl : slots + n ≤ R.slots)
    (K : ∀ (h' : Heap) (b : Nat), b = h.size → h.size < h'.size → Ext h h' → Exa Z h' b C → (∀ {O nm d : String} {ty : FieldType}, Laid Z a0 C O nm d → parseFieldDescriptor d = some ty → Fld Z h' b O nm d (defaultValue ty)) → Unt h' b → Run w l Z EL n0 own nm B ret R Q Ny (b :: My) h' (cells + 1) (slots + n) pc' ls (.ref b :: st)) : Run w l Z EL n0 own nm B ret R Q Ny My h cells slots pc ls st := by
  intro p e s m args below meth c T locs vm hx hby hml hret hnm hlk hZ hown X eT N hH
  obtain ⟨T', h', X', e', E', A', D', U', stp⟩ := newO X hx hZ hown wl wi wz eT (g := mkF m pc ls st) rfl (hb hby hd) hc hl
  have hlt : h.size < h'.size := A'.lt
  obtain ⟨t, o, hs, r⟩ := K h' h.size rfl hlt E' A' D' U' p e s m args below meth c T' locs vm hx hby hml hret hnm hlk hZ hown X' e' N (hH.extNew E' hlt)
  exact ⟨t, o, stp t (by subst hp; exact hs), r⟩
theorem r_newP {pc' : Nat} {aty : ArrayType} {n : Int32} {cap : Nat} {ad : String} (hd : decode B pc = .ok (.newarray aty, 2)) (hp : pc + 2 = pc') (wa : (Jvm.Cond.arrayClass (newarray.typeOf aty)).before a0 Z = true) (hn : ¬ n < 0) (hcap : n.toNatClampNeg ≤ cap) (hbig : cap * 8 ≤ 536870912) (hc : cells + 1 ≤ R.cells) (hl : slots + cap ≤ R.slots) (had : "[" ++ (newarray.typeOf aty).toString = ad)
    (K : ∀ (h' : Heap) (b : Nat) (k : ClassId), b = h.size → h.size < h'.size → Ext h h' → Exa Z h' b ad → Arv Z h' b k (newarray.typeOf aty) n [] (defaultValue (newarray.typeOf aty)) → Run w l Z EL n0 own nm B ret R Q Ny (b :: My) h' (cells + 1) (slots + cap) pc' ls (.ref b :: st)) : Run w l Z EL n0 own nm B ret R Q Ny My h cells slots pc ls (.int n :: st) := by
  intro p e s m args below meth c T locs vm hx hby hml hret hnm hlk hZ hown X eT N hH
  obtain ⟨T', h', cA, X', e', E', A', D', stp⟩ := newPE X hx hZ wa eT (g := mkF m pc ls (.int n :: st)) rfl (hb hby hd) rfl hn hcap hbig hc hl had
  have hlt : h.size < h'.size := D'.lt
  obtain ⟨t, o, hs, r⟩ := K h' h.size cA rfl hlt E' D' (Arv.new A' hn) p e s m args below meth c T' locs vm hx hby hml hret hnm hlk hZ hown X' e' N (hH.extNew E' hlt)
  exact ⟨t, o, stp t (by subst hp; exact hs), r⟩
theorem r_newR {pc' : Nat} {C : String} {index : Nat} {n : Int32} {cap : Nat} {ad : String} (hd : decode B pc = .ok (.anewarray index, 3)) (hp : pc + 3 = pc') (w1 : (Jvm.Cond.classLink own index C).before a0 Z = true) (w2 : (Jvm.Cond.arrayOver (.object C)).before a0 Z = true) (hn : ¬ n < 0) (hcap : n.toNatClampNeg ≤ cap) (hbig : cap * 8 ≤ 536870912) (hc : cells + 1 ≤ R.cells) (hl : slots + cap ≤ R.slots) (had : "[" ++ (FieldType.object C).toString = ad)
    (K : ∀ (h' : Heap) (b : Nat) (k : ClassId), b = h.size → h.size < h'.size → Ext h h' → Exa Z h' b ad → Ovr Z k C → Arv Z h' b k (.object C) n [] .null → Run w l Z EL n0 own nm B ret R Q Ny (b :: My) h' (cells + 1) (slots + cap) pc' ls (.ref b :: st)) : Run w l Z EL n0 own nm B ret R Q Ny My h cells slots pc ls (.int n :: st) := by
  intro p e s m args below meth c T locs vm hx hby hml hret hnm hlk hZ hown X eT N hH
  obtain ⟨T', h', cA, X', e', E', A', D', O', stp⟩ := newRE X hx hZ hown w1 w2 eT (g := mkF m pc ls (.int n :: st)) rfl (hb hby hd) rfl hn hcap hbig hc hl had
  have hlt : h.size < h'.size := D'.lt
  obtain ⟨t, o, hs, r⟩ := K h' h.size cA rfl hlt E' D' O' (Arv.new A' hn) p e s m args below meth c T' locs vm hx hby hml hret hnm hlk hZ hown X' e' N (hH.extNew E' hlt)
  exact ⟨t, o, stp t (by subst hp; exact hs), r⟩
theorem r_putfield {pc' : Nat} {R0 O n d C : String} {index kk : Nat} {ty : FieldType} {a : Addr} {v v' old : Value} (hd : decode B pc = .ok (.putfield index, 3)) (hp : pc + 3 = pc') (wl : (Jvm.Cond.fieldLink own index R0 n d).before a0 Z = true) (via : Via Z R0 O n d) (F : Fld Z h a O n d old) (E : Exa Z h a C)
    (L : (Jvm.Cond.lays C O n d).before a0 Z = true ∨ ((Jvm.Cond.laysFinal C O n d).before a0 Z = true ∧ own = O ∧ nm = "<init>")) (wi : (Jvm.Cond.instantiable C kk).before a0 Z = true) (hty : parseFieldDescriptor d = some ty) (hn : narrow ty v = v') (hf : fits ty v' = true) (ge : n0 ≤ a) (S : Sf w Z h My a)
    (K : ∀ h' : Heap, Wr h h' a (Jvm.RoadKit.slotOf Z O n d) v' → Run w l Z EL n0 own nm B ret R Q Ny My h' cells slots pc' ls st) : Run w l Z EL n0 own nm B ret R Q Ny My h cells slots pc ls (v :: .ref a :: st) := by
  intro p e s m args below meth c T locs vm hx hby hml hret hnm hlk hZ hown X eT N hH
  obtain ⟨T', h', X', e', W', stp⟩ := putFN X hx hZ hown wl via eT F E (L.imp id fun q => ⟨q.1, q.2.1, hnm.trans q.2.2⟩) wi hty hn hf (g := mkF m pc ls (v :: .ref a :: st)) rfl rfl (hb hby hd)
  obtain ⟨t, o, hs, r⟩ := K h' W' p e s m args below meth c T' _ vm hx hby hml hret hnm hlk hZ hown X' e' (Fr.snoc X' N ge) (hH.keep hZ (Keep.of_wr W') (allS ⟨ge, S⟩ all0))
  exact ⟨t, o, stp t (by subst hp; exact hs), r⟩
theorem Sf.arv {w : Bool} {Z : State} {h : Heap} {My : List Addr} {a : Addr} {k : ClassId} {ty : FieldType} {z : Int32} {vs : List Value} {dv : Value} (A : Arv Z h a k ty z vs dv) (ht : ty ≠ .byte) : Sf w Z h My a := by
  obtain ⟨cl, A1, -⟩ := A
  exact Or.inr (Or.inr (Or.inr ⟨cl, ty, A1, ht⟩))
theorem Sf.exa {w : Bool} {Z : State} {h : Heap} {My : List Addr} {a : Addr} {C : String} (E : Exa Z h a C) (h1 : C ≠ "java/lang/String") (h2 : C ≠ "[B") : Sf w Z h My a := Or.inr (Or.inr (Or.inl ⟨C, E, h1, h2⟩))
theorem Sf.my {w : Bool} {Z : State} {h : Heap} {My : List Addr} {a : Addr} (q : a ∈ My) : Sf w Z h My a := Or.inr (Or.inl q)
theorem r_castore {pc' : Nat} {a : Addr} {k : ClassId} {z j x : Int32} {vs : List Value} {dv : Value} (i : Nat) (hd : decode B pc = .ok (.castore, 1)) (hp : pc + 1 = pc') (A : Arv Z h a k .char z vs dv) (hj : ¬ j < 0 ∧ j < z) (hi : j.toNatClampNeg = i) (hlen : i < vs.length) (ge : n0 ≤ a) 
    (K : ∀ h' : Heap, Wr h h' a i (.int (nar .char x)) → Arv Z h' a k .char z (vs.set i (.int (nar .char x))) dv → Run w l Z EL n0 own nm B ret R Q Ny My h' cells slots pc' ls st) : Run w l Z EL n0 own nm B ret R Q Ny My h cells slots pc ls (.int x :: .int j :: .ref a :: st) := by
  intro p e s m args below meth c T locs vm hx hby hml hret hnm hlk hZ hown X eT N hH
  obtain ⟨cl, A1, q1, S1, N1, H1, G1⟩ := id A
  obtain ⟨T', h', X', e', W', stp⟩ := stC X hx hZ eT A1 (inb_of S1 hj) (g := mkF m pc ls (.int x :: .int j :: .ref a :: st)) rfl rfl (hb hby hd)
  have S : Sf w Z h My a := Sf.arv A (by decide)
  obtain ⟨t, o, hs, r⟩ := K h' (hi ▸ W') (Arv.set A1 q1 S1 N1 H1 G1 (fits_nar_char _) W' i hi hlen) p e s m args below meth c T' _ vm hx hby hml hret hnm hlk hZ hown X' e' (Fr.snoc X' N ge) (hH.keep hZ (Keep.of_wr W') (allS ⟨ge, S⟩ all0))
  exact ⟨t, o, stp t (by subst hp; exact hs), r⟩
theorem r_bastore {pc' : Nat} {a : Addr} {k : ClassId} {z j x : Int32} {vs : List Value} {dv : Value} (i : Nat) (hd : decode B pc = .ok (.bastore, 1)) (hp : pc + 1 = pc') (A : Arv Z h a k .byte z vs dv) (hj : ¬ j < 0 ∧ j < z) (hi : j.toNatClampNeg = i) (hlen : i < vs.length) (ge : n0 ≤ a) (S : Sf w Z h My a) 
    (K : ∀ h' : Heap, Wr h h' a i (.int (nar .byte x)) → Arv Z h' a k .byte z (vs.set i (.int (nar .byte x))) dv → Run w l Z EL n0 own nm B ret R Q Ny My h' cells slots pc' ls st) : Run w l Z EL n0 own nm B ret R Q Ny My h cells slots pc ls (.int x :: .int j :: .ref a :: st) := by
  intro p e s m args below meth c T locs vm hx hby hml hret hnm hlk hZ hown X eT N hH
  obtain ⟨cl, A1, q1, S1, N1, H1, G1⟩ := id A
  obtain ⟨T', h', X', e', W', stp⟩ := stB X hx hZ eT A1 (inb_of S1 hj) (g := mkF m pc ls (.int x :: .int j :: .ref a :: st)) rfl rfl (hb hby hd)
  obtain ⟨t, o, hs, r⟩ := K h' (hi ▸ W') (Arv.set A1 q1 S1 N1 H1 G1 (fits_nar_byte _) W' i hi hlen) p e s m args below meth c T' _ vm hx hby hml hret hnm hlk hZ hown X' e' (Fr.snoc X' N ge) (hH.keep hZ (Keep.of_wr W') (allS ⟨ge, S⟩ all0))
  exact ⟨t, o, stp t (by subst hp; exact hs), r⟩
theorem r_sastore {pc' : Nat} {a : Addr} {k : ClassId} {z j x : Int32} {vs : List Value} {dv : Value} (i : Nat) (hd : decode B pc = .ok (.sastore, 1)) (hp : pc + 1 = pc') (A : Arv Z h a k .short z vs dv) (hj : ¬ j < 0 ∧ j < z) (hi : j.toNatClampNeg = i) (hlen : i < vs.length) (ge : n0 ≤ a) 
    (K : ∀ h' : Heap, Wr h h' a i (.int (nar .short x)) → Arv Z h' a k .short z (vs.set i (.int (nar .short x))) dv → Run w l Z EL n0 own nm B ret R Q Ny My h' cells slots pc' ls st) : Run w l Z EL n0 own nm B ret R Q Ny My h cells slots pc ls (.int x :: .int j :: .ref a :: st) := by
  intro p e s m args below meth c T locs vm hx hby hml hret hnm hlk hZ hown X eT N hH
  obtain ⟨cl, A1, q1, S1, N1, H1, G1⟩ := id A
  obtain ⟨T', h', X', e', W', stp⟩ := stS X hx hZ eT A1 (inb_of S1 hj) (g := mkF m pc ls (.int x :: .int j :: .ref a :: st)) rfl rfl (hb hby hd)
  have S : Sf w Z h My a := Sf.arv A (by decide)
  obtain ⟨t, o, hs, r⟩ := K h' (hi ▸ W') (Arv.set A1 q1 S1 N1 H1 G1 (fits_nar_short _) W' i hi hlen) p e s m args below meth c T' _ vm hx hby hml hret hnm hlk hZ hown X' e' (Fr.snoc X' N ge) (hH.keep hZ (Keep.of_wr W') (allS ⟨ge, S⟩ all0))
  exact ⟨t, o, stp t (by subst hp; exact hs), r⟩
theorem r_bastoreZ {pc' : Nat} {a : Addr} {k : ClassId} {z j x : Int32} {vs : List Value} {dv : Value} (i : Nat) (hd : decode B pc = .ok (.bastore, 1)) (hp : pc + 1 = pc') (A : Arv Z h a k .boolean z vs dv) (hj : ¬ j < 0 ∧ j < z) (hi : j.toNatClampNeg = i) (hlen : i < vs.length) (ge : n0 ≤ a) 
    (K : ∀ h' : Heap, Wr h h' a i (.int (nar .boolean x)) → Arv Z h' a k .boolean z (vs.set i (.int (nar .boolean x))) dv → Run w l Z EL n0 own nm B ret R Q Ny My h' cells slots pc' ls st) : Run w l Z EL n0 own nm B ret R Q Ny My h cells slots pc ls (.int x :: .int j :: .ref a :: st) := by
  intro p e s m args below meth c T locs vm hx hby hml hret hnm hlk hZ hown X eT N hH
  obtain ⟨cl, A1, q1, S1, N1, H1, G1⟩ := id A
  obtain ⟨T', h', X', e', W', stp⟩ := stZ X hx hZ eT A1 (inb_of S1 hj) (g := mkF m pc ls (.int x :: .int j :: .ref a :: st)) rfl rfl (hb hby hd)
  have S : Sf w Z h My a := Sf.arv A (by decide)
  obtain ⟨t, o, hs, r⟩ := K h' (hi ▸ W') (Arv.set A1 q1 S1 N1 H1 G1 (fits_nar_bool _) W' i hi hlen) p e s m args below meth c T' _ vm hx hby hml hret hnm hlk hZ hown X' e' (Fr.snoc X' N ge) (hH.keep hZ (Keep.of_wr W') (allS ⟨ge, S⟩ all0))
  exact ⟨t, o, stp t (by subst hp; exact hs), r⟩
theorem r_iastore {pc' : Nat} {a : Addr} {k : ClassId} {z j x : Int32} {vs : List Value} {dv : Value} (i : Nat) (hd : decode B pc = .ok (.iastore, 1)) (hp : pc + 1 = pc') (A : Arv Z h a k .int z vs dv) (hj : ¬ j < 0 ∧ j < z) (hi : j.toNatClampNeg = i) (hlen : i < vs.length) (ge : n0 ≤ a) 
    (K : ∀ h' : Heap, Wr h h' a i (.int x) → Arv Z h' a k .int z (vs.set i (.int x)) dv → Run w l Z EL n0 own nm B ret R Q Ny My h' cells slots pc' ls st) : Run w l Z EL n0 own nm B ret R Q Ny My h cells slots pc ls (.int x :: .int j :: .ref a :: st) := by
  intro p e s m args below meth c T locs vm hx hby hml hret hnm hlk hZ hown X eT N hH
  obtain ⟨cl, A1, q1, S1, N1, H1, G1⟩ := id A
  obtain ⟨T', h', X', e', W', stp⟩ := stI X hx hZ eT A1 (inb_of S1 hj) (g := mkF m pc ls (.int x :: .int j :: .ref a :: st)) rfl rfl (hb hby hd)
  have S : Sf w Z h My a := Sf.arv A (by decide)
  obtain ⟨t, o, hs, r⟩ := K h' (hi ▸ W') (Arv.set A1 q1 S1 N1 H1 G1 (rfl) W' i hi hlen) p e s m args below meth c T' _ vm hx hby hml hret hnm hlk hZ hown X' e' (Fr.snoc X' N ge) (hH.keep hZ (Keep.of_wr W') (allS ⟨ge, S⟩ all0))
  exact ⟨t, o, stp t (by subst hp; exact hs), r⟩
theorem r_aastore {pc' : Nat} {a : Addr} {k : ClassId} {ty : FieldType} {z j : Int32} {vs : List Value} {dv v : Value} (i : Nat) (hd : decode B pc = .ok (.aastore, 1)) (hp : pc + 1 = pc') (A : Arv Z h a k ty z vs dv) (hty : ty.isReference = true) (hj : ¬ j < 0 ∧ j < z) (hi : j.toNatClampNeg = i) (hlen : i < vs.length) (F : Sto Z h a v) (hv : fits ty v = true) (ge : n0 ≤ a)
    (K : ∀ h' : Heap, Wr h h' a i v → Arv Z h' a k ty z (vs.set i v) dv → Run w l Z EL n0 own nm B ret R Q Ny My h' cells slots pc' ls st) : Run w l Z EL n0 own nm B ret R Q Ny My h cells slots pc ls (v :: .int j :: .ref a :: st) := by
  intro p e s m args below meth c T locs vm hx hby hml hret hnm hlk hZ hown X eT N hH
  obtain ⟨cl, A1, q1, S1, N1, H1, G1⟩ := id A
  obtain ⟨T', h', X', e', W', stp⟩ := stR X hx hZ eT A1 (inb_of S1 hj) hty F (g := mkF m pc ls (v :: .int j :: .ref a :: st)) rfl rfl (hb hby hd)
  have S : Sf w Z h My a := Sf.arv A (fun q => by rw [q] at hty; cases hty)
  obtain ⟨t, o, hs, r⟩ := K h' (hi ▸ W') (Arv.set A1 q1 S1 N1 H1 G1 hv W' i hi hlen) p e s m args below meth c T' _ vm hx hby hml hret hnm hlk hZ hown X' e' (Fr.snoc X' N ge) (hH.keep hZ (Keep.of_wr W') (allS ⟨ge, S⟩ all0))
  exact ⟨t, o, stp t (by subst hp; exact hs), r⟩
theorem r_arraycopy {pc' index : Nat} {a b : Addr} {k k' : ClassId} {ty ty' : FieldType} {z z' sp dp nn : Int32} {vs vd us : List Value} {dv dd : Value} {W : Nat} (hd : decode B pc = .ok (.invokestatic index, 3)) (hp : pc + 3 = pc')
    (w1 : (Jvm.Cond.methodLink own index Jvm.Stand.acN).before a0 Z = true) (w2 : (Jvm.Cond.native Jvm.Stand.acN).before a0 Z = true) (w3 : (Jvm.Cond.static Jvm.Stand.acN).before a0 Z = true) (w4 : (Jvm.Cond.initialized "java/lang/System").before a0 Z = true)
    (A : Arv Z h a k ty z vs dv) (B' : Arv Z h b k' ty' z' vd dd) (hty : (ty = ty' ∧ refKind ty = false) ∨ (refKind ty = true ∧ refKind ty' = true ∧ StoL Z h b us)) (h1 : ¬ sp < 0) (h2 : ¬ dp < 0) (h3 : ¬ nn < 0) (h4 : sp.toNatClampNeg + nn.toNatClampNeg ≤ z.toNatClampNeg) (h5 : dp.toNatClampNeg + nn.toNatClampNeg ≤ z'.toNatClampNeg)
    (hus : us = (List.range nn.toNatClampNeg).map fun i => vs.getD (sp.toNatClampNeg + i) dv) (hlv : dp.toNatClampNeg + nn.toNatClampNeg ≤ vd.length) (ge : n0 ≤ b) (S : Sf w Z h My b) (hf : 1 ≤ R.frames) (hW : (st.map fun v => v.category).sum ≤ W) (hlo : W + (nativeFrameWords "java/lang/System" "arraycopy" 5 + 11) ≤ R.locals)
    (K : ∀ h' : Heap, Keep h h' [b] → Arv Z h' b k' ty' z' (vd.take dp.toNatClampNeg ++ us ++ vd.drop (dp.toNatClampNeg + nn.toNatClampNeg)) dd → Run w l Z EL n0 own nm B ret R Q Ny My h' cells slots pc' ls st) : Run w l Z EL n0 own nm B ret R Q Ny My h cells slots pc ls (.int nn :: .int dp :: .ref b :: .int sp :: .ref a :: st) := by
  intro p e s m args below meth c T locs vm hx hby hml hret hnm hlk hZ hown X eT N hH
  obtain ⟨T', h', L', X', e', N', K', A', stp⟩ := cpA X hx hZ hown w1 w2 w3 w4 eT A B' hty h1 h2 h3 h4 h5 hus hlv N ge (g := mkF m pc ls (.int nn :: .int dp :: .ref b :: .int sp :: .ref a :: st)) rfl hml.symm rfl (hb hby hd) hf (W := W) (by show 2 * 0 + _ ≤ _; omega) hlo
  obtain ⟨t, o, hs, r⟩ := K h' K' A' p e s m args below meth c T' L' vm hx hby hml hret hnm hlk hZ hown X' e' N' (hH.keep hZ K' (allS ⟨ge, S⟩ all0))
  exact ⟨t, o, stp t (by subst hp; exact hs), r⟩
/-- the end of a walk -/
theorem Run.leave {v : Option Value} (hv : ret = none → v = none) (hQ : Q v h) (hS : ∀ x ∈ Ny v, x ∈ My) (hc : cells ≤ R.cells) (hl : slots ≤ R.slots)
    (H : ∀ (p : Program) (e : Env) (s : State) (m : MethodId) (args : Array Value) (below : List Frame) (meth : Method) (c : Code) (T : State) (locs : List Loc) (fs : List Frame), p.tables.exec = Jvm.exec → c.code = B → meth.sig.returnType = ret → Stand p l e R s m args below meth c T locs cells slots →
      (∀ (f : JFrame) (acts : List Action), f.method = m → f.locked = none → f.entered = [] → (doReturn e (T.setTop f) acts v).1 = T.setFrames fs) → Steps p.tables e below (T.setTop (mkF m pc ls st)) (T.setFrames fs)) : Run w l Z EL n0 own nm B ret R Q Ny My h cells slots pc ls st := by
  intro p e s m args below meth c T locs vm hx hby hml hret hnm hlk hZ hown X eT N hH
  cases w with
  | false =>
    obtain rfl := hH.2.1 rfl
    obtain ⟨fs, hr, hrun, hended, hW, hsame⟩ := X.leave (v := v) (fun q => hv (hret ▸ q)) hlk
    exact ⟨_, _, H p e _ m args below meth c T locs fs hx hby hret X hr, hrun, hended, v, locs, rfl, (by show Q v T.heap; rw [eT]; exact hQ), N, fun _ => ⟨⟨v, rfl⟩, hW, hsame.mono hc hl⟩, fun q => (by cases q)⟩
  | true =>
    obtain ⟨hEW0, ⟨k0, hS0, hk0⟩, hC, hMy⟩ := hH.2.2 rfl
    obtain ⟨fs, hr, hrun, hended, hE⟩ := X.leaveW hS0 (by rw [eT]; exact hk0) (v := v) (fun q => hv (hret ▸ q)) hlk
    have hZT : Z.Warmed39 T.vm := wtrans (s := s.setVm vm) hZ X.warmed
    have hA : CHr Z EL vm h T.vm h := by obtain ⟨a1, hEW⟩ := hEW0; exact CHv.at X hZ hEW hC.1
    exact ⟨_, _, H p e _ m args below meth c T locs fs hx hby hret X hr, hrun, hended, v, locs, rfl, (by show Q v T.heap; rw [eT]; exact hQ), N, fun q => (by cases q), fun _ => ⟨⟨hE.1, hE.2.1, hE.2.2.1, hE.2.2.2.mono hc hl⟩, by
      show CHr Z EL s.vm s.heap T.vm T.heap
      rw [eT]; exact hC.trans hA, fun x hx => by
      show x < T.heap.size ∧ Safe Z EL T.vm T.heap x
      rw [eT]
      exact ⟨(hMy x (hS x hx)).1, hA.safe (hMy x (hS x hx)).1 (hMy x (hS x hx)).2⟩⟩⟩
theorem r_ireturn {z : Int32} (hd : decode B pc = .ok (.ireturn, 1)) (hret : ret = some .int) (hQ : Q (some (.int z)) h) (hS : ∀ x ∈ Ny (some (.int z)), x ∈ My) (hc : cells ≤ R.cells) (hl : slots ≤ R.slots) : Run w l Z EL n0 own nm B ret R Q Ny My h cells slots pc ls (.int z :: st) :=
  Run.leave (v := some (.int z)) (fun q => by rw [hret] at q; cases q) hQ hS hc hl fun p e s m args below meth c T locs fs hx hby hr X hl => retOut X hx (hr.trans hret) rfl (Or.inl ⟨rfl, Or.inl rfl, z, rfl⟩) (hb hby hd) hl
theorem r_ireturnN {z : Int32} {t : FieldType} (hd : decode B pc = .ok (.ireturn, 1)) (hret : ret = some t) (ht : t = .boolean ∨ t = .byte ∨ t = .char ∨ t = .short) (hQ : Q (some (.int (nar t z))) h) (hS : ∀ x ∈ Ny (some (.int (nar t z))), x ∈ My) (hc : cells ≤ R.cells) (hl : slots ≤ R.slots) : Run w l Z EL n0 own nm B ret R Q Ny My h cells slots pc ls (.int z :: st) :=
  Run.leave (v := some (.int (nar t z))) (fun q => by rw [hret] at q; cases q) hQ hS hc hl fun p e s m args below meth c T locs fs hx hby hr X hl => retN X hx (hr.trans hret) ht (hb hby hd) hl
theorem r_lreturn {z : Int64} (hd : decode B pc = .ok (.lreturn, 1)) (hret : ret = some .long) (hQ : Q (some (.long z)) h) (hS : ∀ x ∈ Ny (some (.long z)), x ∈ My) (hc : cells ≤ R.cells) (hl : slots ≤ R.slots) : Run w l Z EL n0 own nm B ret R Q Ny My h cells slots pc ls (.long z :: st) :=
  Run.leave (v := some (.long z)) (fun q => by rw [hret] at q; cases q) hQ hS hc hl fun p e s m args below meth c T locs fs hx hby hr X hl => retOut X hx (hr.trans hret) rfl (Or.inr (Or.inl ⟨rfl, rfl, z, rfl⟩)) (hb hby hd) hl
theorem r_areturn {v : Value} {t : FieldType} (hd : decode B pc = .ok (.areturn, 1)) (hret : ret = some t) (ht : t.isReference = true) (hv : v.isRef = true) (hn : narrow t v = v) (hQ : Q (some v) h) (hS : ∀ x ∈ Ny (some v), x ∈ My) (hc : cells ≤ R.cells) (hl : slots ≤ R.slots) : Run w l Z EL n0 own nm B ret R Q Ny My h cells slots pc ls (v :: st) :=
  Run.leave (v := some v) (fun q => by rw [hret] at q; cases q) hQ hS hc hl fun p e s m args below meth c T locs fs hx hby hr X hl => retOut X hx (hr.trans hret) hn (Or.inr (Or.inr (Or.inr (Or.inr ⟨rfl, ht, hv⟩)))) (hb hby hd) hl
theorem r_return (hd : decode B pc = .ok (.return_, 1)) (hret : ret = none) (hQ : Q none h) (hS : ∀ x ∈ Ny none, x ∈ My) (hc : cells ≤ R.cells) (hl : slots ≤ R.slots) : Run w l Z EL n0 own nm B ret R Q Ny My h cells slots pc ls [] :=
  Run.leave (v := none) (fun _ => rfl) hQ hS hc hl fun p e s m args below meth c T locs fs hx hby hr X hl => X.returnOut hx (hr.trans hret) (hb hby hd) hl
end Rules
/-- who pays a call, tables not widened -/
def Pays (l : Launch) (Z : State) (n0 : Nat) (R : Room) (y : MethodName) (len W : Nat) (as : Array Value) (h : Heap) (kc ks : Nat) (Q : Option Value → Heap → Prop) : Prop :=
  Old Z n0 h → ∀ (p : Program) (e : Env) (below : List Frame) (s : State) (args : Array Value), Z.Warmed39 s.vm →
    Back l R p e below s args y len W (fun A a => a = as ∧ A.U.heap = h ∧ A.cells + kc ≤ R.cells ∧ A.slots + ks ≤ R.slots) (fun A _ v B => ∃ L, (Q v B.U.heap ∧ Fr n0 L) ∧ B.locs = A.locs ++ L ∧ B.cells = A.cells + kc ∧ B.slots = A.slots + ks)
/-- who pays a call that may intern -/
def PaysW (l : Launch) (Z : State) (EL : List (String × Nat)) (n0 : Nat) (My : List Addr) (R : Room) (y : MethodName) (len W : Nat) (as : Array Value) (h : Heap) (kc ks : Nat) (Q : Option Value → Heap → Prop) (Ny : Option Value → List Addr) : Prop :=
  Old Z n0 h → ∀ (p : Program) (e : Env) (below : List Frame) (s : State) (args : Array Value) (vm : Vm), Z.Warmed39 vm → (∃ a0, EW Z a0 EL) → CHv Z EL vm h → (∀ x ∈ My, x < h.size ∧ Safe Z EL vm h x) →
    BackS l R p e below (s.setVm vm) args y len W (fun A a => a = as ∧ A.U.heap = h ∧ A.cells + kc ≤ R.cells ∧ A.slots + ks ≤ R.slots) (fun A _ v B => ∃ L, (Q v B.U.heap ∧ Fr n0 L) ∧ B.locs = A.locs ++ L ∧ B.cells = A.cells + kc ∧ B.slots = A.slots + ks ∧ CHr Z EL vm h B.U.vm B.U.heap ∧ ∀ x ∈ Ny v, x < B.U.heap.size ∧ Safe Z EL B.U.vm B.U.heap x)
section Calls
variable {w : Bool} {l : Launch} {Z : State} {EL : List (String × Nat)} {n0 : Nat} {own nm : String} {B : ByteArray} {ret : Option FieldType} {R : Room} {Q : Option Value → Heap → Prop} {Ny : Option Value → List Addr} {My : List Addr} {h : Heap} {cells slots pc : Nat} {ls : Array Slot} {st : List Value} {a0 : Array Value}
theorem Ok.pays {y : MethodName} {bytes : ByteArray} {maxL : Nat} {rt : Option FieldType} {rm : Room} {as : Array Value} {Qc : Option Value → Heap → Prop} {Nc : Option Value → List Addr} {len W : Nat} (O : Ok false l Z EL n0 My y bytes maxL rt rm as h Qc Nc) (wc : (Jvm.Cond.code y bytes maxL rt).before a0 Z = true) (wz : (Jvm.Cond.initialized y.cls).before a0 Z = true) (hf : rm.frames + 1 ≤ R.frames) (hl : W + (maxL + 11) + rm.locals ≤ R.locals) :
    Pays l Z n0 R y len W as h rm.cells rm.slots Qc := fun hO p e below s args hZ => by
  have hM : MetFree l y (head1 [Jvm.Cond.code y bytes maxL rt] rm) (fun a U => a = as ∧ Z.Warmed39 U.vm ∧ U.heap = h) (fun _ _ _ _ _ => True) (fun _ U o U' => ∃ v L, o = .returned v ∧ (Qc v U'.heap ∧ Fr n0 L) ∧ FrameEnd U o U' L rm.cells rm.slots) := by
    intro p e ha hc hk s m args below hf happ hP hK
    obtain ⟨n, o, h1, h2, h3, v, L, h4, h5, h6, h7, -⟩ := O [] p e ha hc hk s m args below hf happ ⟨hP.1, hP.2.1, hP.2.2, hO, fun q => by cases q⟩ hK
    exact ⟨n, o, h1, h2, h3, v, L, h4, ⟨h5, h6⟩, h7 rfl⟩
  exact backOf (Q := fun v h' L => Qc v h' ∧ Fr n0 L) hM hZ wc wz hf hl
theorem Ok.paysW {y : MethodName} {bytes : ByteArray} {maxL : Nat} {rt : Option FieldType} {rm : Room} {as : Array Value} {Qc : Option Value → Heap → Prop} {Nc : Option Value → List Addr} {len W : Nat} (O : Ok true l Z EL n0 My y bytes maxL rt rm as h Qc Nc) (wc : (Jvm.Cond.code y bytes maxL rt).before a0 Z = true) (wz : (Jvm.Cond.initialized y.cls).before a0 Z = true) (hf : rm.frames + 1 ≤ R.frames) (hl : W + (maxL + 11) + rm.locals ≤ R.locals) :
    PaysW l Z EL n0 My R y len W as h rm.cells rm.slots Qc Nc := fun hO p e below s args vm0 hZ hEL H hMy => by
  obtain ⟨a1, hEW⟩ := id hEL
  exact BackS.of_freeW (bytes := bytes) (maxL := maxL) (ret := rt) (E := fun _ first o t L k n => k = rm.cells ∧ n = rm.slots ∧ (∃ v, o = .returned v ∧ (Qc v t.heap ∧ Fr n0 L) ∧ ∀ x ∈ Nc v, x < t.heap.size ∧ Safe Z EL t.vm t.heap x) ∧ CHr Z EL first.vm first.heap t.vm t.heap) (O []) hf hl
    (fun m meth c A a Y hp => have hU : Z.Warmed39 A.U.vm := wtrans (s := s.setVm vm0) hZ Y.warmed
      ⟨by show (Cond.and _ .tt).before a A.U = true; rw [Cond.before_and, mv hU wc]; rfl, mv hU wc, mv hU wz, hp.2.2.1, hp.2.2.2⟩)
    (fun m meth c A a g mk Y hp => ⟨hp.1, wtrans (s := s.setVm vm0) hZ Y.warmed, hp.2.1, hO, fun _ => ⟨hEL, (CHv.at Y hZ hEW H).1, fun x hx => ⟨(hMy x hx).1, (CHv.at Y hZ hEW H).safe (hMy x hx).1 (hMy x hx).2⟩⟩⟩) (fun _ _ _ _ _ _ _ _ _ => trivial)
    (fun _ _ _ _ ⟨v, L, h1, h2, h3, h4⟩ => ⟨L, _, _, (h4.2 rfl).1, rfl, rfl, ⟨v, h1, ⟨h2, h3⟩, (h4.2 rfl).2.2⟩, (h4.2 rfl).2.1⟩)
    (fun m meth c A a g mk v t L k n Y hp _ _ ⟨e1, e2, ⟨v', e3, e4, e4'⟩, e5⟩ => by
      cases e3; subst e1 e2
      refine ⟨L, e4, rfl, rfl, rfl, (CHv.at Y hZ hEW H).trans ?_, e4'⟩
      rw [← hp.2.1]; exact e5)
/-- a call, narrow -/
theorem Run.call {pc' len W kc ks : Nat} {y : MethodName} {as : Array Value} {Qc : Option Value → Heap → Prop} {rest : List Value} {wl : List Addr} (hp : pc + len = pc')
    (H : ∀ (p : Program) (e : Env) (s : State) (m : MethodId) (args : Array Value) (below : List Frame) (meth : Method) (c : Code) (T : State) (locs : List Loc), p.tables.exec = Jvm.exec → c.code = B → c.maxLocals = ls.size → Z.Warmed39 s.vm → s.vm.findClass own = some m.cls → Stand p l e R s m args below meth c T locs cells slots → T.heap = h →
      ∀ (Pre : Pt → Array Value → Prop) (Post : Pt → Array Value → Option Value → Pt → Prop), Back l R p e below s args y len W Pre Post → (∀ vm₁, s.WarmedH vm₁ → Pre ⟨T.setVm vm₁, locs, cells, slots⟩ as) →
        ∃ (v : Option Value) (vm₁ : Vm) (B' : Pt), s.WarmedH vm₁ ∧ Stand p l e R s m args below meth c B'.U B'.locs B'.cells B'.slots ∧ Post ⟨T.setVm vm₁, locs, cells, slots⟩ as v B' ∧ Steps p.tables e below (T.setTop (mkF m pc ls st)) (B'.U.setTop (mkF m (pc + len) ls (v.toList ++ rest))))
    (P : Pays l Z n0 R y len W as h kc ks Qc) (hk : ∀ v h', Qc v h' → Keep h h' wl) (hs : ∀ x ∈ wl, n0 ≤ x ∧ Sf w Z h My x) (hc : cells + kc ≤ R.cells) (hl : slots + ks ≤ R.slots)
    (K : ∀ v h', Qc v h' → Run w l Z EL n0 own nm B ret R Q Ny My h' (cells + kc) (slots + ks) pc' ls (v.toList ++ rest)) : Run w l Z EL n0 own nm B ret R Q Ny My h cells slots pc ls st := by
  intro p e s m args below meth c T locs vm hx hby hml hret hnm hlk hZ hown X eT N hH
  obtain ⟨v, vm₁, ⟨U, L', c', n'⟩, -, X', ⟨L, ⟨hq, hF⟩, l1, l2, l3⟩, stp⟩ := H p e (s.setVm vm) m args below meth c T locs hx hby hml hZ hown X eT _ _ (P hH.1 p e below (s.setVm vm) args hZ) (fun vm₁ _ => ⟨rfl, eT, hc, hl⟩)
  dsimp only [Pt.U, Pt.locs, Pt.cells, Pt.slots] at X' l1 l2 l3 stp hq
  subst l1 l2 l3
  obtain ⟨t, o, hs', r⟩ := K v U.heap hq p e s m args below meth c U _ vm hx hby hml hret hnm hlk hZ hown X' rfl (Fr.app N hF) (hH.keep hZ (hk v _ hq) hs)
  exact ⟨t, o, stp.trans (by subst hp; exact hs'), r⟩
/-- a call that may intern, in a walk that may -/
theorem Run.callW {pc' len W kc ks : Nat} {y : MethodName} {as : Array Value} {Qc : Option Value → Heap → Prop} {Nc : Option Value → List Addr} {Mc : List Addr} {rest : List Value} {wl : List Addr} (hw : w = true) (hp : pc + len = pc')
    (H : ∀ (p : Program) (e : Env) (s : State) (m : MethodId) (args : Array Value) (below : List Frame) (meth : Method) (c : Code) (T : State) (locs : List Loc), p.tables.exec = Jvm.exec → c.code = B → c.maxLocals = ls.size → Z.Warmed39 s.vm → s.vm.findClass own = some m.cls → Stand p l e R s m args below meth c T locs cells slots → T.heap = h →
      ∀ (Pre : Pt → Array Value → Prop) (Post : Pt → Array Value → Option Value → Pt → Prop), BackS l R p e below s args y len W Pre Post → (∀ vm₁, s.WarmedH vm₁ → Pre ⟨T.setVm vm₁, locs, cells, slots⟩ as) →
        ∃ (v : Option Value) (vm₁ : Vm) (B' : Pt), s.WarmedH vm₁ ∧ Stand p l e R (s.setVm B'.U.vm) m args below meth c B'.U B'.locs B'.cells B'.slots ∧ s.Since B'.U.vm B'.U.heap.size ∧ T.heap.size ≤ B'.U.heap.size ∧ Post ⟨T.setVm vm₁, locs, cells, slots⟩ as v B' ∧ Steps p.tables e below (T.setTop (mkF m pc ls st)) (B'.U.setTop (mkF m (pc + len) ls (v.toList ++ rest))))
    (P : PaysW l Z EL n0 Mc R y len W as h kc ks Qc Nc) (hm : ∀ x ∈ Mc, x ∈ My) (hk : ∀ v h', Qc v h' → Keep h h' wl) (hs : ∀ x ∈ wl, n0 ≤ x) (hc : cells + kc ≤ R.cells) (hl : slots + ks ≤ R.slots)
    (K : ∀ v h', Qc v h' → Run w l Z EL n0 own nm B ret R Q Ny (Nc v ++ My) h' (cells + kc) (slots + ks) pc' ls (v.toList ++ rest)) : Run w l Z EL n0 own nm B ret R Q Ny My h cells slots pc ls st := by
  intro p e s m args below meth c T locs vm hx hby hml hret hnm hlk hZ hown X eT N hH
  obtain ⟨hEW, ⟨k0, hS0, hk0⟩, hC, hMy⟩ := hH.2.2 hw
  obtain ⟨v, vm₁, ⟨U, L', c', n'⟩, -, X', hS', hgr, ⟨L, ⟨hq, hF⟩, l1, l2, l3, hC', hN'⟩, stp⟩ := H p e (s.setVm vm) m args below meth c T locs hx hby hml hZ hown X eT _ _ (P hH.1 p e below s args vm hZ hEW hC.1 fun x hx => hMy x (hm x hx)) (fun vm₁ _ => ⟨rfl, eT, hc, hl⟩)
  dsimp only [Pt.U, Pt.locs, Pt.cells, Pt.slots] at X' l1 l2 l3 stp hq hS' hgr hC' hN'
  subst l1 l2 l3
  obtain ⟨X2, hS2, hZ2, hown2⟩ := rebS hS0 (Nat.le_trans hk0 (by rw [eT]; exact Nat.le_refl _) : k0 ≤ T.heap.size) X' hS' hgr hZ hown
  obtain ⟨t, o, hs', r⟩ := K v U.heap hq p e s m args below meth c U _ U.vm hx hby hml hret hnm hlk hZ2 hown2 X2 rfl (Fr.app N hF) ⟨hH.1.keep (hk v _ hq) hs, fun q => (by rw [hw] at q; cases q), fun _ => ⟨hEW, ⟨_, hS2, Nat.le_refl _⟩, hC.trans hC', fun x hx => by
    rcases List.mem_append.mp hx with hx | hx
    · exact hN' x hx
    · exact ⟨Nat.lt_of_lt_of_le (hMy x hx).1 (hk v _ hq).1, hC'.safe (hMy x hx).1 (hMy x hx).2⟩⟩⟩
  exact ⟨t, o, stp.trans (by subst hp; exact hs'), r⟩
theorem r_static {pc' index W kc ks : Nat} {y : MethodName} {argsL rest : List Value} {as : Array Value} {Qc : Option Value → Heap → Prop} {wl : List Addr} {bytes : ByteArray} {maxL : Nat} {rt : Option FieldType} (hd : decode B pc = .ok (.invokestatic index, 3)) (hp : pc + 3 = pc') (w1 : (Jvm.Cond.methodLink own index y).before a0 Z = true) (w2 : (Jvm.Cond.static y).before a0 Z = true) (w3 : (Jvm.Cond.initialized y.cls).before a0 Z = true) (w4 : (Jvm.Cond.code y bytes maxL rt).before a0 Z = true) (hy : y.cls ≠ "java/lang/invoke/MethodHandle" ∧ y.cls ≠ "java/lang/invoke/VarHandle") (hlen : ∀ sig, parseMethodDescriptor y.desc = some sig → argsL.length = sig.parameters.length) (hst : st = argsL.reverse ++ rest) (has : argsL.toArray = as) (hW : (rest.map fun v => v.category).sum ≤ W) (P : Pays l Z n0 R y 3 W as h kc ks Qc) (hk : ∀ v h', Qc v h' → Keep h h' wl) (hs : ∀ x ∈ wl, n0 ≤ x ∧ Sf w Z h My x) (hc : cells + kc ≤ R.cells) (hl : slots + ks ≤ R.slots)
    (K : ∀ v h', Qc v h' → Run w l Z EL n0 own nm B ret R Q Ny My h' (cells + kc) (slots + ks) pc' ls (v.toList ++ rest)) : Run w l Z EL n0 own nm B ret R Q Ny My h cells slots pc ls st :=
  Run.call (len := 3) (y := y) (as := as) hp (fun p e s m args below meth c T locs hx hby hml hZ hown X eT Pre Post hK hpre => by
    obtain ⟨v, vm₁, B', x1, x2, x3, st0⟩ := Jvm.LawKit.callS X hx hown (mvT hZ w1) (mvT hZ w2) (mvT hZ w3) (mvT hZ w4) hy hK (g := mkF m pc ls st) rfl hml.symm (argsL := argsL) (rest := rest) hlen hst (by show 2 * 0 + _ ≤ _; omega) (hb hby hd) (by rw [has]; exact hpre)
    exact ⟨v, vm₁, B', x1, x2, has ▸ x3, st0 _ (Steps.refl _)⟩) P hk hs hc hl K
theorem r_staticW {pc' index W kc ks : Nat} {y : MethodName} {argsL rest : List Value} {as : Array Value} {Qc : Option Value → Heap → Prop} {wl : List Addr} {Nc : Option Value → List Addr} {Mc : List Addr} (hw : w = true) {bytes : ByteArray} {maxL : Nat} {rt : Option FieldType} (hd : decode B pc = .ok (.invokestatic index, 3)) (hp : pc + 3 = pc') (w1 : (Jvm.Cond.methodLink own index y).before a0 Z = true) (w2 : (Jvm.Cond.static y).before a0 Z = true) (w3 : (Jvm.Cond.initialized y.cls).before a0 Z = true) (w4 : (Jvm.Cond.code y bytes maxL rt).before a0 Z = true) (hy : y.cls ≠ "java/lang/invoke/MethodHandle" ∧ y.cls ≠ "java/lang/invoke/VarHandle") (hlen : ∀ sig, parseMethodDescriptor y.desc = some sig → argsL.length = sig.parameters.length) (hst : st = argsL.reverse ++ rest) (has : argsL.toArray = as) (hW : (rest.map fun v => v.category).sum ≤ W) (P : PaysW l Z EL n0 Mc R y 3 W as h kc ks Qc Nc) (hm : ∀ x ∈ Mc, x ∈ My) (hk : ∀ v h', Qc v h' → Keep h h' wl) (hs : ∀ x ∈ wl, n0 ≤ x) (hc : cells + kc ≤ R.cells) (hl : slots + ks ≤ R.slots)
    (K : ∀ v h', Qc v h' → Run w l Z EL n0 own nm B ret R Q Ny (Nc v ++ My) h' (cells + kc) (slots + ks) pc' ls (v.toList ++ rest)) : Run w l Z EL n0 own nm B ret R Q Ny My h cells slots pc ls st :=
  Run.callW (len := 3) (y := y) (as := as) hw hp (fun p e s m args below meth c T locs hx hby hml hZ hown X eT Pre Post hK hpre => by
    obtain ⟨v, vm₁, B', x1, x2, x4, x5, x3, st0⟩ := callSS X hx hown (mvT hZ w1) (mvT hZ w2) (mvT hZ w3) (mvT hZ w4) hy hK (g := mkF m pc ls st) rfl hml.symm (argsL := argsL) (rest := rest) hlen hst (by show 2 * 0 + _ ≤ _; omega) (hb hby hd) (by rw [has]; exact hpre)
    exact ⟨v, vm₁, B', x1, x2, x4, x5, has ▸ x3, st0⟩) P hm hk hs hc hl K
theorem r_special {pc' index W kc ks : Nat} {y : MethodName} {argsL rest : List Value} {as : Array Value} {Qc : Option Value → Heap → Prop} {wl : List Addr} {bytes : ByteArray} {maxL : Nat} {a : Addr} (hd : decode B pc = .ok (.invokespecial index, 3)) (hp : pc + 3 = pc') (hi : y.name = "<init>") (w1 : (Jvm.Cond.methodLink own index y).before a0 Z = true) (w2 : (Jvm.Cond.instanceMethod y).before a0 Z = true) (w4 : (Jvm.Cond.code y bytes maxL none).before a0 Z = true) (hy : y.cls ≠ "java/lang/invoke/MethodHandle" ∧ y.cls ≠ "java/lang/invoke/VarHandle") (hlen : ∀ sig, parseMethodDescriptor y.desc = some sig → argsL.length = sig.parameters.length) (hst : st = argsL.reverse ++ .ref a :: rest) (has : (Value.ref a :: argsL).toArray = as) (hW : (rest.map fun v => v.category).sum ≤ W) (P : Pays l Z n0 R y 3 W as h kc ks Qc) (hk : ∀ v h', Qc v h' → Keep h h' wl) (hs : ∀ x ∈ wl, n0 ≤ x ∧ Sf w Z h My x) (hc : cells + kc ≤ R.cells) (hl : slots + ks ≤ R.slots)
    (K : ∀ v h', Qc v h' → Run w l Z EL n0 own nm B ret R Q Ny My h' (cells + kc) (slots + ks) pc' ls (v.toList ++ rest)) : Run w l Z EL n0 own nm B ret R Q Ny My h cells slots pc ls st :=
  Run.call (len := 3) (y := y) (as := as) hp (fun p e s m args below meth c T locs hx hby hml hZ hown X eT Pre Post hK hpre => by
    obtain ⟨v, vm₁, B', x1, x2, x3, st0⟩ := X.specialBack hx hi hown (mvT hZ w1) (mvT hZ w2) (mvT hZ w4) hy hK (g := mkF m pc ls st) rfl hml.symm (Steps.refl _) (a := a) (argsL := argsL) (rest := rest) hlen hst (by show 2 * 0 + _ ≤ _; omega) (hb hby hd) (by rw [has]; exact hpre)
    exact ⟨v, vm₁, B', x1, x2, has ▸ x3, st0⟩) P hk hs hc hl K
theorem r_specialW {pc' index W kc ks : Nat} {y : MethodName} {argsL rest : List Value} {as : Array Value} {Qc : Option Value → Heap → Prop} {wl : List Addr} {Nc : Option Value → List Addr} {Mc : List Addr} (hw : w = true) {bytes : ByteArray} {maxL : Nat} {a : Addr} (hd : decode B pc = .ok (.invokespecial index, 3)) (hp : pc + 3 = pc') (hi : y.name = "<init>") (w1 : (Jvm.Cond.methodLink own index y).before a0 Z = true) (w2 : (Jvm.Cond.instanceMethod y).before a0 Z = true) (w4 : (Jvm.Cond.code y bytes maxL none).before a0 Z = true) (hy : y.cls ≠ "java/lang/invoke/MethodHandle" ∧ y.cls ≠ "java/lang/invoke/VarHandle") (hlen : ∀ sig, parseMethodDescriptor y.desc = some sig → argsL.length = sig.parameters.length) (hst : st = argsL.reverse ++ .ref a :: rest) (has : (Value.ref a :: argsL).toArray = as) (hW : (rest.map fun v => v.category).sum ≤ W) (P : PaysW l Z EL n0 Mc R y 3 W as h kc ks Qc Nc) (hm : ∀ x ∈ Mc, x ∈ My) (hk : ∀ v h', Qc v h' → Keep h h' wl) (hs : ∀ x ∈ wl, n0 ≤ x) (hc : cells + kc ≤ R.cells) (hl : slots + ks ≤ R.slots)
    (K : ∀ v h', Qc v h' → Run w l Z EL n0 own nm B ret R Q Ny (Nc v ++ My) h' (cells + kc) (slots + ks) pc' ls (v.toList ++ rest)) : Run w l Z EL n0 own nm B ret R Q Ny My h cells slots pc ls st :=
  Run.callW (len := 3) (y := y) (as := as) hw hp (fun p e s m args below meth c T locs hx hby hml hZ hown X eT Pre Post hK hpre => by
    obtain ⟨v, vm₁, B', x1, x2, x4, x5, x3, st0⟩ := X.specialBackS hx hi hown (mvT hZ w1) (mvT hZ w2) (mvT hZ w4) hy hK (g := mkF m pc ls st) rfl hml.symm (Steps.refl _) (a := a) (argsL := argsL) (rest := rest) hlen hst (by show 2 * 0 + _ ≤ _; omega) (hb hby hd) (by rw [has]; exact hpre)
    exact ⟨v, vm₁, B', x1, x2, x4, x5, has ▸ x3, st0⟩) P hm hk hs hc hl K
theorem r_virtual {pc' index W kc ks : Nat} {y : MethodName} {argsL rest : List Value} {as : Array Value} {Qc : Option Value → Heap → Prop} {wl : List Addr} {x0 : MethodName} {C : String} {a : Addr} (hd : decode B pc = .ok (.invokevirtual index, 3)) (hp : pc + 3 = pc') (w1 : (Jvm.Cond.methodLink own index x0).before a0 Z = true) (w2 : (Jvm.Cond.declares x0).before a0 Z = true) (w3 : (Jvm.Cond.selects C x0 y).before a0 Z = true) (w4 : (Jvm.Cond.instanceMethod y).before a0 Z = true) (hy : x0.cls ≠ "java/lang/invoke/MethodHandle" ∧ x0.cls ≠ "java/lang/invoke/VarHandle") (hn : x0 = y ∧ C = x0.cls) (E : Exa Z h a C) (hlen : ∀ sig, parseMethodDescriptor x0.desc = some sig → argsL.length = sig.parameters.length) (hst : st = argsL.reverse ++ .ref a :: rest) (has : (Value.ref a :: argsL).toArray = as) (hW : (rest.map fun v => v.category).sum ≤ W) (P : Pays l Z n0 R y 3 W as h kc ks Qc) (hk : ∀ v h', Qc v h' → Keep h h' wl) (hs : ∀ x ∈ wl, n0 ≤ x ∧ Sf w Z h My x) (hc : cells + kc ≤ R.cells) (hl : slots + ks ≤ R.slots)
    (K : ∀ v h', Qc v h' → Run w l Z EL n0 own nm B ret R Q Ny My h' (cells + kc) (slots + ks) pc' ls (v.toList ++ rest)) : Run w l Z EL n0 own nm B ret R Q Ny My h cells slots pc ls st :=
  Run.call (len := 3) (y := y) (as := as) hp (fun p e s m args below meth c T locs hx hby hml hZ hown X eT Pre Post hK hpre => by
    obtain ⟨cq34, kq34, q34a, q34b, q34c⟩ := isOf hZ eT E
    obtain ⟨v, vm₁, B', x1, x2, x3, st0⟩ := X.virtualBack hx (y := x0) (z := y) hown (mvT hZ w1) (mvT hZ w2) (notFace_of_selects (args := #[]) (by obtain ⟨q1, q2⟩ := hn; subst q1 q2; exact mvT hZ w3)) (mvT hZ w3) (mvT hZ w4) hy hK q34a q34c (g := mkF m pc ls st) rfl hml.symm (Steps.refl _) (argsL := argsL) (rest := rest) hlen hst (by show 2 * 0 + _ ≤ _; omega) (hb hby hd) (by rw [has]; exact hpre)
    exact ⟨v, vm₁, B', x1, x2, has ▸ x3, st0⟩) P hk hs hc hl K
theorem r_virtualW {pc' index W kc ks : Nat} {y : MethodName} {argsL rest : List Value} {as : Array Value} {Qc : Option Value → Heap → Prop} {wl : List Addr} {Nc : Option Value → List Addr} {Mc : List Addr} (hw : w = true) {x0 : MethodName} {C : String} {a : Addr} (hd : decode B pc = .ok (.invokevirtual index, 3)) (hp : pc + 3 = pc') (w1 : (Jvm.Cond.methodLink own index x0).before a0 Z = true) (w2 : (Jvm.Cond.declares x0).before a0 Z = true) (w3 : (Jvm.Cond.selects C x0 y).before a0 Z = true) (w4 : (Jvm.Cond.instanceMethod y).before a0 Z = true) (hy : x0.cls ≠ "java/lang/invoke/MethodHandle" ∧ x0.cls ≠ "java/lang/invoke/VarHandle") (hn : x0 = y ∧ C = x0.cls) (E : Exa Z h a C) (hlen : ∀ sig, parseMethodDescriptor x0.desc = some sig → argsL.length = sig.parameters.length) (hst : st = argsL.reverse ++ .ref a :: rest) (has : (Value.ref a :: argsL).toArray = as) (hW : (rest.map fun v => v.category).sum ≤ W) (P : PaysW l Z EL n0 Mc R y 3 W as h kc ks Qc Nc) (hm : ∀ x ∈ Mc, x ∈ My) (hk : ∀ v h', Qc v h' → Keep h h' wl) (hs : ∀ x ∈ wl, n0 ≤ x) (hc : cells + kc ≤ R.cells) (hl : slots + ks ≤ R.slots)
    (K : ∀ v h', Qc v h' → Run w l Z EL n0 own nm B ret R Q Ny (Nc v ++ My) h' (cells + kc) (slots + ks) pc' ls (v.toList ++ rest)) : Run w l Z EL n0 own nm B ret R Q Ny My h cells slots pc ls st :=
  Run.callW (len := 3) (y := y) (as := as) hw hp (fun p e s m args below meth c T locs hx hby hml hZ hown X eT Pre Post hK hpre => by
    obtain ⟨cq34, kq34, q34a, q34b, q34c⟩ := isOf hZ eT E
    obtain ⟨v, vm₁, B', x1, x2, x4, x5, x3, st0⟩ := X.virtualBackS hx (y := x0) (z := y) hown (mvT hZ w1) (mvT hZ w2) (notFace_of_selects (args := #[]) (by obtain ⟨q1, q2⟩ := hn; subst q1 q2; exact mvT hZ w3)) (mvT hZ w3) (mvT hZ w4) hy hK q34a q34c (g := mkF m pc ls st) rfl hml.symm (Steps.refl _) (argsL := argsL) (rest := rest) hlen hst (by show 2 * 0 + _ ≤ _; omega) (hb hby hd) (by rw [has]; exact hpre)
    exact ⟨v, vm₁, B', x1, x2, x4, x5, has ▸ x3, st0⟩) P hm hk hs hc hl K
theorem r_virtualU {pc' index W kc ks : Nat} {y : MethodName} {argsL rest : List Value} {as : Array Value} {Qc : Option Value → Heap → Prop} {wl : List Addr} {x0 : MethodName} {C : String} {a : Addr} {S0 : String} (hd : decode B pc = .ok (.invokevirtual index, 3)) (hp : pc + 3 = pc') (w1 : (Jvm.Cond.methodLink own index x0).before a0 Z = true) (w2 : (Jvm.Cond.declares x0).before a0 Z = true) (w3 : (Jvm.Cond.selects C x0 y).before a0 Z = true) (w4 : (Jvm.Cond.instanceMethod y).before a0 Z = true) (hy : x0.cls ≠ "java/lang/invoke/MethodHandle" ∧ x0.cls ≠ "java/lang/invoke/VarHandle") (hn : (Jvm.Cond.superclass x0.cls S0).before a0 Z = true) (E : Exa Z h a C) (hlen : ∀ sig, parseMethodDescriptor x0.desc = some sig → argsL.length = sig.parameters.length) (hst : st = argsL.reverse ++ .ref a :: rest) (has : (Value.ref a :: argsL).toArray = as) (hW : (rest.map fun v => v.category).sum ≤ W) (P : Pays l Z n0 R y 3 W as h kc ks Qc) (hk : ∀ v h', Qc v h' → Keep h h' wl) (hs : ∀ x ∈ wl, n0 ≤ x ∧ Sf w Z h My x) (hc : cells + kc ≤ R.cells) (hl : slots + ks ≤ R.slots)
    (K : ∀ v h', Qc v h' → Run w l Z EL n0 own nm B ret R Q Ny My h' (cells + kc) (slots + ks) pc' ls (v.toList ++ rest)) : Run w l Z EL n0 own nm B ret R Q Ny My h cells slots pc ls st :=
  Run.call (len := 3) (y := y) (as := as) hp (fun p e s m args below meth c T locs hx hby hml hZ hown X eT Pre Post hK hpre => by
    obtain ⟨cq34, kq34, q34a, q34b, q34c⟩ := isOf hZ eT E
    obtain ⟨v, vm₁, B', x1, x2, x3, st0⟩ := X.virtualBack hx (y := x0) (z := y) hown (mvT hZ w1) (mvT hZ w2) (nf_super (args := #[]) (mvT hZ hn)) (mvT hZ w3) (mvT hZ w4) hy hK q34a q34c (g := mkF m pc ls st) rfl hml.symm (Steps.refl _) (argsL := argsL) (rest := rest) hlen hst (by show 2 * 0 + _ ≤ _; omega) (hb hby hd) (by rw [has]; exact hpre)
    exact ⟨v, vm₁, B', x1, x2, has ▸ x3, st0⟩) P hk hs hc hl K
theorem r_virtualUW {pc' index W kc ks : Nat} {y : MethodName} {argsL rest : List Value} {as : Array Value} {Qc : Option Value → Heap → Prop} {wl : List Addr} {Nc : Option Value → List Addr} {Mc : List Addr} (hw : w = true) {x0 : MethodName} {C : String} {a : Addr} {S0 : String} (hd : decode B pc = .ok (.invokevirtual index, 3)) (hp : pc + 3 = pc') (w1 : (Jvm.Cond.methodLink own index x0).before a0 Z = true) (w2 : (Jvm.Cond.declares x0).before a0 Z = true) (w3 : (Jvm.Cond.selects C x0 y).before a0 Z = true) (w4 : (Jvm.Cond.instanceMethod y).before a0 Z = true) (hy : x0.cls ≠ "java/lang/invoke/MethodHandle" ∧ x0.cls ≠ "java/lang/invoke/VarHandle") (hn : (Jvm.Cond.superclass x0.cls S0).before a0 Z = true) (E : Exa Z h a C) (hlen : ∀ sig, parseMethodDescriptor x0.desc = some sig → argsL.length = sig.parameters.length) (hst : st = argsL.reverse ++ .ref a :: rest) (has : (Value.ref a :: argsL).toArray = as) (hW : (rest.map fun v => v.category).sum ≤ W) (P : PaysW l Z EL n0 Mc R y 3 W as h kc ks Qc Nc) (hm : ∀ x ∈ Mc, x ∈ My) (hk : ∀ v h', Qc v h' → Keep h h' wl) (hs : ∀ x ∈ wl, n0 ≤ x) (hc : cells + kc ≤ R.cells) (hl : slots + ks ≤ R.slots)
    (K : ∀ v h', Qc v h' → Run w l Z EL n0 own nm B ret R Q Ny (Nc v ++ My) h' (cells + kc) (slots + ks) pc' ls (v.toList ++ rest)) : Run w l Z EL n0 own nm B ret R Q Ny My h cells slots pc ls st :=
  Run.callW (len := 3) (y := y) (as := as) hw hp (fun p e s m args below meth c T locs hx hby hml hZ hown X eT Pre Post hK hpre => by
    obtain ⟨cq34, kq34, q34a, q34b, q34c⟩ := isOf hZ eT E
    obtain ⟨v, vm₁, B', x1, x2, x4, x5, x3, st0⟩ := X.virtualBackS hx (y := x0) (z := y) hown (mvT hZ w1) (mvT hZ w2) (nf_super (args := #[]) (mvT hZ hn)) (mvT hZ w3) (mvT hZ w4) hy hK q34a q34c (g := mkF m pc ls st) rfl hml.symm (Steps.refl _) (argsL := argsL) (rest := rest) hlen hst (by show 2 * 0 + _ ≤ _; omega) (hb hby hd) (by rw [has]; exact hpre)
    exact ⟨v, vm₁, B', x1, x2, x4, x5, has ▸ x3, st0⟩) P hm hk hs hc hl K
theorem r_virtualUp {pc' index W kc ks : Nat} {y : MethodName} {argsL rest : List Value} {as : Array Value} {Qc : Option Value → Heap → Prop} {wl : List Addr} {x0 : MethodName} {C owner : String} {a : Addr} (hd : decode B pc = .ok (.invokevirtual index, 3)) (hp : pc + 3 = pc') (w1 : (Jvm.Cond.methodLink own index x0).before a0 Z = true) (w5 : (Jvm.Cond.sameMethod x0.cls owner x0.name x0.desc).before a0 Z = true) (w2 : (Jvm.Cond.declares ⟨owner, x0.name, x0.desc⟩).before a0 Z = true) (hy : owner ≠ "java/lang/invoke/MethodHandle" ∧ owner ≠ "java/lang/invoke/VarHandle") (w3 : (Jvm.Cond.selects C x0 y).before a0 Z = true) (w4 : (Jvm.Cond.instanceMethod y).before a0 Z = true) (E : Exa Z h a C) (hlen : ∀ sig, parseMethodDescriptor x0.desc = some sig → argsL.length = sig.parameters.length) (hst : st = argsL.reverse ++ .ref a :: rest) (has : (Value.ref a :: argsL).toArray = as) (hW : (rest.map fun v => v.category).sum ≤ W) (P : Pays l Z n0 R y 3 W as h kc ks Qc) (hk : ∀ v h', Qc v h' → Keep h h' wl) (hs : ∀ x ∈ wl, n0 ≤ x ∧ Sf w Z h My x) (hc : cells + kc ≤ R.cells) (hl : slots + ks ≤ R.slots)
    (K : ∀ v h', Qc v h' → Run w l Z EL n0 own nm B ret R Q Ny My h' (cells + kc) (slots + ks) pc' ls (v.toList ++ rest)) : Run w l Z EL n0 own nm B ret R Q Ny My h cells slots pc ls st :=
  Run.call (len := 3) (y := y) (as := as) hp (fun p e s m args below meth c T locs hx hby hml hZ hown X eT Pre Post hK hpre => by
    obtain ⟨cq34, kq34, q34a, q34b, q34c⟩ := isOf hZ eT E
    obtain ⟨v, vm₁, B', x1, x2, x3, st0⟩ := X.virtualBackUp hx (x := x0) (y := y) hown (mvT hZ w1) (mvT hZ w5) (mvT hZ w2) hy (mvT hZ w3) (mvT hZ w4) hK q34a q34c (g := mkF m pc ls st) rfl hml.symm (Steps.refl _) (argsL := argsL) (rest := rest) hlen hst (by show 2 * 0 + _ ≤ _; omega) (hb hby hd) (by rw [has]; exact hpre)
    exact ⟨v, vm₁, B', x1, x2, has ▸ x3, st0⟩) P hk hs hc hl K
theorem r_virtualUpW {pc' index W kc ks : Nat} {y : MethodName} {argsL rest : List Value} {as : Array Value} {Qc : Option Value → Heap → Prop} {wl : List Addr} {Nc : Option Value → List Addr} {Mc : List Addr} (hw : w = true) {x0 : MethodName} {C owner : String} {a : Addr} (hd : decode B pc = .ok (.invokevirtual index, 3)) (hp : pc + 3 = pc') (w1 : (Jvm.Cond.methodLink own index x0).before a0 Z = true) (w5 : (Jvm.Cond.sameMethod x0.cls owner x0.name x0.desc).before a0 Z = true) (w2 : (Jvm.Cond.declares ⟨owner, x0.name, x0.desc⟩).before a0 Z = true) (hy : owner ≠ "java/lang/invoke/MethodHandle" ∧ owner ≠ "java/lang/invoke/VarHandle") (w3 : (Jvm.Cond.selects C x0 y).before a0 Z = true) (w4 : (Jvm.Cond.instanceMethod y).before a0 Z = true) (E : Exa Z h a C) (hlen : ∀ sig, parseMethodDescriptor x0.desc = some sig → argsL.length = sig.parameters.length) (hst : st = argsL.reverse ++ .ref a :: rest) (has : (Value.ref a :: argsL).toArray = as) (hW : (rest.map fun v => v.category).sum ≤ W) (P : PaysW l Z EL n0 Mc R y 3 W as h kc ks Qc Nc) (hm : ∀ x ∈ Mc, x ∈ My) (hk : ∀ v h', Qc v h' → Keep h h' wl) (hs : ∀ x ∈ wl, n0 ≤ x) (hc : cells + kc ≤ R.cells) (hl : slots + ks ≤ R.slots)
    (K : ∀ v h', Qc v h' → Run w l Z EL n0 own nm B ret R Q Ny (Nc v ++ My) h' (cells + kc) (slots + ks) pc' ls (v.toList ++ rest)) : Run w l Z EL n0 own nm B ret R Q Ny My h cells slots pc ls st :=
  Run.callW (len := 3) (y := y) (as := as) hw hp (fun p e s m args below meth c T locs hx hby hml hZ hown X eT Pre Post hK hpre => by
    obtain ⟨cq34, kq34, q34a, q34b, q34c⟩ := isOf hZ eT E
    obtain ⟨v, vm₁, B', x1, x2, x4, x5, x3, st0⟩ := X.virtualBackUpS hx (x := x0) (y := y) hown (mvT hZ w1) (mvT hZ w5) (mvT hZ w2) hy (mvT hZ w3) (mvT hZ w4) hK q34a q34c (g := mkF m pc ls st) rfl hml.symm (Steps.refl _) (argsL := argsL) (rest := rest) hlen hst (by show 2 * 0 + _ ≤ _; omega) (hb hby hd) (by rw [has]; exact hpre)
    exact ⟨v, vm₁, B', x1, x2, x4, x5, has ▸ x3, st0⟩) P hm hk hs hc hl K
theorem r_private {pc' index W kc ks : Nat} {y : MethodName} {argsL rest : List Value} {as : Array Value} {Qc : Option Value → Heap → Prop} {wl : List Addr} {bytes : ByteArray} {maxL : Nat} {rt : Option FieldType} {C : String} {a : Addr} (hd : decode B pc = .ok (.invokevirtual index, 3)) (hp : pc + 3 = pc') (w1 : (Jvm.Cond.methodLink own index y).before a0 Z = true) (w2 : (Jvm.Cond.instanceMethod y).before a0 Z = true) (w3 : (Jvm.Cond.selects y.cls y y).before a0 Z = true) (w5 : (Jvm.Cond.privateMethod y).before a0 Z = true) (w4 : (Jvm.Cond.code y bytes maxL rt).before a0 Z = true) (hy : y.cls ≠ "java/lang/invoke/MethodHandle" ∧ y.cls ≠ "java/lang/invoke/VarHandle") (E : Exa Z h a C) (hlen : ∀ sig, parseMethodDescriptor y.desc = some sig → argsL.length = sig.parameters.length) (hst : st = argsL.reverse ++ .ref a :: rest) (has : (Value.ref a :: argsL).toArray = as) (hW : (rest.map fun v => v.category).sum ≤ W) (P : Pays l Z n0 R y 3 W as h kc ks Qc) (hk : ∀ v h', Qc v h' → Keep h h' wl) (hs : ∀ x ∈ wl, n0 ≤ x ∧ Sf w Z h My x) (hc : cells + kc ≤ R.cells) (hl : slots + ks ≤ R.slots)
    (K : ∀ v h', Qc v h' → Run w l Z EL n0 own nm B ret R Q Ny My h' (cells + kc) (slots + ks) pc' ls (v.toList ++ rest)) : Run w l Z EL n0 own nm B ret R Q Ny My h cells slots pc ls st :=
  Run.call (len := 3) (y := y) (as := as) hp (fun p e s m args below meth c T locs hx hby hml hZ hown X eT Pre Post hK hpre => by
    obtain ⟨cel, ce1, ce2⟩ := E.cell
    obtain ⟨v, vm₁, B', x1, x2, x3, st0⟩ := X.privateBack hx hown (mvT hZ w1) (mvT hZ w2) (mvT hZ w3) (Cond.privateMethod_at (mvP (args := #[]) hZ w5)) (mvT hZ w4) hy hK (g := mkF m pc ls st) rfl hml.symm (Steps.refl _) (a := a) (cell := cel) (by rw [eT]; exact ce1) ce2 (argsL := argsL) (rest := rest) hlen hst (by show 2 * 0 + _ ≤ _; omega) (hb hby hd) (by rw [has]; exact hpre)
    exact ⟨v, vm₁, B', x1, x2, has ▸ x3, st0⟩) P hk hs hc hl K
theorem r_privateW {pc' index W kc ks : Nat} {y : MethodName} {argsL rest : List Value} {as : Array Value} {Qc : Option Value → Heap → Prop} {wl : List Addr} {Nc : Option Value → List Addr} {Mc : List Addr} (hw : w = true) {bytes : ByteArray} {maxL : Nat} {rt : Option FieldType} {C : String} {a : Addr} (hd : decode B pc = .ok (.invokevirtual index, 3)) (hp : pc + 3 = pc') (w1 : (Jvm.Cond.methodLink own index y).before a0 Z = true) (w2 : (Jvm.Cond.instanceMethod y).before a0 Z = true) (w3 : (Jvm.Cond.selects y.cls y y).before a0 Z = true) (w5 : (Jvm.Cond.privateMethod y).before a0 Z = true) (w4 : (Jvm.Cond.code y bytes maxL rt).before a0 Z = true) (hy : y.cls ≠ "java/lang/invoke/MethodHandle" ∧ y.cls ≠ "java/lang/invoke/VarHandle") (E : Exa Z h a C) (hlen : ∀ sig, parseMethodDescriptor y.desc = some sig → argsL.length = sig.parameters.length) (hst : st = argsL.reverse ++ .ref a :: rest) (has : (Value.ref a :: argsL).toArray = as) (hW : (rest.map fun v => v.category).sum ≤ W) (P : PaysW l Z EL n0 Mc R y 3 W as h kc ks Qc Nc) (hm : ∀ x ∈ Mc, x ∈ My) (hk : ∀ v h', Qc v h' → Keep h h' wl) (hs : ∀ x ∈ wl, n0 ≤ x) (hc : cells + kc ≤ R.cells) (hl : slots + ks ≤ R.slots)
    (K : ∀ v h', Qc v h' → Run w l Z EL n0 own nm B ret R Q Ny (Nc v ++ My) h' (cells + kc) (slots + ks) pc' ls (v.toList ++ rest)) : Run w l Z EL n0 own nm B ret R Q Ny My h cells slots pc ls st :=
  Run.callW (len := 3) (y := y) (as := as) hw hp (fun p e s m args below meth c T locs hx hby hml hZ hown X eT Pre Post hK hpre => by
    obtain ⟨cel, ce1, ce2⟩ := E.cell
    obtain ⟨v, vm₁, B', x1, x2, x4, x5, x3, st0⟩ := X.privateBackS hx hown (mvT hZ w1) (mvT hZ w2) (mvT hZ w3) (Cond.privateMethod_at (mvP (args := #[]) hZ w5)) (mvT hZ w4) hy hK (g := mkF m pc ls st) rfl hml.symm (Steps.refl _) (a := a) (cell := cel) (by rw [eT]; exact ce1) ce2 (argsL := argsL) (rest := rest) hlen hst (by show 2 * 0 + _ ≤ _; omega) (hb hby hd) (by rw [has]; exact hpre)
    exact ⟨v, vm₁, B', x1, x2, x4, x5, has ▸ x3, st0⟩) P hm hk hs hc hl K
theorem r_interface {pc' index W kc ks : Nat} {y : MethodName} {argsL rest : List Value} {as : Array Value} {Qc : Option Value → Heap → Prop} {wl : List Addr} {x0 : MethodName} {C : String} {a : Addr} {count : Nat} (hd : decode B pc = .ok (.invokeinterface index count, 5)) (hp : pc + 5 = pc') (w1 : (Jvm.Cond.methodLink own index x0).before a0 Z = true) (w2 : (Jvm.Cond.declares x0).before a0 Z = true) (w5 : (Jvm.Cond.interfaceMethod x0.cls x0.cls x0.name x0.desc).before a0 Z = true) (hd5 : ((Jvm.Cond.interfaceMethod x0.cls x0.cls x0.name x0.desc).onTables && (Jvm.Cond.interfaceMethod x0.cls x0.cls x0.name x0.desc).keepsFace) = true) (w3 : (Jvm.Cond.selects C x0 y).before a0 Z = true) (w4 : (Jvm.Cond.instanceMethod y).before a0 Z = true) (w6 : (Jvm.Cond.publicMethod y).before a0 Z = true) (w7 : (Jvm.Cond.unhidden C x0.name x0.desc).before a0 Z = true) (w8 : (Jvm.Cond.castable C x0.cls).before a0 Z = true) (hy : x0.cls ≠ "java/lang/invoke/MethodHandle" ∧ x0.cls ≠ "java/lang/invoke/VarHandle") (E : Exa Z h a C) (hlen : ∀ sig, parseMethodDescriptor x0.desc = some sig → argsL.length = sig.parameters.length) (hst : st = argsL.reverse ++ .ref a :: rest) (has : (Value.ref a :: argsL).toArray = as) (hW : (rest.map fun v => v.category).sum ≤ W) (P : Pays l Z n0 R y 5 W as h kc ks Qc) (hk : ∀ v h', Qc v h' → Keep h h' wl) (hs : ∀ x ∈ wl, n0 ≤ x ∧ Sf w Z h My x) (hc : cells + kc ≤ R.cells) (hl : slots + ks ≤ R.slots)
    (K : ∀ v h', Qc v h' → Run w l Z EL n0 own nm B ret R Q Ny My h' (cells + kc) (slots + ks) pc' ls (v.toList ++ rest)) : Run w l Z EL n0 own nm B ret R Q Ny My h cells slots pc ls st :=
  Run.call (len := 5) (y := y) (as := as) hp (fun p e s m args below meth c T locs hx hby hml hZ hown X eT Pre Post hK hpre => by
    obtain ⟨cq34, kq34, q34a, q34b, q34c⟩ := isOf hZ eT E
    obtain ⟨v, vm₁, B', x1, x2, x3, st0⟩ := X.interfaceBack hx (xi := x0) (y := y) hown (mvT hZ w1) (mvT hZ w2) (mvT hZ w5 hd5) (mvT hZ w3) (mvT hZ w4) (mvT hZ w6) (mvT hZ w7) (mvT hZ w8) hy hK q34a q34b q34c (g := mkF m pc ls st) rfl hml.symm (Steps.refl _) (argsL := argsL) (rest := rest) hlen hst (by show 2 * 0 + _ ≤ _; omega) (hb hby hd) (by rw [has]; exact hpre)
    exact ⟨v, vm₁, B', x1, x2, has ▸ x3, st0⟩) P hk hs hc hl K
theorem r_interfaceW {pc' index W kc ks : Nat} {y : MethodName} {argsL rest : List Value} {as : Array Value} {Qc : Option Value → Heap → Prop} {wl : List Addr} {Nc : Option Value → List Addr} {Mc : List Addr} (hw : w = true) {x0 : MethodName} {C : String} {a : Addr} {count : Nat} (hd : decode B pc = .ok (.invokeinterface index count, 5)) (hp : pc + 5 = pc') (w1 : (Jvm.Cond.methodLink own index x0).before a0 Z = true) (w2 : (Jvm.Cond.declares x0).before a0 Z = true) (w5 : (Jvm.Cond.interfaceMethod x0.cls x0.cls x0.name x0.desc).before a0 Z = true) (hd5 : ((Jvm.Cond.interfaceMethod x0.cls x0.cls x0.name x0.desc).onTables && (Jvm.Cond.interfaceMethod x0.cls x0.cls x0.name x0.desc).keepsFace) = true) (w3 : (Jvm.Cond.selects C x0 y).before a0 Z = true) (w4 : (Jvm.Cond.instanceMethod y).before a0 Z = true) (w6 : (Jvm.Cond.publicMethod y).before a0 Z = true) (w7 : (Jvm.Cond.unhidden C x0.name x0.desc).before a0 Z = true) (w8 : (Jvm.Cond.castable C x0.cls).before a0 Z = true) (hy : x0.cls ≠ "java/lang/invoke/MethodHandle" ∧ x0.cls ≠ "java/lang/invoke/VarHandle") (E : Exa Z h a C) (hlen : ∀ sig, parseMethodDescriptor x0.desc = some sig → argsL.length = sig.parameters.length) (hst : st = argsL.reverse ++ .ref a :: rest) (has : (Value.ref a :: argsL).toArray = as) (hW : (rest.map fun v => v.category).sum ≤ W) (P : PaysW l Z EL n0 Mc R y 5 W as h kc ks Qc Nc) (hm : ∀ x ∈ Mc, x ∈ My) (hk : ∀ v h', Qc v h' → Keep h h' wl) (hs : ∀ x ∈ wl, n0 ≤ x) (hc : cells + kc ≤ R.cells) (hl : slots + ks ≤ R.slots)
    (K : ∀ v h', Qc v h' → Run w l Z EL n0 own nm B ret R Q Ny (Nc v ++ My) h' (cells + kc) (slots + ks) pc' ls (v.toList ++ rest)) : Run w l Z EL n0 own nm B ret R Q Ny My h cells slots pc ls st :=
  Run.callW (len := 5) (y := y) (as := as) hw hp (fun p e s m args below meth c T locs hx hby hml hZ hown X eT Pre Post hK hpre => by
    obtain ⟨cq34, kq34, q34a, q34b, q34c⟩ := isOf hZ eT E
    obtain ⟨v, vm₁, B', x1, x2, x4, x5, x3, st0⟩ := X.interfaceBackS hx (xi := x0) (y := y) hown (mvT hZ w1) (mvT hZ w2) (mvT hZ w5 hd5) (mvT hZ w3) (mvT hZ w4) (mvT hZ w6) (mvT hZ w7) (mvT hZ w8) hy hK q34a q34b q34c (g := mkF m pc ls st) rfl hml.symm (Steps.refl _) (argsL := argsL) (rest := rest) hlen hst (by show 2 * 0 + _ ≤ _; omega) (hb hby hd) (by rw [has]; exact hpre)
    exact ⟨v, vm₁, B', x1, x2, x4, x5, has ▸ x3, st0⟩) P hm hk hs hc hl K
/-- ldc of a String constant that is held, read -/
theorem r_ldcS {pc' : Nat} {index : Nat} {text : String} {vs : List Value} {z : Int32} {n : Nat} (hw : w = true) (hd : decode B pc = .ok (.ldc index, 2)) (hp : pc + 2 = pc') (wl : (Jvm.Cond.stringLink own index text).before a0 Z = true) (wS : ∀ a ∈ Bundle.stringAtoms, a.before a0 Z = true) (hmem : (own, index) ∈ EL)
    (ht : (∀ c ∈ text.toList, c.toNat < 256) ∧ text.toList.map (fun c => Value.int (Jvm.Lit.byteI c.toNat.toUInt16)) = vs) (hz : ¬ z < 0) (hl : z.toNatClampNeg = vs.length) (hn : 4 * text.toList.length ≤ n) (hbig : n ≤ 536870912) (hc : cells + 2 ≤ R.cells) (hl' : slots + (n + 4) ≤ R.slots)
    (K : ∀ (h' : Heap) (a b : Addr) (k : ClassId), Ext h h' → Exa Z h' a "java/lang/String" → Fld Z h' a "java/lang/String" "coder" "B" (.int 0) → Fld Z h' a "java/lang/String" "value" "[B" (.ref b) → Arv Z h' b k .byte z vs (.int 0) → (∀ x ∈ My, x ≠ a ∧ x ≠ b) → Run w l Z EL n0 own nm B ret R Q Ny My h' (cells + 2) (slots + (n + 4)) pc' ls (.ref a :: st)) : Run w l Z EL n0 own nm B ret R Q Ny My h cells slots pc ls st := by
  intro p e s m args below meth c T locs vm hx hby hml hret hnm hlk hZ hown X eT N hH
  obtain ⟨hEW0, ⟨k0, hS0, hk0⟩, hC, hMy⟩ := hH.2.2 hw
  obtain ⟨a1, hEW⟩ := id hEW0
  have hEWa : EW Z a0 EL := fun q hq => by obtain ⟨t, h1, h2⟩ := hEW q hq; exact ⟨t, h1, h2⟩
  obtain ⟨a, T', h', k1, b, k, X', e', E', hS', hk', hZ', hown', A1, C1, V1, K1, la, lb, hC', -, hne, stp⟩ := ldcCH X hx hZ hown wl wS eT hS0 hk0 hEWa hmem hC.1 ht hz hl (g := mkF m pc ls st) rfl (hb hby hd) hn hbig hc hl'
  have hmy : ∀ x ∈ My, x < h'.size ∧ Safe Z EL T'.vm h' x := fun x hx => ⟨Nat.lt_of_lt_of_le (hMy x hx).1 E'.1, hC'.safe (hMy x hx).1 (hMy x hx).2⟩
  obtain ⟨t, o, hs, r⟩ := K h' a b k E' A1 C1 V1 K1 (fun x hx => hne x (hmy x hx).2) p e s m args below meth c T' locs T'.vm hx hby hml hret hnm hlk hZ' hown' X' e' N ⟨hH.1.ext E', fun q => (by rw [hw] at q; cases q), fun _ => ⟨hEW0, ⟨k1, hS', hk'⟩, hC.trans hC', hmy⟩⟩
  exact ⟨t, o, stp t (by subst hp; exact hs), r⟩
/-- from a walk to the contract -/
theorem Ok.of_run {y : MethodName} {bytes : ByteArray} {maxL : Nat} {rt : Option FieldType} {rm : Room} {as : Array Value} {Qc : Option Value → Heap → Prop} {Nc : Option Value → List Addr} {ls0 : Array Slot} (hy : plainFor y = true) (hef : ∀ m, entryFrame m as maxL = mkF m 0 ls0 []) (hsz : maxL = ls0.size)
    (r : Run w l Z EL n0 y.cls y.name bytes rt rm Qc Nc My h 0 0 0 ls0 []) : Ok w l Z EL n0 My y bytes maxL rt rm as h Qc Nc := by
  intro ws
  refine MetFree.of_bodySF hy hisR ?_
  intro p e s m args below meth c s₁ Bd hml0 hP hK
  obtain ⟨rfl, hZ, hh, hO, hw⟩ := hP
  have hml : c.maxLocals = maxL := hml0
  have hown : s.vm.findClass y.cls = some m.cls := findClass_of_methodNamed Bd.named
  have hnm := (name_of_methodNamed Bd.named Bd.method).1
  have X0 : Stand p l e rm s m args below meth c s₁ [] 0 0 := Stand.of_body Bd
  have e0 : s₁.heap = h := by rw [← hh, Bd.state]; rfl
  obtain ⟨t, o, hs, h1, h2, v, L, h3, h4, h5, h6⟩ := r p e s m args below meth c s₁ [] s.vm Bd.exec Bd.bytes (hml.trans hsz) Bd.returns hnm Bd.notSynchronized hZ hown X0 e0 (Fr.nil n0) ⟨hO, fun _ => rfl, fun q => by
    obtain ⟨a, b, c⟩ := hw q
    exact ⟨a, ⟨s.heap.size, (State.WarmedH.refl s).since _, by rw [hh]; exact Nat.le_refl _⟩, by rw [hh]; exact CHr.refl b, c⟩⟩
  exact ⟨t, o, castTop (hef m) hs, h1, h2, v, L, h3, h4, h5, h6⟩
end Calls
end Jvm.OwnKit
namespace Jvm.OwnKit
open Jvm Jvm.ClassFile Sem Op Lib Jvm.Free Jvm.Stand Jvm.LawKit Jvm.RoadKit Bundle
/-- the bytes of a Latin-1 text, as values -/
abbrev bv (cs : List Int32) : List Value := (cs.map (fun c => c.toInt8.toInt32)).map Value.int
/-- a compact String with these chars: its array is at t -/
def Str (Z : State) (h : Heap) (a t : Addr) (cs : List Int32) : Prop :=
  Exa Z h a "java/lang/String" ∧ Fld Z h a "java/lang/String" "coder" "B" (.int 0) ∧ Fld Z h a "java/lang/String" "value" "[B" (.ref t) ∧ (∃ kb, Arv Z h t kb .byte (Int32.ofNat cs.length) (bv cs) (.int 0)) ∧ (cs ≠ [] → Exa Z h t "[B")
/-- every char from 0 to 255 -/
def Lat (cs : List Int32) : Prop := ∀ c ∈ cs, ¬ c < 0 ∧ ¬ (255 : Int32) < c
/-- the object that is returned -/
def refs : Option Value → List Addr
  | some (.ref a) => [a]
  | _ => []
theorem ofNat_in {i n : Nat} (h : i < n) (hn : n < 2 ^ 31) : ¬ Int32.ofNat i < 0 ∧ Int32.ofNat i < Int32.ofNat n := by
  have e1 : (Int32.ofNat i).toInt = i := Int32.toInt_ofNat_of_lt (by omega)
  have e2 : (Int32.ofNat n).toInt = n := Int32.toInt_ofNat_of_lt (by omega)
  have e3 : (0 : Int32).toInt = 0 := rfl
  constructor
  · rw [Int32.lt_iff_toInt_lt, e1, e3]; omega
  · rw [Int32.lt_iff_toInt_lt, e1, e2]; omega
theorem ofNat_nlt {i n : Nat} (h : n ≤ i) (hi : i < 2 ^ 31) : ¬ Int32.ofNat i < Int32.ofNat n := by
  have e1 : (Int32.ofNat i).toInt = i := Int32.toInt_ofNat_of_lt (by omega)
  have e2 : (Int32.ofNat n).toInt = n := Int32.toInt_ofNat_of_lt (by omega)
  rw [Int32.lt_iff_toInt_lt, e1, e2]; omega
theorem ofNat_cl {i : Nat} (h : i < 2 ^ 31) : (Int32.ofNat i).toNatClampNeg = i := Int32.toNatClampNeg_ofNat_of_lt h
theorem getD_map (bs : List Int32) (i : Nat) : (bs.map Value.int).getD i (.int 0) = .int (bs.getD i 0) := by
  simp only [List.getD_eq_getElem?_getD, List.getElem?_map]
  cases bs[i]? <;> rfl
/-- the polynomial of the bytes, read without sign -/
def hsh (r : Int32) (bs : List Int32) : Int32 := bs.foldl (fun r b => 31 * r + (b &&& 255)) r
theorem hsh_drop {bs : List Int32} {i : Nat} (h : i < bs.length) (r : Int32) : hsh r (bs.drop i) = hsh (31 * r + (bs.getD i 0 &&& 255)) (bs.drop (i + 1)) := by
  rw [List.drop_eq_getElem_cons h, List.getD_eq_getElem?_getD, List.getElem?_eq_getElem h]
  rfl
theorem ns_root {Z : State} {a0 : Array Value} {O K : String} {n : Nat} (w : (Jvm.Cond.noSuperclass O).before a0 Z = true) (wi : (Jvm.Cond.instantiable K n).before a0 Z = true) (hn : O ≠ K) : NS Z O K := by
  obtain ⟨c, k, h1, h2, h3, -, -⟩ := Cond.noSuperclass_spec w
  obtain ⟨t, kt, g1, -⟩ := Cond.instantiable_spec wi
  have ne := ids_ne h1 g1 hn
  refine ⟨c, t, h1, g1, fun fuel => ?_⟩
  cases fuel with
  | zero => rfl
  | succ f => simp [Vm.isSubclassAux, ne, h2, h3]
theorem ns_no {Z : State} {a0 : Array Value} {C S K : String} {n : Nat} (w : (Jvm.Cond.superclass C S).before a0 Z = true) (wi : (Jvm.Cond.instantiable K n).before a0 Z = true) (nn : NS Z C K) (hn : C ≠ K) : ∃ c t, Z.vm.findClass C = some c ∧ Z.vm.findClass K = some t ∧ Z.vm.assignable c t = false := by
  obtain ⟨c, t, h0, g0, n3⟩ := nn
  obtain ⟨p, k, kp, h1, h2, h3, h4, h5, -, h7⟩ := Cond.superclass_spec h0 w
  obtain ⟨t', kt, g1, g2, g5, g7, -⟩ := Cond.instantiable_spec wi
  cases g0.symm.trans g1
  have ne := ids_ne h0 g0 hn
  have g7' : kt.isInterface = false := by
    rcases Bool.eq_false_or_eq_true kt.isInterface with q | q
    · rw [q] at g7; cases g7
    · exact q
  refine ⟨c, t, h0, g0, ?_⟩
  show Z.vm.assignableAux (255 + 1) c t = false
  simp [Vm.assignableAux, ne, h2, g2, h5, g5, g7', Vm.isSubclass, n3]
section Str
variable {Z : State} {h h' : Heap} {a t x : Addr} {cs : List Int32} {ws : List Addr} {sl : Nat} {v : Value} {a0 : Array Value}
theorem Str.exa (F : Str Z h a t cs) : Exa Z h a "java/lang/String" := F.1
theorem Str.coder (F : Str Z h a t cs) : Fld Z h a "java/lang/String" "coder" "B" (.int 0) := F.2.1
theorem Str.value (F : Str Z h a t cs) : Fld Z h a "java/lang/String" "value" "[B" (.ref t) := F.2.2.1
theorem Str.arv (F : Str Z h a t cs) : ∃ kb, Arv Z h t kb .byte (Int32.ofNat cs.length) (bv cs) (.int 0) := F.2.2.2.1
theorem Str.lt (F : Str Z h a t cs) : a < h.size := F.1.lt
theorem Str.ltB (F : Str Z h a t cs) : t < h.size := by obtain ⟨kb, K⟩ := F.arv; exact K.lt
theorem Str.ext (E : Ext h h') (F : Str Z h a t cs) : Str Z h' a t cs := by
  obtain ⟨f1, f2, f3, ⟨kb, f4⟩, f5⟩ := F
  exact ⟨f1.ext E, f2.ext E, f3.ext E, ⟨kb, f4.ext E⟩, fun q => (f5 q).ext E⟩
theorem Str.keep (F : Str Z h a t cs) (K : Keep h h' ws) (q1 : a ∉ ws) (q2 : t ∉ ws) : Str Z h' a t cs := by
  obtain ⟨f1, f2, f3, ⟨kb, f4⟩, f5⟩ := F
  exact ⟨f1.keep K, f2.keep K q1, f3.keep K q1, ⟨kb, f4.keep K q2⟩, fun q => (f5 q).keep K⟩
theorem Str.other (W : Wr h h' x sl v) (F : Str Z h a t cs) (q1 : a ≠ x) (q2 : t ≠ x) : Str Z h' a t cs := F.keep (Keep.of_wr W) (ninS q1 nin0) (ninS q2 nin0)
/-- its array is no such object -/
theorem Str.neB {C : String} {n : Nat} (F : Str Z h a t cs) (E : Exa Z h x C) (w : (Jvm.Cond.instantiable C n).before a0 Z = true) : t ≠ x := by
  obtain ⟨kb, K⟩ := F.arv
  exact (E.neArv K w).symm
theorem Exa.bytes {kb : ClassId} {n : Int32} {vs : List Value} {dv : Value} (K : Arv Z h t kb .byte n vs dv) (hk : Z.vm.findClass "[B" = some kb) : Exa Z h t "[B" := by
  obtain ⟨c, A, q, -⟩ := K
  obtain ⟨A1, ⟨p1, k, p2, comp, p3⟩, A3⟩ := id A
  exact ⟨c, k, A1, by rw [q]; exact hk, p2, A.plain, fun o => by rw [o] at p3; cases p3⟩
end Str
end Jvm.OwnKit
/- laws to paste: Road.backV, Road.eqW, Road.codOf (cut by pick.py; bodies as the Statement names them) -/
namespace Jvm.Pilot.@@N@@
namespace StrChars
open Jvm Sem ClassFile Op Lib Jvm.Stand Jvm.Free.XT Jvm.Free.ALB Jvm.Free.JM Jvm.Free
open Jvm.Lib.Cold (StaticIs)
/-- a char array whose places are chars -/
def Ch (a : Addr) (A : Cell) (U : State) : Prop := Arr .char a A U ∧ Typed .char A
theorem Ch.mv {a : Addr} {A : Cell} {U U' : State} (h : Ch a A U) (hal : U.vm.Alike U'.vm) (hh : U'.heap = U.heap) : Ch a A U' := ⟨h.1.mv hal hh, h.2⟩
theorem Ch.keep {a : Addr} {A : Cell} {U U' : State} (h : Ch a A U) (hal : U.vm.Alike U'.vm) (hk : U'.heap[a]? = some A) : Ch a A U' := ⟨h.1.keep hal hk, h.2⟩
/-- what place i of a char[]'s cell holds -/
def cv (A : Cell) (i : Nat) : Int32 := match A.slots[i]? with | some (.int x) => x | _ => 0
theorem Ch.get {a : Addr} {A : Cell} {U : State} (h : Ch a A U) {i : Nat} (hi : i < A.slots.size) : A.slots[i]? = some (.int (cv A i)) := by
  have e := Array.getElem?_eq_getElem hi
  have f := h.2 i _ e
  unfold cv; rw [e]
  generalize A.slots[i] = v at f
  cases v <;> simp [fits] at f ⊢
/-- the byte that i2b leaves of a char -/
def lo8 (x : Int32) : Int32 := x.toInt8.toInt32
theorem fits_lo8 (y : Int32) : fits .byte (.int (lo8 y)) = true := by
  have h1 := y.toInt8.le_toInt
  have h2 := y.toInt8.toInt_lt
  simp only [lo8, fits, Bool.and_eq_true, decide_eq_true_eq, Int32.le_iff_toInt_le, Int8.toInt_toInt32, show (-128 : Int32).toInt = -128 from by decide, show (127 : Int32).toInt = 127 from by decide]
  omega
/-- A' is A but that each place j of lo .. hi - 1 holds f j -/
def Laid (A A' : Cell) (lo hi : Nat) (f : Nat → Value) : Prop := A'.cls = A.cls ∧ A'.vm = A.vm ∧ A'.slots.size = A.slots.size ∧ ∀ i, A'.slots[i]? = if lo ≤ i ∧ i < hi then some (f i) else A.slots[i]?
theorem Laid.zero (A : Cell) (lo : Nat) (f : Nat → Value) : Laid A A lo (lo + 0) f := ⟨rfl, rfl, rfl, fun i => by rw [if_neg (by omega)]⟩
theorem Laid.step {A Ak : Cell} {lo k : Nat} {f : Nat → Value} {v : Value} (h : Laid A Ak lo k f) (hlo : lo ≤ k) (hk : k < Ak.slots.size) (hv : v = f k) : Laid A (Ak.setSlot k v) lo (k + 1) f := by
  refine ⟨h.1, h.2.1, by simpa [Cell.setSlot] using h.2.2.1, fun i => ?_⟩
  by_cases e : k = i
  · subst e; rw [Cell.slots_setSlot_self v hk, if_pos (by omega), hv]
  · rw [Cell.slots_setSlot_ne v e, h.2.2.2 i]
    by_cases q : lo ≤ i ∧ i < k
    · rw [if_pos q, if_pos (by omega)]
    · rw [if_neg q, if_neg (by omega)]
def U16 : String := "java/lang/StringUTF16"
namespace Cmp5
def yN : MethodName := ⟨"java/lang/StringUTF16", "compress", "([CI[BII)I"⟩
abbrev yB : ByteArray := jdk_52_method_21_code
theorem d0 : decode yB 0 = .ok (.iconst 0, 1) := by decide +kernel
theorem d1 : decode yB 1 = .ok (.istore 5, 2) := by decide +kernel
theorem d3 : decode yB 3 = .ok (.iload 5, 2) := by decide +kernel
theorem d5 : decode yB 5 = .ok (.iload 4, 2) := by decide +kernel
theorem d7 : decode yB 7 = .ok (.if_icmp (.ge) 37, 3) := by decide +kernel
theorem d10 : decode yB 10 = .ok (.aload_n 0, 1) := by decide +kernel
theorem d11 : decode yB 11 = .ok (.iload_n 1, 1) := by decide +kernel
theorem d12 : decode yB 12 = .ok (.caload, 1) := by decide +kernel
theorem d13 : decode yB 13 = .ok (.istore 6, 2) := by decide +kernel
theorem d15 : decode yB 15 = .ok (.iload 6, 2) := by decide +kernel
theorem d17 : decode yB 17 = .ok (.sipush 255, 3) := by decide +kernel
theorem d20 : decode yB 20 = .ok (.if_icmp (.le) 6, 3) := by decide +kernel
theorem d26 : decode yB 26 = .ok (.aload_n 2, 1) := by decide +kernel
theorem d27 : decode yB 27 = .ok (.iload_n 3, 1) := by decide +kernel
theorem d28 : decode yB 28 = .ok (.iload 6, 2) := by decide +kernel
theorem d30 : decode yB 30 = .ok (.i2b, 1) := by decide +kernel
theorem d31 : decode yB 31 = .ok (.bastore, 1) := by decide +kernel
theorem d32 : decode yB 32 = .ok (.iinc 1 1, 3) := by decide +kernel
theorem d35 : decode yB 35 = .ok (.iinc 3 1, 3) := by decide +kernel
theorem d38 : decode yB 38 = .ok (.iinc 5 1, 3) := by decide +kernel
theorem d41 : decode yB 41 = .ok (.goto (-38), 3) := by decide +kernel
theorem d44 : decode yB 44 = .ok (.iload 4, 2) := by decide +kernel
theorem d46 : decode yB 46 = .ok (.ireturn, 1) := by decide +kernel
def site : List Cond := []
def tab : Cond := tabOf yN yB 7 (some .int) site
def P (b : Addr) (A : Cell) (d : Addr) (B : Cell) (o q len : Nat) (args : Array Value) (s : State) : Prop := args = #[.ref b, .int (Int32.ofNat o), .ref d, .int (Int32.ofNat q), .int (Int32.ofNat len)] ∧ Ch b A s ∧ Arr .byte d B s ∧ b ≠ d ∧ o + len ≤ A.slots.size ∧ q + len ≤ B.slots.size ∧ ∀ i, i < len → ¬ 255 < cv A (o + i)
def E (b : Addr) (A : Cell) (d : Addr) (B : Cell) (o q len : Nat) (r : Option Value) (s u : State) : Prop := r = some (.int (Int32.ofNat len)) ∧ ∃ B', Put d B' s u ∧ Laid B B' q (q + len) (fun j => Value.int (lo8 (cv A (o + (j - q)))))
/-- no char of the range above 255: len; the places written hold each char's low byte -/
theorem law (l : Launch) (b : Addr) (A : Cell) (d : Addr) (B : Cell) (o q len : Nat) : Law l yN 5 5 0 0 yB 7 (some .int) site (P b A d B o q len) (E b A d B o q len) (copyLocs d q len) 0 0 := by
  refine Law.of_walk (plainFor_of_name (by decide +kernel)) (by decide +kernel) (by decide +kernel) (by decide) (fun _ _ h => by rw [h.1]; rfl) (fun _ U U' hal hh h => ⟨h.1, h.2.1.mv hal hh, h.2.2.1.mv hal hh, h.2.2.2⟩) (fun r U U' V V' h1 hal h2 h => ⟨h.1, h.2.elim fun B' q => ⟨B', q.1.mv h1 h2, q.2⟩⟩) ?_
  intro p e s m args below meth c s₁ X0 hexec hbytes hml hret hlk hnm hown hh0 W hP
  obtain ⟨rfl, hA, hB, hne, l1, l2, hp⟩ := hP
  have c1 : Steps p.tables e below (s₁.setTop (entryFrame m #[.ref b, .int (Int32.ofNat o), .ref d, .int (Int32.ofNat q), .int (Int32.ofNat len)] 7)) (s₁.setTop (mkF m 0 #[.val (.ref b), .val (.int (Int32.ofNat o)), .val (.ref d), .val (.int (Int32.ofNat q)), .val (.int (Int32.ofNat len)), .unset, .unset] [])) := entry rfl
  have hA0 := hA.1.mv X0.warmed.alike hh0
  have hB0 := hB.mv X0.warmed.alike hh0
  have a31 := hA.1.2.2.2
  have c2 : Steps p.tables e below (s₁.setTop (entryFrame m #[.ref b, .int (Int32.ofNat o), .ref d, .int (Int32.ofNat q), .int (Int32.ofNat len)] 7)) (s₁.setTop (mkF m 3 #[.val (.ref b), .val (.int (Int32.ofNat o)), .val (.ref d), .val (.int (Int32.ofNat q)), .val (.int (Int32.ofNat len)), .val (.int 0), .unset] [])) := c1.trans (by
    refine iconstV X0.here hexec rfl 0 (hb hbytes d0) (by decide) ?_
    refine XS.istore X0.here hexec rfl (hb hbytes d1) rfl rfl ?_
    exact Steps.refl _)
  have loop : ∀ (r i : Nat), i + r = len → ∀ (z : Slot), (z = .unset ∨ ∃ w, z = .val w ∧ w.category = 1) → ∀ (Tl : State) (Bk : Cell), Stand p l e { frames := 0, locals := 0, cells := 0, slots := 0 } s m #[.ref b, .int (Int32.ofNat o), .ref d, .int (Int32.ofNat q), .int (Int32.ofNat len)] below meth c Tl ([] ++ copyLocs d q i) 0 0 → Put d Bk s₁ Tl → Laid B Bk q (q + i) (fun j => Value.int (lo8 (cv A (o + (j - q))))) →
      Steps p.tables e below (s₁.setTop (entryFrame m #[.ref b, .int (Int32.ofNat o), .ref d, .int (Int32.ofNat q), .int (Int32.ofNat len)] 7)) (Tl.setTop (mkF m 3 #[.val (.ref b), .val (.int (Int32.ofNat (o + i))), .val (.ref d), .val (.int (Int32.ofNat (q + i))), .val (.int (Int32.ofNat len)), .val (.int (Int32.ofNat i)), z] [])) → ∃ (T' : State) (B' : Cell) (z' : Slot), Stand p l e { frames := 0, locals := 0, cells := 0, slots := 0 } s m #[.ref b, .int (Int32.ofNat o), .ref d, .int (Int32.ofNat q), .int (Int32.ofNat len)] below meth c T' ([] ++ copyLocs d q len) 0 0 ∧ Put d B' s₁ T' ∧ Laid B B' q (q + len) (fun j => Value.int (lo8 (cv A (o + (j - q))))) ∧
      Steps p.tables e below (s₁.setTop (entryFrame m #[.ref b, .int (Int32.ofNat o), .ref d, .int (Int32.ofNat q), .int (Int32.ofNat len)] 7)) (T'.setTop (mkF m 3 #[.val (.ref b), .val (.int (Int32.ofNat (o + len))), .val (.ref d), .val (.int (Int32.ofNat (q + len))), .val (.int (Int32.ofNat len)), .val (.int (Int32.ofNat len)), z'] [])) := by
    intro r
    induction r with
    | zero =>
      intro i hi z hz Tl Bk Xl pl fl cl
      have hil : i = len := by omega
      rw [hil] at Xl fl cl
      exact ⟨Tl, Bk, z, Xl, pl, fl, cl⟩
    | succ r ih =>
      intro i hi z hz Tl Bk Xl pl fl cl
      have all := X0.warmed.alike.symm.trans Xl.warmed.alike
      have hAl := hA0.keep all (pl.other hne hA0.1)
      have hBk := hB0.like all pl.1 fl.1 fl.2.1 fl.2.2.1
      have hlt : q + i < Bk.slots.size := by rw [fl.2.2.1]; omega
      have c3 : Steps p.tables e below (s₁.setTop (entryFrame m #[.ref b, .int (Int32.ofNat o), .ref d, .int (Int32.ofNat q), .int (Int32.ofNat len)] 7)) (Tl.setTop (mkF m 12 #[.val (.ref b), .val (.int (Int32.ofNat (o + i))), .val (.ref d), .val (.int (Int32.ofNat (q + i))), .val (.int (Int32.ofNat len)), .val (.int (Int32.ofNat i)), z] [.int (Int32.ofNat (o + i)), .ref b])) := cl.trans (by
        refine XS.iload Xl.here hexec rfl (hb hbytes d3) rfl ?_
        refine XS.iload Xl.here hexec rfl (hb hbytes d5) rfl ?_
        refine XS.icmpNo Xl.here hexec rfl (hb hbytes d7) rfl (ii_ge_f (lt32 (by omega) (by omega))) ?_
        refine XS.aloadN Xl.here hexec rfl (hb hbytes d10) rfl rfl ?_
        refine XS.iloadN Xl.here hexec rfl (hb hbytes d11) rfl ?_
        exact Steps.refl _)
      have c4 : Steps p.tables e below (s₁.setTop (entryFrame m #[.ref b, .int (Int32.ofNat o), .ref d, .int (Int32.ofNat q), .int (Int32.ofNat len)] 7)) (Tl.setTop (mkF m 13 #[.val (.ref b), .val (.int (Int32.ofNat (o + i))), .val (.ref d), .val (.int (Int32.ofNat (q + i))), .val (.int (Int32.ofNat len)), .val (.int (Int32.ofNat i)), z] [.int (cv A (o + i))])) := c3.trans (by
        refine Xl.aget hexec hAl rfl (hA.get (i := o + i) (by omega)) rfl rfl (hb hbytes d12) ?_
        exact Steps.refl _)
      have c5 : Steps p.tables e below (s₁.setTop (entryFrame m #[.ref b, .int (Int32.ofNat o), .ref d, .int (Int32.ofNat q), .int (Int32.ofNat len)] 7)) (Tl.setTop (mkF m 15 #[.val (.ref b), .val (.int (Int32.ofNat (o + i))), .val (.ref d), .val (.int (Int32.ofNat (q + i))), .val (.int (Int32.ofNat len)), .val (.int (Int32.ofNat i)), .val (.int (cv A (o + i)))] [])) := c4.trans (by
        refine XS.istoreS Xl.here hexec rfl (hb hbytes d13) rfl rfl hz ?_
        exact Steps.refl _)
      have c6 : Steps p.tables e below (s₁.setTop (entryFrame m #[.ref b, .int (Int32.ofNat o), .ref d, .int (Int32.ofNat q), .int (Int32.ofNat len)] 7)) (Tl.setTop (mkF m 31 #[.val (.ref b), .val (.int (Int32.ofNat (o + i))), .val (.ref d), .val (.int (Int32.ofNat (q + i))), .val (.int (Int32.ofNat len)), .val (.int (Int32.ofNat i)), .val (.int (cv A (o + i)))] [.int (lo8 (cv A (o + i))), .int (Int32.ofNat (q + i)), .ref d])) := c5.trans (by
        refine XS.iload Xl.here hexec rfl (hb hbytes d15) rfl ?_
        refine sipushV Xl.here hexec rfl 255 (hb hbytes d17) (by decide) ?_
        refine XS.icmpYes Xl.here hexec rfl (pc0 := 20) rfl (hb hbytes d20) rfl (ii_le_t (hp i (by omega))) (by decide) rfl ?_
        refine XS.aloadN Xl.here hexec rfl (hb hbytes d26) rfl rfl ?_
        refine XS.iloadN Xl.here hexec rfl (hb hbytes d27) rfl ?_
        refine XS.iload Xl.here hexec rfl (hb hbytes d28) rfl ?_
        refine i2b Xl.here hexec rfl (hb hbytes d30) rfl ?_
        exact Steps.refl _)
      obtain ⟨T7, X7, p7, st7⟩ := Xl.aput hexec hBk rfl hlt rfl (fits_lo8 (cv A (o + i))) (g := (mkF m 31 #[.val (.ref b), .val (.int (Int32.ofNat (o + i))), .val (.ref d), .val (.int (Int32.ofNat (q + i))), .val (.int (Int32.ofNat len)), .val (.int (Int32.ofNat i)), .val (.int (cv A (o + i)))] [.int (lo8 (cv A (o + i))), .int (Int32.ofNat (q + i)), .ref d])) rfl (rest := []) rfl (hb hbytes d31)
      have c8 : Steps p.tables e below (s₁.setTop (entryFrame m #[.ref b, .int (Int32.ofNat o), .ref d, .int (Int32.ofNat q), .int (Int32.ofNat len)] 7)) (T7.setTop (mkF m 32 #[.val (.ref b), .val (.int (Int32.ofNat (o + i))), .val (.ref d), .val (.int (Int32.ofNat (q + i))), .val (.int (Int32.ofNat len)), .val (.int (Int32.ofNat i)), .val (.int (cv A (o + i)))] [])) := c6.trans (st7 _ (Steps.refl _))
      have c9 : Steps p.tables e below (s₁.setTop (entryFrame m #[.ref b, .int (Int32.ofNat o), .ref d, .int (Int32.ofNat q), .int (Int32.ofNat len)] 7)) (T7.setTop (mkF m 3 #[.val (.ref b), .val (.int (Int32.ofNat (o + i) + 1)), .val (.ref d), .val (.int (Int32.ofNat (q + i) + 1)), .val (.int (Int32.ofNat len)), .val (.int (Int32.ofNat i + 1)), .val (.int (cv A (o + i)))] [])) := c8.trans (by
        refine iincV X7.here hexec rfl 1 (hb hbytes d32) (by decide) rfl rfl ?_
        refine iincV X7.here hexec rfl 1 (hb hbytes d35) (by decide) rfl rfl ?_
        refine iincV X7.here hexec rfl 1 (hb hbytes d38) (by decide) rfl rfl ?_
        refine XS.goto X7.here hexec rfl (pc0 := 41) rfl (hb hbytes d41) (by decide) rfl ?_
        exact Steps.refl _)
      have c10 : Steps p.tables e below (s₁.setTop (entryFrame m #[.ref b, .int (Int32.ofNat o), .ref d, .int (Int32.ofNat q), .int (Int32.ofNat len)] 7)) (T7.setTop (mkF m 3 #[.val (.ref b), .val (.int (Int32.ofNat (o + (i + 1)))), .val (.ref d), .val (.int (Int32.ofNat (q + (i + 1)))), .val (.int (Int32.ofNat len)), .val (.int (Int32.ofNat (i + 1))), .val (.int (cv A (o + i)))] [])) := by
        have := c9
        rw [succ32, succ32, succ32] at this
        exact this
      exact ih (i + 1) (by omega) _ (Or.inr ⟨_, rfl, rfl⟩) T7 _ (by rw [copyLocs_step, ← List.append_assoc]; exact X7) (pl.trans p7) (fl.step (by omega) hlt (by simp)) c10
  obtain ⟨T9, B9, z9, X9, p9, f9, g9⟩ := loop len 0 (by omega) .unset (Or.inl rfl) s₁ B (by simpa [copyLocs] using X0) ⟨hB0.1, fun _ _ => rfl, rfl⟩ (Laid.zero _ _ _) c2
  have c11 : Steps p.tables e below (s₁.setTop (entryFrame m #[.ref b, .int (Int32.ofNat o), .ref d, .int (Int32.ofNat q), .int (Int32.ofNat len)] 7)) (T9.setTop (mkF m 46 #[.val (.ref b), .val (.int (Int32.ofNat (o + len))), .val (.ref d), .val (.int (Int32.ofNat (q + len))), .val (.int (Int32.ofNat len)), .val (.int (Int32.ofNat len)), z9] [.int (Int32.ofNat len)])) := g9.trans (by
    refine XS.iload X9.here hexec rfl (hb hbytes d3) rfl ?_
    refine XS.iload X9.here hexec rfl (hb hbytes d5) rfl ?_
    refine XS.icmpYes X9.here hexec rfl (pc0 := 7) rfl (hb hbytes d7) rfl (ii_ge_t (nlt32 (by omega) (Nat.le_refl _))) (by decide) rfl ?_
    refine XS.iload X9.here hexec rfl (hb hbytes d44) rfl ?_
    exact Steps.refl _)
  exact ⟨T9, some (.int (Int32.ofNat len)), _, _, _, X9, by simp, rfl, rfl, (fun h => by cases h), ⟨rfl, B9, p9.from hh0, f9⟩, fun fs hl => c11.trans (X9.ireturnOut hexec hret rfl (Or.inl rfl) (hb hbytes d46) hl)⟩
end Cmp5
namespace Cmp3
def yN : MethodName := ⟨"java/lang/StringUTF16", "compress", "([CII)[B"⟩
abbrev yB : ByteArray := jdk_52_method_16_code
theorem d0 : decode yB 0 = .ok (.iload_n 2, 1) := by decide +kernel
theorem d1 : decode yB 1 = .ok (.newarray .byte, 2) := by decide +kernel
theorem d3 : decode yB 3 = .ok (.astore_n 3, 1) := by decide +kernel
theorem d4 : decode yB 4 = .ok (.aload_n 0, 1) := by decide +kernel
theorem d5 : decode yB 5 = .ok (.iload_n 1, 1) := by decide +kernel
theorem d6 : decode yB 6 = .ok (.aload_n 3, 1) := by decide +kernel
theorem d7 : decode yB 7 = .ok (.iconst 0, 1) := by decide +kernel
theorem d8 : decode yB 8 = .ok (.iload_n 2, 1) := by decide +kernel
theorem d9 : decode yB 9 = .ok (.invokestatic 115, 3) := by decide +kernel
theorem d12 : decode yB 12 = .ok (.istore 4, 2) := by decide +kernel
theorem d14 : decode yB 14 = .ok (.iload 4, 2) := by decide +kernel
theorem d16 : decode yB 16 = .ok (.iload_n 2, 1) := by decide +kernel
theorem d17 : decode yB 17 = .ok (.if_icmp (.eq) 40, 3) := by decide +kernel
theorem d57 : decode yB 57 = .ok (.aload_n 3, 1) := by decide +kernel
theorem d58 : decode yB 58 = .ok (.areturn, 1) := by decide +kernel
def site : List Cond := [.arrayClass .byte, Cmp5.tab] ++ staticW U16 115 Cmp5.yN
def tab : Cond := tabOf yN yB 6 (some (.array .byte)) site
def P (b : Addr) (A : Cell) (o len : Nat) (args : Array Value) (s : State) : Prop := args = #[.ref b, .int (Int32.ofNat o), .int (Int32.ofNat len)] ∧ Ch b A s ∧ o + len ≤ A.slots.size ∧ len ≤ 536870912 ∧ ∀ i, i < len → ¬ 255 < cv A (o + i)
def E (b : Addr) (A : Cell) (o len : Nat) (r : Option Value) (s u : State) : Prop := NewArr .byte "[B" len (fun j => .int (lo8 (cv A (o + j)))) r s u ∧ u.heap.size = s.heap.size + 1
/-- no char of the range above 255: a new byte[] of their low bytes -/
theorem law (l : Launch) (b : Addr) (A : Cell) (o len : Nat) : Law l yN 3 3 1 18 yB 6 (some (.array .byte)) site (P b A o len) (E b A o len) [] 1 len := by
  refine Law.of_walk (plainFor_of_name (by decide +kernel)) (by decide +kernel) (by decide +kernel) (by decide) (fun _ _ h => by rw [h.1]; rfl) (fun _ U U' hal hh h => ⟨h.1, h.2.1.mv hal hh, h.2.2⟩) (fun r U U' V V' h1 hal h2 h => ⟨NewArr.mv r U U' V V' h1 hal h2 h.1, by rw [h1, h2]; exact h.2⟩) ?_
  intro p e s m args below meth c s₁ X0 hexec hbytes hml hret hlk hnm hown hh0 W hP
  obtain ⟨rfl, hA, l1, l2, hp⟩ := hP
  have a31 := hA.1.2.2.2
  have c1 : Steps p.tables e below (s₁.setTop (entryFrame m #[.ref b, .int (Int32.ofNat o), .int (Int32.ofNat len)] 6)) (s₁.setTop (mkF m 0 #[.val (.ref b), .val (.int (Int32.ofNat o)), .val (.int (Int32.ofNat len)), .unset, .unset, .unset] [])) := entry rfl
  have c2 : Steps p.tables e below (s₁.setTop (entryFrame m #[.ref b, .int (Int32.ofNat o), .int (Int32.ofNat len)] 6)) (s₁.setTop (mkF m 1 #[.val (.ref b), .val (.int (Int32.ofNat o)), .val (.int (Int32.ofNat len)), .unset, .unset, .unset] [.int (Int32.ofNat len)])) := c1.trans (by
    refine XS.iloadN X0.here hexec rfl (hb hbytes d0) rfl ?_
    exact Steps.refl _)
  obtain ⟨T3, B3, X3, ba3, bs3, bv3, bh3, bf3, st3⟩ := X0.anew hexec (atype := .byte) (wk W (.arrayClass .byte)) rfl (by show len * 1 ≤ _; omega) (by omega) (g := (mkF m 1 #[.val (.ref b), .val (.int (Int32.ofNat o)), .val (.int (Int32.ofNat len)), .unset, .unset, .unset] [.int (Int32.ofNat len)])) rfl (hb hbytes d1) (rest := []) rfl (Nat.le_refl _) (by show 0 + len ≤ len; omega)
  rw [hh0] at ba3 st3
  have kp3 : XT.Kept s T3 := (XT.Kept.of_eq hh0).push bh3
  have hA3 := hA.keep X3.warmed.alike (kp3 _ _ hA.1.1)
  have hne : b ≠ s.heap.size := hA.1.ne
  have c4 : Steps p.tables e below (s₁.setTop (entryFrame m #[.ref b, .int (Int32.ofNat o), .int (Int32.ofNat len)] 6)) (T3.setTop (mkF m 3 #[.val (.ref b), .val (.int (Int32.ofNat o)), .val (.int (Int32.ofNat len)), .unset, .unset, .unset] [.ref s.heap.size])) := c2.trans (st3 _ (Steps.refl _))
  have c5 : Steps p.tables e below (s₁.setTop (entryFrame m #[.ref b, .int (Int32.ofNat o), .int (Int32.ofNat len)] 6)) (T3.setTop (mkF m 9 #[.val (.ref b), .val (.int (Int32.ofNat o)), .val (.int (Int32.ofNat len)), .val (.ref s.heap.size), .unset, .unset] [.int (Int32.ofNat len), .int 0, .ref s.heap.size, .int (Int32.ofNat o), .ref b])) := c4.trans (by
    refine XS.astoreN X3.here hexec rfl (hb hbytes d3) rfl rfl rfl ?_
    refine XS.aloadN X3.here hexec rfl (hb hbytes d4) rfl rfl ?_
    refine XS.iloadN X3.here hexec rfl (hb hbytes d5) rfl ?_
    refine XS.aloadN X3.here hexec rfl (hb hbytes d6) rfl rfl ?_
    refine iconstV X3.here hexec rfl 0 (hb hbytes d7) (by decide) ?_
    refine XS.iloadN X3.here hexec rfl (hb hbytes d8) rfl ?_
    exact Steps.refl _)
  obtain ⟨v6, T6, X6, E6, g6⟩ := X3.callS hexec (Cmp5.law l b A s.heap.size B3 o 0 len) hown (wks W (staticW U16 115 Cmp5.yN)) (wk W Cmp5.tab) (W := 0) (Nat.le_of_ble_eq_true rfl) (Nat.le_of_ble_eq_true rfl) (Nat.le_refl _) (by show 0 + len + 0 ≤ len; omega) (g := (mkF m 9 #[.val (.ref b), .val (.int (Int32.ofNat o)), .val (.int (Int32.ofNat len)), .val (.ref s.heap.size), .unset, .unset] [.int (Int32.ofNat len), .int (Int32.ofNat 0), .ref s.heap.size, .int (Int32.ofNat o), .ref b])) rfl (by rw [hml]; rfl) c5 (argsL := [.ref b, .int (Int32.ofNat o), .ref s.heap.size, .int (Int32.ofNat 0), .int (Int32.ofNat len)]) (rest := []) rfl rfl (by show 2 * 0 + 0 ≤ _; decide) (hb hbytes d9) (⟨rfl, hA3, ba3, hne, l1, by rw [bs3]; simp, hp⟩)
  obtain ⟨rfl, B6, p6, f6⟩ := E6
  have c7 : Steps p.tables e below (s₁.setTop (entryFrame m #[.ref b, .int (Int32.ofNat o), .int (Int32.ofNat len)] 6)) (T6.setTop (mkF m 12 #[.val (.ref b), .val (.int (Int32.ofNat o)), .val (.int (Int32.ofNat len)), .val (.ref s.heap.size), .unset, .unset] [.int (Int32.ofNat len)])) := g6
  have c8 : Steps p.tables e below (s₁.setTop (entryFrame m #[.ref b, .int (Int32.ofNat o), .int (Int32.ofNat len)] 6)) (T6.setTop (mkF m 58 #[.val (.ref b), .val (.int (Int32.ofNat o)), .val (.int (Int32.ofNat len)), .val (.ref s.heap.size), .val (.int (Int32.ofNat len)), .unset] [.ref s.heap.size])) := c7.trans (by
    refine XS.istore X6.here hexec rfl (hb hbytes d12) rfl rfl ?_
    refine XS.iload X6.here hexec rfl (hb hbytes d14) rfl ?_
    refine XS.iloadN X6.here hexec rfl (hb hbytes d16) rfl ?_
    refine XS.icmpYes X6.here hexec rfl (pc0 := 17) rfl (hb hbytes d17) rfl (ii_eq_t rfl) (by decide) rfl ?_
    refine XS.aloadN X6.here hexec rfl (hb hbytes d57) rfl rfl ?_
    exact Steps.refl _)
  have X8 := X6.wide (L' := []) (cells' := 1) (slots' := len) (fun x hx hlt => by
    simp only [List.nil_append, copyLocs, List.mem_map, List.mem_range] at hx
    obtain ⟨i, -, rfl⟩ := hx
    exact absurd hlt (Nat.lt_irrefl _)) (Nat.le_refl _) (by omega)
  exact ⟨T6, some (.ref s.heap.size), _, _, _, X8, rfl, rfl, rfl, (fun h => by cases h), ⟨⟨rfl, B6, ba3.like (X3.warmed.alike.symm.trans X6.warmed.alike) p6.1 f6.1 f6.2.1 f6.2.2.1, f6.2.1.trans bv3, by rw [X6.warmed.alike.findClass, f6.1]; exact bf3, by rw [f6.2.2.1, bs3]; simp, fun j hj => by rw [f6.2.2.2 j, if_pos (by omega)]; rfl, kp3.put p6 (Nat.le_refl _)⟩, by rw [p6.2.2, bh3, hh0]; simp⟩, fun fs hl => c8.trans (X8.areturnOut hexec rfl hret rfl (hb hbytes d58) hl)⟩
end Cmp3
namespace CodL
def yN : MethodName := ⟨"java/lang/StringUTF16", "coderFromArrayLen", "([BI)B"⟩
abbrev yB : ByteArray := jdk_52_method_15_code
theorem d0 : decode yB 0 = .ok (.iload_n 1, 1) := by decide +kernel
theorem d1 : decode yB 1 = .ok (.aload_n 0, 1) := by decide +kernel
theorem d2 : decode yB 2 = .ok (.arraylength, 1) := by decide +kernel
theorem d3 : decode yB 3 = .ok (.isub, 1) := by decide +kernel
theorem d4 : decode yB 4 = .ok (.bipush 31, 2) := by decide +kernel
theorem d6 : decode yB 6 = .ok (.iushr, 1) := by decide +kernel
theorem d7 : decode yB 7 = .ok (.i2b, 1) := by decide +kernel
theorem d8 : decode yB 8 = .ok (.ireturn, 1) := by decide +kernel
def site : List Cond := []
def tab : Cond := tabOf yN yB 2 (some .byte) site
def P (d : Addr) (B : Cell) (args : Array Value) (s : State) : Prop := args = #[.ref d, .int (Int32.ofNat B.slots.size)] ∧ Arr .byte d B s
def E (r : Option Value) (s u : State) : Prop := XT.PureE (some (.int 0)) r s u
/-- an array as long as the number of chars: LATIN1 -/
theorem law (l : Launch) (d : Addr) (B : Cell) : Law l yN 2 2 0 0 yB 2 (some .byte) site (P d B) E [] 0 0 := by
  refine Law.of_walk (plainFor_of_name (by decide +kernel)) (by decide +kernel) (by decide +kernel) (by decide) (fun _ _ h => by rw [h.1]; rfl) (fun _ U U' hal hh h => ⟨h.1, h.2.mv hal hh⟩) (fun r U U' V V' h1 hal h2 h => XT.PureE.mv r U U' V V' h1 hal h2 h) ?_
  intro p e s m args below meth c s₁ X0 hexec hbytes hml hret hlk hnm hown hh0 W hP
  obtain ⟨rfl, hB⟩ := hP
  have hB0 := hB.mv X0.warmed.alike hh0
  have c1 : Steps p.tables e below (s₁.setTop (entryFrame m #[.ref d, .int (Int32.ofNat B.slots.size)] 2)) (s₁.setTop (mkF m 0 #[.val (.ref d), .val (.int (Int32.ofNat B.slots.size))] [])) := entry rfl
  have c2 : Steps p.tables e below (s₁.setTop (entryFrame m #[.ref d, .int (Int32.ofNat B.slots.size)] 2)) (s₁.setTop (mkF m 2 #[.val (.ref d), .val (.int (Int32.ofNat B.slots.size))] [.ref d, .int (Int32.ofNat B.slots.size)])) := c1.trans (by
    refine XS.iloadN X0.here hexec rfl (hb hbytes d0) rfl ?_
    refine XS.aloadN X0.here hexec rfl (hb hbytes d1) rfl rfl ?_
    exact Steps.refl _)
  have c3 : Steps p.tables e below (s₁.setTop (entryFrame m #[.ref d, .int (Int32.ofNat B.slots.size)] 2)) (s₁.setTop (mkF m 8 #[.val (.ref d), .val (.int (Int32.ofNat B.slots.size))] [.int (lo8 (ushr (Int32.ofNat B.slots.size - Int32.ofNat B.slots.size) 31))])) := c2.trans (by
    refine X0.alen hexec hB0 rfl rfl (hb hbytes d2) ?_
    refine XS.isub X0.here hexec rfl (hb hbytes d3) rfl ?_
    refine bipushV X0.here hexec rfl 31 (hb hbytes d4) (by decide) ?_
    refine iushr X0.here hexec rfl (hb hbytes d6) rfl ?_
    refine i2b X0.here hexec rfl (hb hbytes d7) rfl ?_
    exact Steps.refl _)
  have e0 : lo8 (ushr (Int32.ofNat B.slots.size - Int32.ofNat B.slots.size) 31) = 0 := by rw [Int32.sub_self]; decide
  rw [e0] at c3
  exact ⟨s₁, some (.int 0), _, _, _, X0, rfl, rfl, rfl, (fun h => by cases h), ⟨rfl, hh0⟩, fun fs hl => c3.trans (X0.ireturnOut hexec hret rfl (Or.inr (Or.inr (Or.inl rfl))) (hb hbytes d8) hl)⟩
end CodL
/-- the String at a is Latin-1 over a new byte[] (the heap's one new cell): the low bytes of the len chars of A from o on; every cell but a is kept -/
def Got (a : Addr) (D : Cell) (fV fC : Field) (A : Cell) (o len : Nat) (r : Option Value) (s u : State) : Prop := r = none ∧ ∃ D' V : Cell, Blank "java/lang/String" a D' u ∧ Same D D' [fV.slot, fC.slot] ∧ D'.slots[fV.slot]? = some (.ref s.heap.size) ∧ D'.slots[fC.slot]? = some (.int 0) ∧ Arr .byte s.heap.size V u ∧ V.vm = .none ∧ u.vm.findClass "[B" = some V.cls ∧ V.slots.size = len ∧ (∀ j, j < len → V.slots[j]? = some (.int (lo8 (cv A (o + j))))) ∧ (∀ (y : Addr) (c : Cell), y ≠ a → s.heap[y]? = some c → u.heap[y]? = some c) ∧ u.heap.size = s.heap.size + 1
theorem Got.mv {a : Addr} {D A : Cell} {fV fC : Field} {o len : Nat} : ∀ r (U U' V V' : State), U'.heap = U.heap → V.vm.Alike V'.vm → V'.heap = V.heap → Got a D fV fC A o len r U V → Got a D fV fC A o len r U' V' :=
  fun r U U' V V' h1 hal h2 ⟨e0, D', X, a1, a2, a3, a4, a5, a6, a7, a8, a9, a10, a11⟩ => ⟨e0, D', X, a1.mv hal h2, a2, by rw [h1]; exact a3, a4, by rw [h1]; exact a5.mv hal h2, a6, by rw [hal.findClass]; exact a7, a8, a9, by rw [h1, h2]; exact a10, by rw [h1, h2]; exact a11⟩
namespace New4
def yN : MethodName := ⟨"java/lang/String", "<init>", "([CIILjava/lang/Void;)V"⟩
abbrev yB : ByteArray := jdk_42_method_149_code
theorem d0 : decode yB 0 = .ok (.aload_n 0, 1) := by decide +kernel
theorem d1 : decode yB 1 = .ok (.invokespecial 1, 3) := by decide +kernel
theorem d4 : decode yB 4 = .ok (.iload_n 3, 1) := by decide +kernel
theorem d5 : decode yB 5 = .ok (.ifCond (.ne) 22, 3) := by decide +kernel
theorem d27 : decode yB 27 = .ok (.getstatic 38, 3) := by decide +kernel
theorem d30 : decode yB 30 = .ok (.ifCond (.eq) 28, 3) := by decide +kernel
theorem d33 : decode yB 33 = .ok (.aload_n 1, 1) := by decide +kernel
theorem d34 : decode yB 34 = .ok (.iload_n 2, 1) := by decide +kernel
theorem d35 : decode yB 35 = .ok (.iload_n 3, 1) := by decide +kernel
theorem d36 : decode yB 36 = .ok (.invokestatic 177, 3) := by decide +kernel
theorem d39 : decode yB 39 = .ok (.astore 5, 2) := by decide +kernel
theorem d41 : decode yB 41 = .ok (.aload_n 0, 1) := by decide +kernel
theorem d42 : decode yB 42 = .ok (.aload 5, 2) := by decide +kernel
theorem d44 : decode yB 44 = .ok (.iload_n 3, 1) := by decide +kernel
theorem d45 : decode yB 45 = .ok (.invokestatic 47, 3) := by decide +kernel
theorem d48 : decode yB 48 = .ok (.putfield 15, 3) := by decide +kernel
theorem d51 : decode yB 51 = .ok (.aload_n 0, 1) := by decide +kernel
theorem d52 : decode yB 52 = .ok (.aload 5, 2) := by decide +kernel
theorem d54 : decode yB 54 = .ok (.putfield 9, 3) := by decide +kernel
theorem d57 : decode yB 57 = .ok (.return_, 1) := by decide +kernel
def site : List Cond := [.fieldLink "java/lang/String" 38 "java/lang/String" "COMPACT_STRINGS" "Z", Cmp3.tab, CodL.tab, .laysFinal "java/lang/String" "java/lang/String" "value" "[B", .fieldLink "java/lang/String" 9 "java/lang/String" "value" "[B", .laysFinal "java/lang/String" "java/lang/String" "coder" "B", .fieldLink "java/lang/String" 15 "java/lang/String" "coder" "B"] ++ objW "java/lang/String" 1 ++ staticW "java/lang/String" 177 Cmp3.yN ++ staticW "java/lang/String" 47 CodL.yN
def tab : Cond := tabOf yN yB 6 none site
def P (a : Addr) (D : Cell) (fV fC : Field) (b : Addr) (A : Cell) (z : Int32) (o len : Nat) (args : Array Value) (s : State) : Prop := args = #[.ref a, .ref b, .int (Int32.ofNat o), .int (Int32.ofNat len), .null] ∧ Blank "java/lang/String" a D s ∧ Found "java/lang/String" "value" "[B" fV s ∧ Found "java/lang/String" "coder" "B" fC s ∧ Ch b A s ∧ StaticIs s "java/lang/String" "COMPACT_STRINGS" "Z" (.int z) ∧ ¬ z = 0 ∧ 0 < len ∧ o + len ≤ A.slots.size ∧ len ≤ 536870912 ∧ ∀ i, i < len → ¬ 255 < cv A (o + i)
def E (a : Addr) (D : Cell) (fV fC : Field) (A : Cell) (o len : Nat) (r : Option Value) (s u : State) : Prop := Got a D fV fC A o len r s u
/-- len > 0, no char of the range above 255: a Latin-1 String of their low bytes -/
theorem law (l : Launch) (a : Addr) (D : Cell) (fV fC : Field) (b : Addr) (A : Cell) (z : Int32) (o len : Nat) : Law l yN 5 4 2 35 yB 6 none site (P a D fV fC b A z o len) (E a D fV fC A o len) [⟨a, fC.slot⟩, ⟨a, fV.slot⟩] 1 len := by
  refine Law.of_walk (plainFor_of_name (by decide +kernel)) (by decide +kernel) (by decide +kernel) (by decide) (fun _ _ h => by rw [h.1]; rfl) (fun _ U U' hal hh h => ⟨h.1, h.2.1.mv hal hh, h.2.2.1.al hal, h.2.2.2.1.al hal, h.2.2.2.2.1.mv hal hh, h.2.2.2.2.2.1.there hal hh, h.2.2.2.2.2.2⟩) (fun r U U' V V' h1 hal h2 h => Got.mv r U U' V V' h1 hal h2 h) ?_
  intro p e s m args below meth c s₁ X0 hexec hbytes hml hret hlk hnm hown hh0 W hP
  obtain ⟨rfl, hB, f1, f2, hA, s1, hz, l0, l1, l2, hp⟩ := hP
  have a31 := hA.1.2.2.2
  have c1 : Steps p.tables e below (s₁.setTop (entryFrame m #[.ref a, .ref b, .int (Int32.ofNat o), .int (Int32.ofNat len), .null] 6)) (s₁.setTop (mkF m 0 #[.val (.ref a), .val (.ref b), .val (.int (Int32.ofNat o)), .val (.int (Int32.ofNat len)), .val .null, .unset] [])) := entry rfl
  have c2 : Steps p.tables e below (s₁.setTop (entryFrame m #[.ref a, .ref b, .int (Int32.ofNat o), .int (Int32.ofNat len), .null] 6)) (s₁.setTop (mkF m 1 #[.val (.ref a), .val (.ref b), .val (.int (Int32.ofNat o)), .val (.int (Int32.ofNat len)), .val .null, .unset] [.ref a])) := c1.trans (by
    refine XS.aloadN X0.here hexec rfl (hb hbytes d0) rfl rfl ?_
    exact Steps.refl _)
  obtain ⟨T3, X3, q3, st3⟩ := X0.oinit hexec hown (wks W (objW "java/lang/String" 1)) (g := (mkF m 1 #[.val (.ref a), .val (.ref b), .val (.int (Int32.ofNat o)), .val (.int (Int32.ofNat len)), .val .null, .unset] [.ref a])) rfl (by rw [hml]; rfl) (rest := []) rfl (hb hbytes d1) (W := 0) (by show 2 * 0 + 0 ≤ _; decide) (Nat.le_of_ble_eq_true rfl) (Nat.le_of_ble_eq_true rfl)
  have hh3 := q3.trans hh0
  have c4 : Steps p.tables e below (s₁.setTop (entryFrame m #[.ref a, .ref b, .int (Int32.ofNat o), .int (Int32.ofNat len), .null] 6)) (T3.setTop (mkF m 27 #[.val (.ref a), .val (.ref b), .val (.int (Int32.ofNat o)), .val (.int (Int32.ofNat len)), .val .null, .unset] [])) := (c2.trans (st3 _ (Steps.refl _))).trans (by
    refine XS.iloadN X3.here hexec rfl (hb hbytes d4) rfl ?_
    refine XS.ifYes X3.here hexec rfl (pc0 := 5) rfl (hb hbytes d5) rfl (i0_ne_t (nz32 (by omega) l0)) (by decide) rfl ?_
    exact Steps.refl _)
  obtain ⟨T5, X5, q5, st5⟩ := X3.sget hexec hown (wk W (.fieldLink "java/lang/String" 38 "java/lang/String" "COMPACT_STRINGS" "Z")) s1 (fun _ _ h => by rw [hh3]; exact h) (g := (mkF m 27 #[.val (.ref a), .val (.ref b), .val (.int (Int32.ofNat o)), .val (.int (Int32.ofNat len)), .val .null, .unset] [])) rfl (hb hbytes d27)
  have hh5 := q5.trans hh3
  have c6 : Steps p.tables e below (s₁.setTop (entryFrame m #[.ref a, .ref b, .int (Int32.ofNat o), .int (Int32.ofNat len), .null] 6)) (T5.setTop (mkF m 30 #[.val (.ref a), .val (.ref b), .val (.int (Int32.ofNat o)), .val (.int (Int32.ofNat len)), .val .null, .unset] [.int z])) := c4.trans (st5 _ (Steps.refl _))
  have c7 : Steps p.tables e below (s₁.setTop (entryFrame m #[.ref a, .ref b, .int (Int32.ofNat o), .int (Int32.ofNat len), .null] 6)) (T5.setTop (mkF m 36 #[.val (.ref a), .val (.ref b), .val (.int (Int32.ofNat o)), .val (.int (Int32.ofNat len)), .val .null, .unset] [.int (Int32.ofNat len), .int (Int32.ofNat o), .ref b])) := c6.trans (by
    refine XS.ifNo X5.here hexec rfl (hb hbytes d30) rfl (i0_eq_f hz) ?_
    refine XS.aloadN X5.here hexec rfl (hb hbytes d33) rfl rfl ?_
    refine XS.iloadN X5.here hexec rfl (hb hbytes d34) rfl ?_
    refine XS.iloadN X5.here hexec rfl (hb hbytes d35) rfl ?_
    exact Steps.refl _)
  obtain ⟨v8, T8, X8, E8, g8⟩ := X5.callS hexec (Cmp3.law l b A o len) hown (wks W (staticW "java/lang/String" 177 Cmp3.yN)) (wk W Cmp3.tab) (W := 0) (Nat.le_of_ble_eq_true rfl) (Nat.le_of_ble_eq_true rfl) (Nat.le_refl _) (by show 0 + len ≤ len; omega) (g := (mkF m 36 #[.val (.ref a), .val (.ref b), .val (.int (Int32.ofNat o)), .val (.int (Int32.ofNat len)), .val .null, .unset] [.int (Int32.ofNat len), .int (Int32.ofNat o), .ref b])) rfl (by rw [hml]; rfl) c7 (argsL := [.ref b, .int (Int32.ofNat o), .int (Int32.ofNat len)]) (rest := []) rfl rfl (by show 2 * 0 + 0 ≤ _; decide) (hb hbytes d36) (⟨rfl, hA.mv X5.warmed.alike hh5, l1, l2, hp⟩)
  obtain ⟨e8, z8⟩ := E8
  obtain ⟨rfl, N, n1, n2, n3, n4, n5, n6⟩ := NewArr.mv _ T5 s _ _ hh5.symm (Vm.Alike.refl _) rfl e8
  rw [hh5] at z8
  have hB1 := hB.keep X8.warmed.alike (n6 _ _ hB.1)
  have hne : s.heap.size ≠ a := (Nat.ne_of_lt (Array.getElem?_eq_some_iff.mp hB.1).1).symm
  have c9 : Steps p.tables e below (s₁.setTop (entryFrame m #[.ref a, .ref b, .int (Int32.ofNat o), .int (Int32.ofNat len), .null] 6)) (T8.setTop (mkF m 39 #[.val (.ref a), .val (.ref b), .val (.int (Int32.ofNat o)), .val (.int (Int32.ofNat len)), .val .null, .unset] [.ref s.heap.size])) := g8
  have c10 : Steps p.tables e below (s₁.setTop (entryFrame m #[.ref a, .ref b, .int (Int32.ofNat o), .int (Int32.ofNat len), .null] 6)) (T8.setTop (mkF m 45 #[.val (.ref a), .val (.ref b), .val (.int (Int32.ofNat o)), .val (.int (Int32.ofNat len)), .val .null, .val (.ref s.heap.size)] [.int (Int32.ofNat N.slots.size), .ref s.heap.size, .ref a])) := by
    have hc : Steps p.tables e below (s₁.setTop (entryFrame m #[.ref a, .ref b, .int (Int32.ofNat o), .int (Int32.ofNat len), .null] 6)) (T8.setTop (mkF m 45 #[.val (.ref a), .val (.ref b), .val (.int (Int32.ofNat o)), .val (.int (Int32.ofNat len)), .val .null, .val (.ref s.heap.size)] [.int (Int32.ofNat len), .ref s.heap.size, .ref a])) := c9.trans (by
      refine XS.astore X8.here hexec rfl (hb hbytes d39) rfl rfl rfl ?_
      refine XS.aloadN X8.here hexec rfl (hb hbytes d41) rfl rfl ?_
      refine XS.aload X8.here hexec rfl (hb hbytes d42) rfl rfl ?_
      refine XS.iloadN X8.here hexec rfl (hb hbytes d44) rfl ?_
      exact Steps.refl _)
    rw [n4]; exact hc
  obtain ⟨v11, T11, X11, E11, g11⟩ := X8.callS hexec (CodL.law l s.heap.size N) hown (wks W (staticW "java/lang/String" 47 CodL.yN)) (wk W CodL.tab) (W := 1) (Nat.le_of_ble_eq_true rfl) (Nat.le_of_ble_eq_true rfl) (Nat.le_refl _) (by show 0 + len + 0 ≤ len; omega) (g := (mkF m 45 #[.val (.ref a), .val (.ref b), .val (.int (Int32.ofNat o)), .val (.int (Int32.ofNat len)), .val .null, .val (.ref s.heap.size)] [.int (Int32.ofNat N.slots.size), .ref s.heap.size, .ref a])) rfl (by rw [hml]; rfl) c10 (argsL := [.ref s.heap.size, .int (Int32.ofNat N.slots.size)]) (rest := [.ref a]) rfl rfl (by show 2 * 0 + (1 + 0) ≤ _; decide) (hb hbytes d45) (⟨rfl, n1⟩)
  obtain ⟨rfl, q11⟩ := E11
  have hB11 := hB1.mv (X8.warmed.alike.symm.trans X11.warmed.alike) q11
  have c12 : Steps p.tables e below (s₁.setTop (entryFrame m #[.ref a, .ref b, .int (Int32.ofNat o), .int (Int32.ofNat len), .null] 6)) (T11.setTop (mkF m 48 #[.val (.ref a), .val (.ref b), .val (.int (Int32.ofNat o)), .val (.int (Int32.ofNat len)), .val .null, .val (.ref s.heap.size)] [.int 0, .ref a])) := g11
  obtain ⟨T13, X13, p13, bl13, sl13, st13⟩ := X11.finit hexec hown (wk W (.fieldLink "java/lang/String" 15 "java/lang/String" "coder" "B")) (Or.inr ⟨_, (wk W (.laysFinal "java/lang/String" "java/lang/String" "coder" "B"))⟩) (Or.inl ⟨rfl, hnm⟩) f2 (Or.inl rfl) hB11 (t := .byte) (by decide +kernel) rfl (g := (mkF m 48 #[.val (.ref a), .val (.ref b), .val (.int (Int32.ofNat o)), .val (.int (Int32.ofNat len)), .val .null, .val (.ref s.heap.size)] [.int 0, .ref a])) rfl (rest := []) rfl (hb hbytes d48)
  have c14 : Steps p.tables e below (s₁.setTop (entryFrame m #[.ref a, .ref b, .int (Int32.ofNat o), .int (Int32.ofNat len), .null] 6)) (T13.setTop (mkF m 54 #[.val (.ref a), .val (.ref b), .val (.int (Int32.ofNat o)), .val (.int (Int32.ofNat len)), .val .null, .val (.ref s.heap.size)] [.ref s.heap.size, .ref a])) := (c12.trans (st13 _ (Steps.refl _))).trans (by
    refine XS.aloadN X13.here hexec rfl (hb hbytes d51) rfl rfl ?_
    refine XS.aload X13.here hexec rfl (hb hbytes d52) rfl rfl ?_
    exact Steps.refl _)
  obtain ⟨T15, X15, p15, bl15, sl15, st15⟩ := X13.finit hexec hown (wk W (.fieldLink "java/lang/String" 9 "java/lang/String" "value" "[B")) (Or.inr ⟨_, (wk W (.laysFinal "java/lang/String" "java/lang/String" "value" "[B"))⟩) (Or.inl ⟨rfl, hnm⟩) f1 (Or.inl rfl) bl13 (t := (.array .byte)) (by decide +kernel) rfl (g := (mkF m 54 #[.val (.ref a), .val (.ref b), .val (.int (Int32.ofNat o)), .val (.int (Int32.ofNat len)), .val .null, .val (.ref s.heap.size)] [.ref s.heap.size, .ref a])) rfl (rest := []) rfl (hb hbytes d54)
  have c16 : Steps p.tables e below (s₁.setTop (entryFrame m #[.ref a, .ref b, .int (Int32.ofNat o), .int (Int32.ofNat len), .null] 6)) (T15.setTop (mkF m 57 #[.val (.ref a), .val (.ref b), .val (.int (Int32.ofNat o)), .val (.int (Int32.ofNat len)), .val .null, .val (.ref s.heap.size)] [])) := c14.trans (st15 _ (Steps.refl _))
  have ap := apart (Or.inr ⟨_, (wk W (.laysFinal "java/lang/String" "java/lang/String" "value" "[B"))⟩) (Or.inr ⟨_, (wk W (.laysFinal "java/lang/String" "java/lang/String" "coder" "B"))⟩) f1 f2 (t₁ := .array .byte) (t₂ := .byte) (by decide +kernel) (by decide +kernel) (by decide)
  have al := X8.warmed.alike.symm.trans X15.warmed.alike
  have n7 : T11.heap[s.heap.size]? = some N := by rw [q11]; exact n1.1
  exact ⟨T15, none, _, _, _, X15, by simp, rfl, by omega, (fun _ => rfl), ⟨rfl, _, N, bl15, ((Same.refl D _).set _ (by simp)).set _ (by simp), sl15, (Cell.slots_setSlot_ne _ ap).trans sl13, n1.keep al (p15.other hne (p13.other hne n7)), n2, by rw [al.findClass]; exact n3, n4, n5, fun y c h1 h2 => p15.other h1 (p13.other h1 (by rw [q11]; exact n6 y c h2)), by rw [p15.2.2, p13.2.2, q11]; exact z8⟩, fun fs hl => c16.trans (X15.returnOut hexec hret (hb hbytes d57) hl)⟩
end New4
namespace New1
def yN : MethodName := ⟨"java/lang/String", "<init>", "([C)V"⟩
abbrev yB : ByteArray := jdk_42_method_3_code
theorem d0 : decode yB 0 = .ok (.aload_n 0, 1) := by decide +kernel
theorem d1 : decode yB 1 = .ok (.aload_n 1, 1) := by decide +kernel
theorem d2 : decode yB 2 = .ok (.iconst 0, 1) := by decide +kernel
theorem d3 : decode yB 3 = .ok (.aload_n 1, 1) := by decide +kernel
theorem d4 : decode yB 4 = .ok (.arraylength, 1) := by decide +kernel
theorem d5 : decode yB 5 = .ok (.aconst_null, 1) := by decide +kernel
theorem d6 : decode yB 6 = .ok (.invokespecial 27, 3) := by decide +kernel
theorem d9 : decode yB 9 = .ok (.return_, 1) := by decide +kernel
def site : List Cond := [New4.tab] ++ initW "java/lang/String" 27 New4.yN
def tab : Cond := tabOf yN yB 2 none site
def P (a : Addr) (D : Cell) (fV fC : Field) (b : Addr) (A : Cell) (z : Int32) (args : Array Value) (s : State) : Prop := args = #[.ref a, .ref b] ∧ Blank "java/lang/String" a D s ∧ Found "java/lang/String" "value" "[B" fV s ∧ Found "java/lang/String" "coder" "B" fC s ∧ Ch b A s ∧ StaticIs s "java/lang/String" "COMPACT_STRINGS" "Z" (.int z) ∧ ¬ z = 0 ∧ 0 < A.slots.size ∧ A.slots.size ≤ 536870912 ∧ ∀ i, i < A.slots.size → ¬ 255 < cv A i
def E (a : Addr) (D : Cell) (fV fC : Field) (A : Cell) (r : Option Value) (s u : State) : Prop := Got a D fV fC A 0 A.slots.size r s u
/-- new String(chars), not empty, no char above 255: a Latin-1 String of their low bytes -/
theorem law (l : Launch) (a : Addr) (D : Cell) (fV fC : Field) (b : Addr) (A : Cell) (z : Int32) : Law l yN 2 1 3 52 yB 2 none site (P a D fV fC b A z) (E a D fV fC A) [⟨a, fC.slot⟩, ⟨a, fV.slot⟩] 1 A.slots.size := by
  refine Law.of_walk (plainFor_of_name (by decide +kernel)) (by decide +kernel) (by decide +kernel) (by decide) (fun _ _ h => by rw [h.1]; rfl) (fun _ U U' hal hh h => ⟨h.1, h.2.1.mv hal hh, h.2.2.1.al hal, h.2.2.2.1.al hal, h.2.2.2.2.1.mv hal hh, h.2.2.2.2.2.1.there hal hh, h.2.2.2.2.2.2⟩) (fun r U U' V V' h1 hal h2 h => Got.mv r U U' V V' h1 hal h2 h) ?_
  intro p e s m args below meth c s₁ X0 hexec hbytes hml hret hlk hnm hown hh0 W hP
  obtain ⟨rfl, hB, f1, f2, hA, s1, hz, l0, l2, hp⟩ := hP
  have c1 : Steps p.tables e below (s₁.setTop (entryFrame m #[.ref a, .ref b] 2)) (s₁.setTop (mkF m 0 #[.val (.ref a), .val (.ref b)] [])) := entry rfl
  have c2 : Steps p.tables e below (s₁.setTop (entryFrame m #[.ref a, .ref b] 2)) (s₁.setTop (mkF m 6 #[.val (.ref a), .val (.ref b)] [.null, .int (Int32.ofNat A.slots.size), .int 0, .ref b, .ref a])) := c1.trans (by
    refine XS.aloadN X0.here hexec rfl (hb hbytes d0) rfl rfl ?_
    refine XS.aloadN X0.here hexec rfl (hb hbytes d1) rfl rfl ?_
    refine iconstV X0.here hexec rfl 0 (hb hbytes d2) (by decide) ?_
    refine XS.aloadN X0.here hexec rfl (hb hbytes d3) rfl rfl ?_
    refine X0.alen hexec (hA.1.mv X0.warmed.alike hh0) rfl rfl (hb hbytes d4) ?_
    refine XS.aconstNull X0.here hexec rfl (hb hbytes d5) ?_
    exact Steps.refl _)
  obtain ⟨v3, T3, X3, E3, g3⟩ := X0.callN hexec (New4.law l a D fV fC b A z 0 A.slots.size) rfl hown (wks W (initW "java/lang/String" 27 New4.yN)) (W New4.tab (by simp only [site, List.mem_cons, List.mem_append, true_or, or_true])) (W := 0) (Nat.le_of_ble_eq_true rfl) (Nat.le_of_ble_eq_true rfl) (Nat.le_refl _) (by show 0 + A.slots.size ≤ A.slots.size; omega) (g := (mkF m 6 #[.val (.ref a), .val (.ref b)] [.null, .int (Int32.ofNat A.slots.size), .int (Int32.ofNat 0), .ref b, .ref a])) rfl (by rw [hml]; rfl) c2 (argsL := [.ref b, .int (Int32.ofNat 0), .int (Int32.ofNat A.slots.size), .null]) (rest := []) rfl rfl (by show 2 * 0 + 0 ≤ _; decide) (hb hbytes d6) (⟨rfl, hB.mv X0.warmed.alike hh0, f1.al X0.warmed.alike, f2.al X0.warmed.alike, hA.mv X0.warmed.alike hh0, s1.there X0.warmed.alike hh0, hz, l0, by omega, l2, fun i hi => by rw [Nat.zero_add]; exact hp i hi⟩)
  have e0 := Got.mv _ s₁ s _ _ hh0.symm (Vm.Alike.refl _) rfl E3
  obtain rfl := e0.1
  have c4 : Steps p.tables e below (s₁.setTop (entryFrame m #[.ref a, .ref b] 2)) (T3.setTop (mkF m 9 #[.val (.ref a), .val (.ref b)] [])) := g3
  exact ⟨T3, none, _, _, _, X3, by simp, rfl, by omega, (fun _ => rfl), e0, fun fs hl => c4.trans (X3.returnOut hexec hret (hb hbytes d9) hl)⟩
theorem pays {l : Launch} {R : Room} {p : Program} {e : Env} {below : List Frame} {s : State} {sargs : Array Value} {len W : Nat} (a : Addr) (D : Cell) (fV fC : Field) (b : Addr) (A : Cell) (z : Int32) (htab : tab.before sargs s = true) (hfr : 4 ≤ R.frames) (hlo : W + 65 ≤ R.locals) :
    Back l R p e below s sargs yN len W (fun A₁ a₁ => A₁.cells + 1 ≤ R.cells ∧ A₁.slots + A.slots.size ≤ R.slots ∧ P a D fV fC b A z a₁ A₁.U) (fun A₁ _ v₁ B₁ => E a D fV fC A v₁ A₁.U B₁.U ∧ B₁.locs = A₁.locs ++ [⟨a, fC.slot⟩, ⟨a, fV.slot⟩] ∧ B₁.cells = A₁.cells + 1 ∧ B₁.slots = A₁.slots + A.slots.size) :=
  (law l a D fV fC b A z).pays htab hfr (by omega)
end New1
/-- the byte, read back as charAt reads it, is the char -/
theorem lo8_mask {x : Int32} (h0 : ¬ x < 0) (h1 : ¬ 255 < x) : lo8 x &&& 255 = x := by
  have t : ∀ k : Fin 256, lo8 (Int32.ofNat k.val) &&& 255 = Int32.ofNat k.val := by decide +kernel
  rw [Int32.lt_iff_toInt_lt] at h0 h1
  have e0 : (0 : Int32).toInt = 0 := rfl
  have e1 : (255 : Int32).toInt = 255 := rfl
  obtain ⟨k, hk⟩ : ∃ k : Nat, x.toInt = k := ⟨x.toInt.toNat, by omega⟩
  have hx : x = Int32.ofNat k := Int32.toInt_inj.mp (by rw [hk, Int32.toInt_ofNat_small (by omega)])
  rw [hx]
  exact t ⟨k, by omega⟩
end StrChars
namespace StrChars.Road
open Jvm Sem ClassFile Op Lib Jvm.Stand Jvm.Free Jvm.Free.XT
open Jvm.Lib.Cold (StaticIs)
abbrev ST : String := "java/lang/String"
/-- every table word that New1's law asks, flat -/
abbrev words : List Jvm.Cond := [.code New1.yN New1.yB 2 none, .initialized ST, .methodLink ST 27 New4.yN, .instanceMethod New4.yN,
  .code New4.yN New4.yB 6 none, .fieldLink ST 38 ST "COMPACT_STRINGS" "Z", .laysFinal ST ST "value" "[B", .fieldLink ST 9 ST "value" "[B", .laysFinal ST ST "coder" "B", .fieldLink ST 15 ST "coder" "B",
  .methodLink ST 1 Lib.objectInit, .instanceMethod Lib.objectInit, .code Lib.objectInit ⟨#[0xb1]⟩ 1 none, .methodLink ST 177 Cmp3.yN, .static Cmp3.yN, .methodLink ST 47 CodL.yN, .static CodL.yN,
  .code Cmp3.yN Cmp3.yB 6 (some (.array .byte)), .initialized U16, .arrayClass .byte, .methodLink U16 115 Cmp5.yN, .static Cmp5.yN, .code Cmp5.yN Cmp5.yB 7 (some .int), .code CodL.yN CodL.yB 2 (some .byte)]
theorem tab_of {a : Array Value} {s : State} (h : ∀ w ∈ words, w.before a s = true) : New1.tab.before a s = true := by
  have h5 : Cmp5.tab.before a s = true := unparts (wk h (.code Cmp5.yN Cmp5.yB 7 (some .int))) (wks h (.initialized Cmp5.yN.cls :: Cmp5.site))
  have hc : CodL.tab.before a s = true := unparts (wk h (.code CodL.yN CodL.yB 2 (some .byte))) (wks h (.initialized CodL.yN.cls :: CodL.site))
  have q5 : ∀ w ∈ Cmp5.tab :: words, w.before a s = true := fun w hw => (List.mem_cons.mp hw).elim (fun e => e ▸ h5) (h w)
  have h3 : Cmp3.tab.before a s = true := unparts (wk q5 (.code Cmp3.yN Cmp3.yB 6 (some (.array .byte)))) (wks q5 (.initialized Cmp3.yN.cls :: Cmp3.site))
  have q3 : ∀ w ∈ Cmp3.tab :: CodL.tab :: words, w.before a s = true := fun w hw => (List.mem_cons.mp hw).elim (fun e => e ▸ h3) fun hw => (List.mem_cons.mp hw).elim (fun e => e ▸ hc) (h w)
  have h4 : New4.tab.before a s = true := unparts (wk q3 (.code New4.yN New4.yB 6 none)) (wks q3 (.initialized New4.yN.cls :: New4.site))
  have q4 : ∀ w ∈ New4.tab :: words, w.before a s = true := fun w hw => (List.mem_cons.mp hw).elim (fun e => e ▸ h4) (h w)
  exact unparts (wk q4 (.code New1.yN New1.yB 2 none)) (wks q4 (.initialized New1.yN.cls :: New1.site))
/-- the words ride from the start Z to the walk's own state -/
theorem moved {Z s : State} {a0 args : Array Value} (hZ : Z.Warmed39 s.vm) (hw : ∀ d ∈ words, d.before a0 Z = true) : ∀ d ∈ words, d.before args s = true := fun d hd => by
  have q := hw d hd
  have t : ∀ d ∈ words, d = .arrayClass .byte ∨ (d.onTables && d.keepsFace) = true := by decide +kernel
  rcases t d hd with rfl | t
  · exact RoadKit.mvA hZ q
  · exact RoadKit.mv hZ q t
/-- WHAT COMES BACK, over the tables of the start Z: h the heap at the call, h' behind it -/
def Q (Z : State) (x : Addr) (A : Cell) (h : Heap) (v : Option Value) (h' : Heap) (L : List Loc) : Prop := v = none ∧ (∀ y ∈ L, y.base = x) ∧ RoadKit.Keep h h' [x] ∧ h'.size = h.size + 1 ∧ RoadKit.Exa Z h' x ST ∧ RoadKit.Fld Z h' x ST "value" "[B" (.ref h.size) ∧ RoadKit.Fld Z h' x ST "coder" "B" (.int 0) ∧
  (∃ V : Cell, RoadKit.Arr Z h' h.size V .byte ∧ V.vm = .none ∧ Z.vm.findClass "[B" = some V.cls ∧ V.slots.size = A.slots.size ∧ ∀ j, j < A.slots.size → V.slots[j]? = some (.int (lo8 (cv A j)))) ∧
  ∀ (O n d : String) (w : Value), RoadKit.Fld Z h x O n d w → RoadKit.slotOf Z O n d ≠ RoadKit.slotOf Z ST "value" "[B" → RoadKit.slotOf Z O n d ≠ RoadKit.slotOf Z ST "coder" "B" → RoadKit.Fld Z h' x O n d w
/-- **new String(chars) AT A CALL, IN THE ROAD'S FORM**: for specialBack behind newO: x the fresh String, b the char[] with the cell A -/
theorem back {p : Program} {l : Launch} {e : Env} {R : Room} {s : State} {args : Array Value} {below : List Frame} {len W : Nat} {Z : State} {a0 : Array Value} {h : Heap} (hZ : Z.Warmed39 s.vm) (hw : ∀ d ∈ words, d.before a0 Z = true) {kI : Nat} (wi : (Jvm.Cond.instantiable ST kI).before a0 Z = true)
    {x b : Addr} {A : Cell} {z : Int32} {v0 c0 : Value} (E : RoadKit.Exa Z h x ST) (V : RoadKit.Fld Z h x ST "value" "[B" v0) (C : RoadKit.Fld Z h x ST "coder" "B" c0) (K : RoadKit.Arr Z h b A .char) (hty : Typed .char A) (S : RoadKit.Sta Z h ST "COMPACT_STRINGS" "Z" (.int z)) (hz : ¬ z = 0)
    (l0 : 0 < A.slots.size) (l2 : A.slots.size ≤ 536870912) (hp : ∀ i, i < A.slots.size → ¬ 255 < cv A i) (hfr : 4 ≤ R.frames) (hlo : W + 65 ≤ R.locals) :
    Back l R p e below s args New1.yN len W (fun P a => a = #[.ref x, .ref b] ∧ P.U.heap = h ∧ P.cells + 1 ≤ R.cells ∧ P.slots + A.slots.size ≤ R.slots)
      (fun P _ v B => ∃ L, Q Z x A h v B.U.heap L ∧ B.locs = P.locs ++ L ∧ B.cells = P.cells + 1 ∧ B.slots = P.slots + A.slots.size) := by
  intro m meth c P g ig mk a X hg hsize hdg hW hn hp'
  obtain ⟨rfl, rfl, r1, r2⟩ := hp'
  have al : Z.vm.Alike P.U.vm := hZ.alike.trans X.warmed.alike
  obtain ⟨D, cfV, kV, iV, fV, hD, gV, stV, knV, obV, asV, slV⟩ := id V
  obtain ⟨D', cfC, kC, iC, fC, hD', gC, stC, -, -, asC, slC⟩ := id C
  cases hD.symm.trans hD'
  obtain ⟨D2, kD, e1, e2, e3, e4, e5⟩ := id E
  cases hD.symm.trans e1
  obtain ⟨c2, k2, i1, i2, i3, -⟩ := Cond.instantiable_spec wi
  cases e2.symm.trans i1
  cases e3.symm.trans i2
  obtain ⟨kU, u1, u2⟩ := al.2.2 _ _ e3
  have hB : Blank ST x D P.U := ⟨hD, ⟨knV, fun q hq => by rw [hq] at obV; cases obV⟩, by rw [al.findClass]; exact e2, kU, u1, by rw [u2]; exact i3, by rw [u2]; exact e5 i3⟩
  have F1 : Found ST "value" "[B" fV P.U := ⟨SBG.found_only al ⟨cfV, kV, iV, gV⟩, stV⟩
  have F2 : Found ST "coder" "B" fC P.U := ⟨SBG.found_only al ⟨cfC, kC, iC, gC⟩, stC⟩
  have hA : Ch b A P.U := ⟨⟨K.1, State.isArrayOf_alike al K.2.1, K.2.2, by omega⟩, hty⟩
  have hS : StaticIs P.U ST "COMPACT_STRINGS" "Z" (.int z) := by
    obtain ⟨cfS, iS, kS, fS, st, cS, t1, t2, t3, t4, t5, t6, t7⟩ := S
    exact StaticIs.there (s := { Z with heap := P.U.heap }) ⟨cfS, iS, kS, fS, st, cS, t1, t2, t3, t4, t5, (fun q => by rw [q] at t6; cases t6), t7⟩ al rfl
  obtain ⟨v, B, X', ⟨⟨hv, E', V', q1, q2, q3, q4, q5, q6, q7, q8, q9, q10, q11⟩, hl, hc, hs⟩, st⟩ := New1.pays x D fV fC b A z (tab_of (moved hZ hw)) hfr hlo m meth c P g ig mk _ X hg hsize hdg hW hn ⟨r1, r2, rfl, hB, F1, F2, hA, hS, hz, l0, l2, hp⟩
  have al' : Z.vm.Alike B.U.vm := hZ.alike.trans X'.warmed.alike
  have hsz : E'.slots.size = D.slots.size := by
    obtain ⟨-, -, -, kB, w1, w2, w3⟩ := q1
    obtain ⟨kB', y1, y2⟩ := al'.2.2 _ _ e3
    rw [q2.2.1] at w1
    cases w1.symm.trans y1
    rw [w3, e5 i3, y2]
  refine ⟨v, B, X', ⟨_, ⟨hv, ?_, ⟨by omega, fun y cy hy hn' => q10 y cy (by simpa using hn') hy, fun y cy hy => ?_⟩, q11, ⟨E', _, q1.1, by rw [q2.2.1]; exact e2, by rw [q2.2.1]; exact e3, by rw [q2.1]; exact obV, fun _ => by rw [hsz]; exact e5 i3⟩,
    ⟨E', cfV, kV, iV, fV, q1.1, gV, stV, by rw [q2.1]; exact knV, by rw [q2.1]; exact obV, by rw [q2.2.1]; exact asV, q3⟩, ⟨E', cfC, kC, iC, fC, q1.1, gC, stC, by rw [q2.1]; exact knV, by rw [q2.1]; exact obV, by rw [q2.2.1]; exact asC, q4⟩,
    ⟨V', ⟨q5.1, State.isArrayOf_alike al'.symm q5.2.1, q5.2.2.1⟩, q6, by rw [← al'.findClass]; exact q7, q8, fun j hj => by have := q9 j hj; rwa [Nat.zero_add] at this⟩, fun O n d w F n1 n2 => ?_⟩, hl, hc, hs⟩, st⟩
  · intro y hy
    simp only [List.mem_cons, List.not_mem_nil, or_false] at hy
    rcases hy with rfl | rfl <;> rfl
  · by_cases q : y = x
    · subst q
      cases hD.symm.trans hy
      exact ⟨E', q1.1, q2.2.1, q2.1, hsz⟩
    · exact ⟨cy, q10 y cy q hy, rfl, rfl, rfl⟩
  · obtain ⟨D3, cf, k, i, f, g1, g2, g3, g4, g5, g6, g7⟩ := F
    cases hD.symm.trans g1
    simp only [RoadKit.slotOf, g2, gV, gC, Option.map_some, Option.getD_some] at n1 n2
    exact ⟨E', cf, k, i, f, q1.1, g2, g3, by rw [q2.1]; exact g4, by rw [q2.1]; exact g5, by rw [q2.2.1]; exact g6, by rw [q2.2.2 f.slot (by simp [n1, n2])]; exact g7⟩
end StrChars.Road
namespace StrChars.Road
open Jvm Sem ClassFile Op Lib Jvm.Stand Jvm.Free Jvm.Free.XT
/-- WHAT COMES BACK, the byte[] as a list of values -/
def QA (Z : State) (x : Addr) (zn : Int32) (cs : List Int32) (h : Heap) (v : Option Value) (h' : Heap) (L : List Loc) : Prop := v = none ∧ (∀ y ∈ L, y.base = x) ∧ RoadKit.Keep h h' [x] ∧ h'.size = h.size + 1 ∧ RoadKit.Exa Z h' x ST ∧ RoadKit.Fld Z h' x ST "value" "[B" (.ref h.size) ∧ RoadKit.Fld Z h' x ST "coder" "B" (.int 0) ∧
  (∃ kb, Z.vm.findClass "[B" = some kb ∧ RoadKit.Arv Z h' h.size kb .byte zn (cs.map fun c => .int (lo8 c)) (.int 0)) ∧
  ∀ (O n d : String) (w : Value), RoadKit.Fld Z h x O n d w → RoadKit.slotOf Z O n d ≠ RoadKit.slotOf Z ST "value" "[B" → RoadKit.slotOf Z O n d ≠ RoadKit.slotOf Z ST "coder" "B" → RoadKit.Fld Z h' x O n d w
/-- **new String(chars) AT A CALL, THE ARRAYS AS LISTS**: the char[] at b holds cs, not empty, no char above 255 -/
theorem backArv {p : Program} {l : Launch} {e : Env} {R : Room} {s : State} {args : Array Value} {below : List Frame} {len W : Nat} {Z : State} {a0 : Array Value} {h : Heap} (hZ : Z.Warmed39 s.vm) (hw : ∀ d ∈ words, d.before a0 Z = true) {kI : Nat} (wi : (Jvm.Cond.instantiable ST kI).before a0 Z = true)
    {x b : Addr} {k : ClassId} {zn z : Int32} {cs : List Int32} {dv v0 c0 : Value} (E : RoadKit.Exa Z h x ST) (V : RoadKit.Fld Z h x ST "value" "[B" v0) (C : RoadKit.Fld Z h x ST "coder" "B" c0) (K : RoadKit.Arv Z h b k .char zn (cs.map Value.int) dv) (S : RoadKit.Sta Z h ST "COMPACT_STRINGS" "Z" (.int z)) (hz : ¬ z = 0)
    (hlen : zn.toNatClampNeg = cs.length) (h0 : 0 < cs.length) (hbig : cs.length ≤ 536870912) (hall : ∀ c ∈ cs, ¬ 255 < c) (hfr : 4 ≤ R.frames) (hlo : W + 65 ≤ R.locals) :
    Back l R p e below s args New1.yN len W (fun P a => a = #[.ref x, .ref b] ∧ P.U.heap = h ∧ P.cells + 1 ≤ R.cells ∧ P.slots + cs.length ≤ R.slots)
      (fun P _ v B => ∃ L, QA Z x zn cs h v B.U.heap L ∧ B.locs = P.locs ++ L ∧ B.cells = P.cells + 1 ∧ B.slots = P.slots + cs.length) := by
  obtain ⟨A, K1, K2, K3, K4, K5, K6⟩ := K
  have e : A.slots.size = cs.length := K3.trans hlen
  have hat : ∀ (i : Nat) (hi : i < cs.length), A.slots[i]? = some (.int cs[i]) := fun i hi => by rw [K5 i (by omega)]; simp [List.getD_eq_getElem?_getD, hi]
  have hcv : ∀ (i : Nat) (hi : i < cs.length), cv A i = cs[i] := fun i hi => by unfold cv; rw [hat i hi]
  have hty : Typed .char A := fun i v hv => by
    have hi : i < A.slots.size := (Array.getElem?_eq_some_iff.mp hv).1
    have q := K5 i hi
    rw [hv] at q
    rw [Option.some.inj q]
    exact K6 i hi
  refine Back.mono (back hZ hw wi E V C K1 hty S hz (by omega) (by omega) (fun i hi => by rw [hcv i (by omega)]; exact hall _ (List.getElem_mem _)) hfr hlo) (fun P a hp => ⟨hp.1, hp.2.1, hp.2.2.1, by rw [e]; exact hp.2.2.2⟩) (fun P a v B hp hq => ?_)
  obtain ⟨L, ⟨q1, q2, q3, q4, q5, q6, q7, ⟨V', v1, v2, v3, v4, v5⟩, q9⟩, hl, hc, hs⟩ := hq
  refine ⟨L, ⟨q1, q2, q3, q4, q5, q6, q7, ⟨V'.cls, v3, V', v1, rfl, by rw [v4, e, hlen], K4, fun i hi => ?_, fun i hi => ?_⟩, q9⟩, hl, hc, by rw [hs, e]⟩
  · have hi' : i < cs.length := by omega
    rw [v5 i (by omega), hcv i hi']; simp [List.getD_eq_getElem?_getD, hi']
  · have hi' : i < cs.length := by omega
    simp only [List.getD_eq_getElem?_getD, List.getElem?_map, List.getElem?_eq_getElem hi', Option.map_some, Option.getD_some]
    exact fits_lo8 _
end StrChars.Road
namespace StrChars.Road
open Jvm Sem ClassFile Op Lib Jvm.Stand Jvm.Free Jvm.Free.XT
/-- WHAT COMES BACK, in the writer's own shape -/
def QV (Z : State) (x : Addr) (N : Int32) (bs : List Int32) (h : Heap) (n0 : Nat) (v : Option Value) (h' : Heap) (L : List Loc) : Prop := v = none ∧ RoadKit.Fr n0 L ∧ RoadKit.Keep h h' [x] ∧ RoadKit.Exa Z h' x ST ∧ RoadKit.Fld Z h' x ST "coder" "B" (.int 0) ∧
  ∃ (t : Addr) (kb : ClassId), n0 ≤ t ∧ h.size ≤ t ∧ ¬ t = x ∧ RoadKit.Fld Z h' x ST "value" "[B" (.ref t) ∧ RoadKit.Arv Z h' t kb .byte N (bs.map Value.int) (.int 0)
/-- **new String(chars) AT A CALL, FOR THE WRITER**: a char[] of n known ints, each 0 to 255 -/
theorem backV {p : Program} {l : Launch} {e : Env} {R : Room} {s : State} {args : Array Value} {below : List Frame} {len W : Nat} {Z : State} {a0 : Array Value} {h : Heap} (hZ : Z.Warmed39 s.vm) (hw : ∀ d ∈ words, d.before a0 Z = true) {kI : Nat} (wi : (Jvm.Cond.instantiable ST kI).before a0 Z = true)
    {x b : Addr} {kC : ClassId} {cs bs : List Int32} {d v0 c0 : Value} {z N : Int32} {n n0 : Nat} (hx0 : n0 ≤ x) (hh0 : n0 ≤ h.size) (E : RoadKit.Exa Z h x ST) (V : RoadKit.Fld Z h x ST "value" "[B" v0) (C : RoadKit.Fld Z h x ST "coder" "B" c0) (K : RoadKit.Arv Z h b kC .char N (cs.map Value.int) d) (S : RoadKit.Sta Z h ST "COMPACT_STRINGS" "Z" (.int z)) (hz : ¬ z = 0)
    (hn : cs.length = n) (hN : N = Int32.ofNat n) (l0 : 0 < n) (l2 : n ≤ 4000) (hp : ∀ c ∈ cs, ¬ c < 0 ∧ ¬ (255 : Int32) < c) (hb : bs = cs.map (fun c => c.toInt8.toInt32)) (hfr : 4 ≤ R.frames) (hlo : W + 65 ≤ R.locals) :
    Back l R p e below s args (⟨"java/lang/String", "<init>", "([C)V"⟩ : MethodName) len W (fun P a => a = #[.ref x, .ref b] ∧ P.U.heap = h ∧ P.cells + 1 ≤ R.cells ∧ P.slots + n ≤ R.slots)
      (fun P _ v B => ∃ L, QV Z x N bs h n0 v B.U.heap L ∧ B.locs = P.locs ++ L ∧ B.cells = P.cells + 1 ∧ B.slots = P.slots + n) := by
  subst hn hN hb
  refine Back.mono (backArv hZ hw wi E V C K S hz (n32 (by omega)) l0 (by omega) (fun c hc => (hp c hc).2) hfr hlo) (fun P a hp => hp) (fun P a v B hp hq => ?_)
  obtain ⟨L, ⟨q1, q2, q3, q4, q5, q6, q7, ⟨kb, v1, v2⟩, q9⟩, hl, hc, hs⟩ := hq
  exact ⟨L, ⟨q1, fun y hy => by rw [q2 y hy]; exact hx0, q3, q5, q7, h.size, kb, hh0, Nat.le_refl _, Nat.ne_of_gt E.lt, q6, by rw [List.map_map]; exact v2⟩, hl, hc, hs⟩
end StrChars.Road
namespace StrChars
open Jvm Sem ClassFile Op Lib Jvm.Stand Jvm.Free.XT Jvm.Free.ALB Jvm.Free.JM Jvm.Free
open Jvm.Lib.Cold (StaticIs)
def hi8 (x : Int32) : Int32 := lo8 (x >>> ((8 : Int32) &&& 31))
/-- what StringUTF16.getChar makes of two bytes -/
def pairCh (u v : Int32) : Int32 := (((u &&& 255) <<< ((0 : Int32) &&& 31)) ||| ((v &&& 255) <<< ((8 : Int32) &&& 31))).toUInt32.toUInt16.toUInt32.toInt32
theorem lo8_and (x : Int32) : (lo8 x &&& 255).toBitVec.toNat = x.toBitVec.toNat % 256 := by
  have h : (lo8 x).toBitVec = (x.toBitVec.signExtend 8).signExtend 32 := by rw [lo8, Int8.toBitVec_toInt32, Int32.toBitVec_toInt8]
  rw [Int32.toBitVec_and, BitVec.toNat_and, h]
  have e : ((x.toBitVec.signExtend 8).signExtend 32).toNat % 256 = x.toBitVec.toNat % 256 := by
    rw [BitVec.toNat_signExtend]
    have hlt := x.toBitVec.isLt
    simp only [BitVec.toNat_setWidth, BitVec.toNat_signExtend]
    split <;> split <;> omega
  rw [← e]
  exact Nat.and_two_pow_sub_one_eq_mod _ 8
theorem pair_says {c : Int32} (h0 : ¬ c < 0) (h1 : ¬ 65535 < c) : pairCh (lo8 c) (hi8 c) = c := by
  rw [Int32.lt_iff_toInt_lt] at h0 h1
  have e0 : (0 : Int32).toInt = 0 := rfl
  have e1 : (65535 : Int32).toInt = 65535 := rfl
  have hc : c.toInt = c.toBitVec.toNat := by
    have := c.toBitVec.isLt
    have e : c.toInt = c.toBitVec.toInt := rfl
    rw [e] at h0 h1
    rw [e]
    rw [BitVec.toInt_eq_toNat_cond] at h0 h1 ⊢
    split at h0 <;> split <;> omega
  have hn : c.toBitVec.toNat < 65536 := by omega
  have a1 := lo8_and c
  have a2 : (hi8 c &&& 255).toBitVec.toNat = c.toBitVec.toNat / 256 := by
    rw [hi8, lo8_and]
    have e : ((8 : Int32) &&& 31) = 8 := by decide
    rw [e, Int32.toBitVec_shiftRight]
    have e2 : ((8 : Int32).toBitVec.smod 32) = 8#32 := by decide
    rw [e2, BitVec.sshiftRight_eq', BitVec.toNat_sshiftRight_of_msb_false (by rw [BitVec.msb_eq_false_iff_two_mul_lt]; omega)]
    show c.toBitVec.toNat >>> 8 % 256 = _
    rw [Nat.shiftRight_eq_div_pow]
    omega
  unfold pairCh
  apply Int32.toBitVec_inj.mp
  apply BitVec.eq_of_toNat_eq
  have f0 : ((0 : Int32) &&& 31) = 0 := by decide
  have f8 : ((8 : Int32) &&& 31) = 8 := by decide
  rw [f0, f8]
  have g : (((lo8 c &&& 255) <<< (0 : Int32)) ||| ((hi8 c &&& 255) <<< (8 : Int32))).toBitVec.toNat = c.toBitVec.toNat := by
    rw [Int32.toBitVec_or, Int32.toBitVec_shiftLeft, Int32.toBitVec_shiftLeft]
    have s0 : ((0 : Int32).toBitVec.smod 32) = 0#32 := by decide
    have s8 : ((8 : Int32).toBitVec.smod 32) = 8#32 := by decide
    rw [s0, s8, BitVec.toNat_or]
    simp only [BitVec.shiftLeft_eq', BitVec.toNat_shiftLeft, a1, a2]
    show (c.toBitVec.toNat % 256) <<< 0 % 2 ^ 32 ||| (c.toBitVec.toNat / 256) <<< 8 % 2 ^ 32 = _
    rw [Nat.shiftLeft_zero, Nat.mod_eq_of_lt (show c.toBitVec.toNat % 256 < 2 ^ 32 by omega), Nat.mod_eq_of_lt (show (c.toBitVec.toNat / 256) <<< 8 < 2 ^ 32 by rw [Nat.shiftLeft_eq]; omega), Nat.or_comm, ← Nat.shiftLeft_add_eq_or_of_lt (by omega), Nat.shiftLeft_eq]
    omega
  show BitVec.toNat (((((lo8 c &&& 255) <<< (0 : Int32)) ||| ((hi8 c &&& 255) <<< (8 : Int32))).toBitVec.setWidth 16).setWidth 32) = _
  rw [BitVec.toNat_setWidth, BitVec.toNat_setWidth, g]
  omega
end StrChars
namespace StrChars
open Jvm Sem ClassFile Op Lib Jvm.Stand Jvm.Free.XT Jvm.Free.ALB Jvm.Free.JM Jvm.Free
open Jvm.Lib.Cold (StaticIs)
/-- the array's cell V codes the n chars f 0 .. f (n - 1) by the coder cd, as the JDK does: coder 1 just where some char is above 255 -/
def Cod (cd : Int32) (n : Nat) (f : Nat → Int32) (V : Cell) : Prop := (cd = 0 ∧ V.slots.size = n ∧ ∀ j, j < n → V.slots[j]? = some (.int (lo8 (f j))) ∧ ¬ 255 < f j) ∨ (cd = 1 ∧ V.slots.size = 2 * n ∧ (∀ j, j < n → V.slots[2 * j]? = some (.int (lo8 (f j))) ∧ V.slots[2 * j + 1]? = some (.int (hi8 (f j)))) ∧ ∃ j, j < n ∧ 255 < f j)
/-- **x is a String of the n chars f 0 .. f (n - 1)**, Latin-1 or UTF-16; its array at t has the cell V -/
def Txt (x t : Addr) (V : Cell) (cd : Int32) (n : Nat) (f : Nat → Int32) (U : State) : Prop := Exact "java/lang/String" x U ∧ Has x "java/lang/String" "value" "[B" (.ref t) U ∧ Has x "java/lang/String" "coder" "B" (.int cd) U ∧ XT.Arr .byte t V U ∧ Cod cd n f V ∧ ∀ j, j < n → ¬ f j < 0 ∧ ¬ 65535 < f j
theorem Txt.mv {x t : Addr} {V : Cell} {cd : Int32} {n : Nat} {f : Nat → Int32} {U U' : State} (h : Txt x t V cd n f U) (hal : U.vm.Alike U'.vm) (hh : U'.heap = U.heap) : Txt x t V cd n f U' := ⟨h.1.mv hal hh, h.2.1.mv hal hh, h.2.2.1.mv hal hh, h.2.2.2.1.mv hal hh, h.2.2.2.2⟩
end StrChars
namespace StrChars.Road
open Jvm Sem ClassFile Op Lib Jvm.Stand Jvm.Free Jvm.Free.XT
open Jvm.Lib.Cold (StaticIs)
theorem consq {a : Array Value} {s : State} {c : Jvm.Cond} {L : List Jvm.Cond} (h0 : c.before a s = true) (h : ∀ w ∈ L, w.before a s = true) : ∀ w ∈ c :: L, w.before a s = true := fun w hw => (List.mem_cons.mp hw).elim (fun e => e ▸ h0) (h w)
/-- the bytes of the chars cs, low before high -/
def wideBytes : List Int32 → List Value
  | [] => []
  | c :: cs => .int (lo8 c) :: .int (hi8 c) :: wideBytes cs
theorem wide_lo (d : Value) : ∀ (cs : List Int32) (j : Nat), j < cs.length → (wideBytes cs).getD (2 * j) d = .int (lo8 (cs.getD j 0))
  | [], j, h => absurd h (Nat.not_lt_zero j)
  | c :: cs, 0, _ => rfl
  | c :: cs, j + 1, h => by
    have q := wide_lo d cs j (by simpa using h)
    rw [show 2 * (j + 1) = 2 * j + 1 + 1 from by omega]
    simpa [wideBytes] using q
theorem wide_hi (d : Value) : ∀ (cs : List Int32) (j : Nat), j < cs.length → (wideBytes cs).getD (2 * j + 1) d = .int (hi8 (cs.getD j 0))
  | [], j, h => absurd h (Nat.not_lt_zero j)
  | c :: cs, 0, _ => rfl
  | c :: cs, j + 1, h => by
    have q := wide_hi d cs j (by simpa using h)
    rw [show 2 * (j + 1) + 1 = 2 * j + 1 + 1 + 1 from by omega]
    simpa [wideBytes] using q
theorem low_at (d : Value) (cs : List Int32) (j : Nat) (h : j < cs.length) : (cs.map fun c => Value.int (lo8 c)).getD j d = .int (lo8 (cs.getD j 0)) := by
  simp [List.getD_eq_getElem?_getD, h]
/-- an array of N2 bytes vs codes the chars cs by the coder cd -/
def CodA (cs : List Int32) (cd N2 : Int32) (vs : List Value) : Prop := (cd = 0 ∧ N2 = Int32.ofNat cs.length ∧ vs = (cs.map fun c => Value.int (lo8 c)) ∧ ∀ c ∈ cs, ¬ 255 < c) ∨ (cd = 1 ∧ N2 = Int32.ofNat (2 * cs.length) ∧ vs = wideBytes cs ∧ ∃ c ∈ cs, 255 < c)
theorem CodA.cod {cs : List Int32} {cd N2 : Int32} {vs : List Value} {V : Cell} (h : CodA cs cd N2 vs) (hn : 2 * cs.length < 2 ^ 31) (hs : V.slots.size = N2.toNatClampNeg) (hv : RoadKit.Has V vs (.int 0)) : Cod cd cs.length (fun j => cs.getD j 0) V := by
  rcases h with ⟨rfl, rfl, rfl, h⟩ | ⟨rfl, rfl, rfl, c, hc, hw⟩
  · rw [n32 (by omega)] at hs
    exact Or.inl ⟨rfl, hs, fun j hj => ⟨by rw [hv j (by omega), low_at _ _ _ hj], by
      have e : cs.getD j 0 = cs[j] := by simp [List.getD_eq_getElem?_getD, hj]
      show ¬ 255 < cs.getD j 0
      rw [e]; exact h _ (List.getElem_mem _)⟩⟩
  · rw [n32 (by omega)] at hs
    obtain ⟨j, hj, rfl⟩ := List.getElem_of_mem hc
    exact Or.inr ⟨rfl, hs, fun j hj => ⟨by rw [hv _ (by omega), wide_lo _ _ _ hj], by rw [hv _ (by omega), wide_hi _ _ _ hj]⟩, j, hj, by
      have e : cs.getD j 0 = cs[j] := by simp [List.getD_eq_getElem?_getD, hj]
      show 255 < cs.getD j 0
      rw [e]; exact hw⟩
/-- an object of exactly java/lang/String, its two fields found: as the laws ask it -/
theorem strObj {Z U : State} {a0 : Array Value} {kI : Nat} (wi : (Jvm.Cond.instantiable ST kI).before a0 Z = true) (al : Z.vm.Alike U.vm) {x : Addr} {v0 c0 : Value} (E : RoadKit.Exa Z U.heap x ST) (V : RoadKit.Fld Z U.heap x ST "value" "[B" v0) (C : RoadKit.Fld Z U.heap x ST "coder" "B" c0) :
    ∃ (D : Cell) (fV fC : Field), Blank ST x D U ∧ Found ST "value" "[B" fV U ∧ Found ST "coder" "B" fC U ∧ D.slots[fV.slot]? = some v0 ∧ D.slots[fC.slot]? = some c0 ∧ RoadKit.slotOf Z ST "value" "[B" = fV.slot ∧ RoadKit.slotOf Z ST "coder" "B" = fC.slot := by
  obtain ⟨D, cfV, kV, iV, fV, hD, gV, stV, knV, obV, asV, slV⟩ := V
  obtain ⟨D', cfC, kC, iC, fC, hD', gC, stC, -, -, asC, slC⟩ := C
  cases hD.symm.trans hD'
  obtain ⟨D2, kD, e1, e2, e3, e4, e5⟩ := E
  cases hD.symm.trans e1
  obtain ⟨c2, k2, i1, i2, i3, -⟩ := Cond.instantiable_spec wi
  cases e2.symm.trans i1
  cases e3.symm.trans i2
  obtain ⟨kU, u1, u2⟩ := al.2.2 _ _ e3
  exact ⟨D, fV, fC, ⟨hD, ⟨knV, fun q hq => by rw [hq] at obV; cases obV⟩, by rw [al.findClass]; exact e2, kU, u1, by rw [u2]; exact i3, by rw [u2]; exact e5 i3⟩, ⟨SBG.found_only al ⟨cfV, kV, iV, gV⟩, stV⟩, ⟨SBG.found_only al ⟨cfC, kC, iC, gC⟩, stC⟩, slV, slC, by simp [RoadKit.slotOf, gV], by simp [RoadKit.slotOf, gC]⟩
theorem sta_is {Z U : State} (al : Z.vm.Alike U.vm) {C n d : String} {v : Value} (S : RoadKit.Sta Z U.heap C n d v) : StaticIs U C n d v := by
  obtain ⟨cfS, iS, kS, fS, st, cS, t1, t2, t3, t4, t5, t6, t7⟩ := S
  exact StaticIs.there (s := { Z with heap := U.heap }) ⟨cfS, iS, kS, fS, st, cS, t1, t2, t3, t4, t5, (fun q => by rw [q] at t6; cases t6), t7⟩ al rfl
end StrChars.Road
namespace StrChars
open Jvm Sem ClassFile Op Lib Jvm.Stand Jvm.Free.XT Jvm.Free.ALB Jvm.Free.JM Jvm.Free
open Jvm.Lib.Cold (StaticIs)
/-- what place i of a byte[]'s cell holds -/
def yv (A : Cell) (i : Nat) : Int32 := match A.slots[i]? with | some (.int x) => x | _ => 0
theorem yv_get {a : Addr} {A : Cell} {U : State} (h : XT.Arr .byte a A U) (ht : Typed .byte A) {i : Nat} (hi : i < A.slots.size) : A.slots[i]? = some (.int (yv A i)) := by
  have e := Array.getElem?_eq_getElem hi
  have f := ht i _ e
  unfold yv; rw [e]
  generalize A.slots[i] = v at f
  cases v <;> simp [fits] at f ⊢
/-- the two arrays are equal, place for place -/
def EqC (A B : Cell) : Prop := A.slots.size = B.slots.size ∧ ∀ i, i < A.slots.size → yv A i = yv B i
/-- a boolean that says whether p -/
def Says01 (q : Prop) (r : Option Value) (s u : State) : Prop := ∃ v : Int32, r = some (.int v) ∧ u.heap = s.heap ∧ ((v = 1 ∧ q) ∨ (v = 0 ∧ ¬ q))
theorem Says01.mv {q : Prop} : ∀ r (U U' V V' : State), U'.heap = U.heap → V.vm.Alike V'.vm → V'.heap = V.heap → Says01 q r U V → Says01 q r U' V' :=
  fun r U U' V V' h1 _ h2 ⟨v, a, b, c⟩ => ⟨v, a, by rw [h1, h2]; exact b, c⟩
namespace LEq
def yN : MethodName := ⟨"java/lang/StringLatin1", "equals", "([B[B)Z"⟩
abbrev yB : ByteArray := jdk_43_method_13_code
theorem d0 : decode yB 0 = .ok (.aload_n 0, 1) := by decide +kernel
theorem d1 : decode yB 1 = .ok (.arraylength, 1) := by decide +kernel
theorem d2 : decode yB 2 = .ok (.aload_n 1, 1) := by decide +kernel
theorem d3 : decode yB 3 = .ok (.arraylength, 1) := by decide +kernel
theorem d4 : decode yB 4 = .ok (.if_icmp (.ne) 30, 3) := by decide +kernel
theorem d7 : decode yB 7 = .ok (.iconst 0, 1) := by decide +kernel
theorem d8 : decode yB 8 = .ok (.istore_n 2, 1) := by decide +kernel
theorem d9 : decode yB 9 = .ok (.iload_n 2, 1) := by decide +kernel
theorem d10 : decode yB 10 = .ok (.aload_n 0, 1) := by decide +kernel
theorem d11 : decode yB 11 = .ok (.arraylength, 1) := by decide +kernel
theorem d12 : decode yB 12 = .ok (.if_icmp (.ge) 20, 3) := by decide +kernel
theorem d15 : decode yB 15 = .ok (.aload_n 0, 1) := by decide +kernel
theorem d16 : decode yB 16 = .ok (.iload_n 2, 1) := by decide +kernel
theorem d17 : decode yB 17 = .ok (.baload, 1) := by decide +kernel
theorem d18 : decode yB 18 = .ok (.aload_n 1, 1) := by decide +kernel
theorem d19 : decode yB 19 = .ok (.iload_n 2, 1) := by decide +kernel
theorem d20 : decode yB 20 = .ok (.baload, 1) := by decide +kernel
theorem d21 : decode yB 21 = .ok (.if_icmp (.eq) 5, 3) := by decide +kernel
theorem d24 : decode yB 24 = .ok (.iconst 0, 1) := by decide +kernel
theorem d25 : decode yB 25 = .ok (.ireturn, 1) := by decide +kernel
theorem d26 : decode yB 26 = .ok (.iinc 2 1, 3) := by decide +kernel
theorem d29 : decode yB 29 = .ok (.goto (-20), 3) := by decide +kernel
theorem d32 : decode yB 32 = .ok (.iconst 1, 1) := by decide +kernel
theorem d33 : decode yB 33 = .ok (.ireturn, 1) := by decide +kernel
theorem d34 : decode yB 34 = .ok (.iconst 0, 1) := by decide +kernel
theorem d35 : decode yB 35 = .ok (.ireturn, 1) := by decide +kernel
def site : List Cond := []
def tab : Cond := tabOf yN yB 3 (some .boolean) site
def P (a : Addr) (A : Cell) (b : Addr) (B : Cell) (args : Array Value) (s : State) : Prop := args = #[.ref a, .ref b] ∧ XT.Arr .byte a A s ∧ Typed .byte A ∧ XT.Arr .byte b B s ∧ Typed .byte B
/-- whether two byte[] are equal, place for place -/
theorem law (l : Launch) (a : Addr) (A : Cell) (b : Addr) (B : Cell) : Law l yN 2 2 0 0 yB 3 (some .boolean) site (P a A b B) (Says01 (EqC A B)) [] 0 0 := by
  refine Law.of_walk (plainFor_of_name (by decide +kernel)) (by decide +kernel) (by decide +kernel) (by decide) (fun _ _ h => by rw [h.1]; rfl) (fun _ U U' hal hh h => ⟨h.1, h.2.1.mv hal hh, h.2.2.1, h.2.2.2.1.mv hal hh, h.2.2.2.2⟩) (fun r U U' V V' h1 hal h2 h => Says01.mv r U U' V V' h1 hal h2 h) ?_
  intro p e s m args below meth c s₁ X0 hexec hbytes hml hret hlk hnm hown hh0 W hP
  obtain ⟨rfl, hA, tA, hB, tB⟩ := hP
  have a31 := hA.2.2.2
  have b31 := hB.2.2.2
  have hA0 := hA.mv X0.warmed.alike hh0
  have hB0 := hB.mv X0.warmed.alike hh0
  have c1 : Steps p.tables e below (s₁.setTop (entryFrame m #[.ref a, .ref b] 3)) (s₁.setTop (mkF m 0 #[.val (.ref a), .val (.ref b), .unset] [])) := entry rfl
  have c2 : Steps p.tables e below (s₁.setTop (entryFrame m #[.ref a, .ref b] 3)) (s₁.setTop (mkF m 4 #[.val (.ref a), .val (.ref b), .unset] [.int (Int32.ofNat B.slots.size), .int (Int32.ofNat A.slots.size)])) := c1.trans (by
    refine XS.aloadN X0.here hexec rfl (hb hbytes d0) rfl rfl ?_
    refine X0.alen hexec hA0 rfl rfl (hb hbytes d1) ?_
    refine XS.aloadN X0.here hexec rfl (hb hbytes d2) rfl rfl ?_
    refine X0.alen hexec hB0 rfl rfl (hb hbytes d3) ?_
    exact Steps.refl _)
  by_cases hs : A.slots.size = B.slots.size
  · have c3 : Steps p.tables e below (s₁.setTop (entryFrame m #[.ref a, .ref b] 3)) (s₁.setTop (mkF m 9 #[.val (.ref a), .val (.ref b), .val (.int 0)] [])) := c2.trans (by
      refine XS.icmpNo X0.here hexec rfl (hb hbytes d4) rfl (ii_ne_f (by rw [hs])) ?_
      refine iconstV X0.here hexec rfl 0 (hb hbytes d7) (by decide) ?_
      refine XS.istoreN X0.here hexec rfl (hb hbytes d8) rfl rfl ?_
      exact Steps.refl _)
    have loop : ∀ (r i : Nat), i + r = A.slots.size → (∀ j, j < i → yv A j = yv B j) → Steps p.tables e below (s₁.setTop (entryFrame m #[.ref a, .ref b] 3)) (s₁.setTop (mkF m 9 #[.val (.ref a), .val (.ref b), .val (.int (Int32.ofNat i))] [])) → ∃ (pc : Nat) (Ls : Array Slot) (v : Int32), (pc = 25 ∨ pc = 33) ∧ ((v = 1 ∧ EqC A B) ∨ (v = 0 ∧ ¬ EqC A B)) ∧ Steps p.tables e below (s₁.setTop (entryFrame m #[.ref a, .ref b] 3)) (s₁.setTop (mkF m pc Ls [.int v])) := by
      intro r
      induction r with
      | zero =>
        intro i hi he cl
        exact ⟨33, _, 1, Or.inr rfl, Or.inl ⟨rfl, hs, fun j hj => he j (by omega)⟩, cl.trans (by
          refine XS.iloadN X0.here hexec rfl (hb hbytes d9) rfl ?_
          refine XS.aloadN X0.here hexec rfl (hb hbytes d10) rfl rfl ?_
          refine X0.alen hexec hA0 rfl rfl (hb hbytes d11) ?_
          refine XS.icmpYes X0.here hexec rfl (pc0 := 12) rfl (hb hbytes d12) rfl (ii_ge_t (nlt32 (by omega) (by omega))) (by decide) rfl ?_
          refine iconstV X0.here hexec rfl 1 (hb hbytes d32) (by decide) ?_
          exact Steps.refl _)⟩
      | succ r ih =>
        intro i hi he cl
        have c4 : Steps p.tables e below (s₁.setTop (entryFrame m #[.ref a, .ref b] 3)) (s₁.setTop (mkF m 21 #[.val (.ref a), .val (.ref b), .val (.int (Int32.ofNat i))] [.int (yv B i), .int (yv A i)])) := cl.trans (by
          refine XS.iloadN X0.here hexec rfl (hb hbytes d9) rfl ?_
          refine XS.aloadN X0.here hexec rfl (hb hbytes d10) rfl rfl ?_
          refine X0.alen hexec hA0 rfl rfl (hb hbytes d11) ?_
          refine XS.icmpNo X0.here hexec rfl (hb hbytes d12) rfl (ii_ge_f (lt32 (by omega) (by omega))) ?_
          refine XS.aloadN X0.here hexec rfl (hb hbytes d15) rfl rfl ?_
          refine XS.iloadN X0.here hexec rfl (hb hbytes d16) rfl ?_
          refine X0.aget hexec hA0 rfl (yv_get hA tA (i := i) (by omega)) rfl rfl (hb hbytes d17) ?_
          refine XS.aloadN X0.here hexec rfl (hb hbytes d18) rfl rfl ?_
          refine XS.iloadN X0.here hexec rfl (hb hbytes d19) rfl ?_
          refine X0.aget hexec hB0 rfl (yv_get hB tB (i := i) (by omega)) rfl rfl (hb hbytes d20) ?_
          exact Steps.refl _)
        by_cases hv : yv A i = yv B i
        · have c5 : Steps p.tables e below (s₁.setTop (entryFrame m #[.ref a, .ref b] 3)) (s₁.setTop (mkF m 9 #[.val (.ref a), .val (.ref b), .val (.int (Int32.ofNat i + 1))] [])) := c4.trans (by
            refine XS.icmpYes X0.here hexec rfl (pc0 := 21) rfl (hb hbytes d21) rfl (ii_eq_t hv) (by decide) rfl ?_
            refine iincV X0.here hexec rfl 1 (hb hbytes d26) (by decide) rfl rfl ?_
            refine XS.goto X0.here hexec rfl (pc0 := 29) rfl (hb hbytes d29) (by decide) rfl ?_
            exact Steps.refl _)
          rw [succ32] at c5
          exact ih (i + 1) (by omega) (fun j hj => by
            by_cases e : j = i
            · rw [e]; exact hv
            · exact he j (by omega)) c5
        · exact ⟨25, _, 0, Or.inl rfl, Or.inr ⟨rfl, fun q => hv (q.2 i (by omega))⟩, c4.trans (by
            refine XS.icmpNo X0.here hexec rfl (hb hbytes d21) rfl (ii_eq_f hv) ?_
            refine iconstV X0.here hexec rfl 0 (hb hbytes d24) (by decide) ?_
            exact Steps.refl _)⟩
    obtain ⟨pc, Ls, v, hpc, hv, cz⟩ := loop A.slots.size 0 (by omega) (fun j hj => absurd hj (Nat.not_lt_zero j)) c3
    have nv : narrow .boolean (.int v) = .int v := by rcases hv with ⟨rfl, -⟩ | ⟨rfl, -⟩ <;> rfl
    rcases hpc with rfl | rfl
    · exact ⟨s₁, some (.int v), _, _, _, X0, rfl, rfl, rfl, (fun h => by cases h), ⟨v, rfl, hh0, hv⟩, fun fs hl => cz.trans (X0.ireturnOut hexec hret nv (Or.inr (Or.inl rfl)) (hb hbytes d25) hl)⟩
    · exact ⟨s₁, some (.int v), _, _, _, X0, rfl, rfl, rfl, (fun h => by cases h), ⟨v, rfl, hh0, hv⟩, fun fs hl => cz.trans (X0.ireturnOut hexec hret nv (Or.inr (Or.inl rfl)) (hb hbytes d33) hl)⟩
  · have c3 : Steps p.tables e below (s₁.setTop (entryFrame m #[.ref a, .ref b] 3)) (s₁.setTop (mkF m 35 #[.val (.ref a), .val (.ref b), .unset] [.int 0])) := c2.trans (by
      refine XS.icmpYes X0.here hexec rfl (pc0 := 4) rfl (hb hbytes d4) rfl (ii_ne_t (ne32 a31 b31 hs)) (by decide) rfl ?_
      refine iconstV X0.here hexec rfl 0 (hb hbytes d34) (by decide) ?_
      exact Steps.refl _)
    exact ⟨s₁, some (.int 0), _, _, _, X0, rfl, rfl, rfl, (fun h => by cases h), ⟨0, rfl, hh0, Or.inr ⟨rfl, fun q => hs q.1⟩⟩, fun fs hl => c3.trans (X0.ireturnOut hexec hret rfl (Or.inr (Or.inl rfl)) (hb hbytes d35) hl)⟩
end LEq
theorem Cod.ty {cd : Int32} {n : Nat} {f : Nat → Int32} {V : Cell} (h : Cod cd n f V) : Typed .byte V := fun i v hv => by
  have hi : i < V.slots.size := (Array.getElem?_eq_some_iff.mp hv).1
  rcases h with ⟨-, k1, k2⟩ | ⟨-, k1, k2, -⟩
  · rw [(k2 i (by omega)).1] at hv; cases hv; exact fits_lo8 _
  · rcases Nat.mod_two_eq_zero_or_one i with e | e
    · obtain ⟨j, rfl⟩ : ∃ j, i = 2 * j := ⟨i / 2, by omega⟩
      rw [(k2 j (by omega)).1] at hv; cases hv; exact fits_lo8 _
    · obtain ⟨j, rfl⟩ : ∃ j, i = 2 * j + 1 := ⟨i / 2, by omega⟩
      rw [(k2 j (by omega)).2] at hv; cases hv; exact fits_lo8 _
/-- the same text -/
def SameT (n : Nat) (f : Nat → Int32) (k : Nat) (g : Nat → Int32) : Prop := n = k ∧ ∀ j, j < n → f j = g j
theorem lo8_inj {x y : Int32} (h0 : ¬ x < 0) (h1 : ¬ 255 < x) (k0 : ¬ y < 0) (k1 : ¬ 255 < y) (h : lo8 x = lo8 y) : x = y := by
  rw [← lo8_mask h0 h1, ← lo8_mask k0 k1, h]
/-- arrays coded by one coder are equal just where the texts are -/
theorem Cod.eqv {cd : Int32} {n k : Nat} {f g : Nat → Int32} {V V' : Cell} (h : Cod cd n f V) (h' : Cod cd k g V') (hf : ∀ j, j < n → ¬ f j < 0 ∧ ¬ 65535 < f j) (hg : ∀ j, j < k → ¬ g j < 0 ∧ ¬ 65535 < g j) : EqC V V' ↔ SameT n f k g := by
  have yvv : ∀ {W : Cell} {i : Nat} {x : Int32}, W.slots[i]? = some (.int x) → yv W i = x := fun q => by unfold yv; rw [q]
  rcases h with ⟨rfl, k1, k2⟩ | ⟨rfl, k1, k2, -⟩
  · rcases h' with ⟨-, m1, m2⟩ | ⟨e, -⟩
    · constructor
      · rintro ⟨e1, e2⟩
        refine ⟨by omega, fun j hj => ?_⟩
        have q := e2 j (by omega)
        rw [yvv (k2 j hj).1, yvv (m2 j (by omega)).1] at q
        exact lo8_inj (hf j hj).1 (k2 j hj).2 (hg j (by omega)).1 (m2 j (by omega)).2 q
      · rintro ⟨rfl, e2⟩
        refine ⟨by omega, fun j hj => ?_⟩
        rw [yvv (k2 j (by omega)).1, yvv (m2 j (by omega)).1, e2 j (by omega)]
    · exact absurd e (by decide)
  · rcases h' with ⟨e, -⟩ | ⟨-, m1, m2, -⟩
    · exact absurd e (by decide)
    · constructor
      · rintro ⟨e1, e2⟩
        refine ⟨by omega, fun j hj => ?_⟩
        have q1 := e2 (2 * j) (by omega)
        have q2 := e2 (2 * j + 1) (by omega)
        rw [yvv (k2 j hj).1, yvv (m2 j (by omega)).1] at q1
        rw [yvv (k2 j hj).2, yvv (m2 j (by omega)).2] at q2
        rw [← pair_says (hf j hj).1 (hf j hj).2, ← pair_says (hg j (by omega)).1 (hg j (by omega)).2, q1, q2]
      · rintro ⟨rfl, e2⟩
        refine ⟨by omega, fun i hi => ?_⟩
        rcases Nat.mod_two_eq_zero_or_one i with e | e
        · obtain ⟨j, rfl⟩ : ∃ j, i = 2 * j := ⟨i / 2, by omega⟩
          rw [yvv (k2 j (by omega)).1, yvv (m2 j (by omega)).1, e2 j (by omega)]
        · obtain ⟨j, rfl⟩ : ∃ j, i = 2 * j + 1 := ⟨i / 2, by omega⟩
          rw [yvv (k2 j (by omega)).2, yvv (m2 j (by omega)).2, e2 j (by omega)]
/-- two codings differ: so do the texts -/
theorem Cod.dif {cd cd' : Int32} {n k : Nat} {f g : Nat → Int32} {V V' : Cell} (h : Cod cd n f V) (h' : Cod cd' k g V') (hne : ¬ cd = cd') : ¬ SameT n f k g := by
  rintro ⟨rfl, e⟩
  rcases h with ⟨rfl, -, k2⟩ | ⟨rfl, -, -, j, hj, hw⟩
  · rcases h' with ⟨rfl, -⟩ | ⟨-, -, -, j, hj, hw⟩
    · exact hne rfl
    · exact (k2 j hj).2 (by rw [e j hj]; exact hw)
  · rcases h' with ⟨-, -, m2⟩ | ⟨rfl, -⟩
    · exact (m2 j hj).2 (by rw [← e j hj]; exact hw)
    · exact hne rfl
/-- an object of exactly C is an instance of C -/
theorem cinst {p : Program} {l : Launch} {e : Env} {R : Room} {s : State} {m : MethodId} {args : Array Value} {below : List Frame} {meth : Method} {c : Code} {T : State} {locs : List Loc} {cells slots : Nat} (X : Stand p l e R s m args below meth c T locs cells slots) (hexec : p.tables.exec = Jvm.exec) {own C : String} {index : Nat} (hown : s.vm.findClass own = some m.cls) (hlink : (Cond.classLink own index C).before args s = true) {a : Addr} (hE : Exact C a T)
    {g : JFrame} (hg : g.method = m) {rest : List Value} (hstack : g.stack = .ref a :: rest) (hdg : decode c.code g.pc = .ok (.instanceof index, 3)) :
    ∃ T', Stand p l e R s m args below meth c T' locs cells slots ∧ T'.heap = T.heap ∧ ∀ target, Steps p.tables e below (T'.setTop { g with pc := g.pc + 3, stack := .int 1 :: rest }) target → Steps p.tables e below (T.setTop g) target := by
  obtain ⟨cB, h1, D, h2, h3, h4⟩ := hE
  have h1' : s.vm.findClass C = some cB := by rw [← X.warmed.alike.findClass]; exact h1
  obtain ⟨vm', X', st⟩ := X.instanceofYes hexec hown hlink h2 h4 h1' (by rw [h3]; exact Jvm.Free.SB.assignable_self _ _) hg hstack hdg
  exact ⟨_, X', rfl, st⟩
theorem cself {p : Program} {l : Launch} {e : Env} {R : Room} {s : State} {m : MethodId} {args : Array Value} {below : List Frame} {meth : Method} {c : Code} {T : State} {locs : List Loc} {cells slots : Nat} (X : Stand p l e R s m args below meth c T locs cells slots) (hexec : p.tables.exec = Jvm.exec) {own C : String} {index : Nat} (hown : s.vm.findClass own = some m.cls) (hlink : (Cond.classLink own index C).before args s = true) {a : Addr} (hE : Exact C a T)
    {g : JFrame} (hg : g.method = m) {rest : List Value} (hstack : g.stack = .ref a :: rest) (hdg : decode c.code g.pc = .ok (.checkcast index, 3)) :
    ∃ T', Stand p l e R s m args below meth c T' locs cells slots ∧ T'.heap = T.heap ∧ ∀ target, Steps p.tables e below (T'.setTop { g with pc := g.pc + 3, stack := .ref a :: rest }) target → Steps p.tables e below (T.setTop g) target := by
  obtain ⟨cB, h1, D, h2, h3, h4⟩ := hE
  have h1' : s.vm.findClass C = some cB := by rw [← X.warmed.alike.findClass]; exact h1
  obtain ⟨vm', X', st⟩ := X.checkcastYes hexec hown hlink h2 h4 h1' (by rw [h3]; exact Jvm.Free.SB.assignable_self _ _) hg hstack hdg
  exact ⟨_, X', rfl, fun t h => st t (by rw [← hstack] at h; exact h)⟩
namespace SEq
def yN : MethodName := ⟨"java/lang/String", "equals", "(Ljava/lang/Object;)Z"⟩
abbrev yB : ByteArray := jdk_42_method_66_code
theorem d0 : decode yB 0 = .ok (.aload_n 0, 1) := by decide +kernel
theorem d1 : decode yB 1 = .ok (.aload_n 1, 1) := by decide +kernel
theorem d2 : decode yB 2 = .ok (.if_acmp (.ne) 5, 3) := by decide +kernel
theorem d5 : decode yB 5 = .ok (.iconst 1, 1) := by decide +kernel
theorem d6 : decode yB 6 = .ok (.ireturn, 1) := by decide +kernel
theorem d7 : decode yB 7 = .ok (.aload_n 1, 1) := by decide +kernel
theorem d8 : decode yB 8 = .ok (.instanceof 10, 3) := by decide +kernel
theorem d11 : decode yB 11 = .ok (.ifCond (.eq) 43, 3) := by decide +kernel
theorem d14 : decode yB 14 = .ok (.aload_n 1, 1) := by decide +kernel
theorem d15 : decode yB 15 = .ok (.checkcast 10, 3) := by decide +kernel
theorem d18 : decode yB 18 = .ok (.astore_n 2, 1) := by decide +kernel
theorem d19 : decode yB 19 = .ok (.getstatic 38, 3) := by decide +kernel
theorem d22 : decode yB 22 = .ok (.ifCond (.eq) 14, 3) := by decide +kernel
theorem d25 : decode yB 25 = .ok (.aload_n 0, 1) := by decide +kernel
theorem d26 : decode yB 26 = .ok (.getfield 15, 3) := by decide +kernel
theorem d29 : decode yB 29 = .ok (.aload_n 2, 1) := by decide +kernel
theorem d30 : decode yB 30 = .ok (.getfield 15, 3) := by decide +kernel
theorem d33 : decode yB 33 = .ok (.if_icmp (.ne) 21, 3) := by decide +kernel
theorem d36 : decode yB 36 = .ok (.aload_n 0, 1) := by decide +kernel
theorem d37 : decode yB 37 = .ok (.getfield 9, 3) := by decide +kernel
theorem d40 : decode yB 40 = .ok (.aload_n 2, 1) := by decide +kernel
theorem d41 : decode yB 41 = .ok (.getfield 9, 3) := by decide +kernel
theorem d44 : decode yB 44 = .ok (.invokestatic 541, 3) := by decide +kernel
theorem d47 : decode yB 47 = .ok (.ifCond (.eq) 7, 3) := by decide +kernel
theorem d50 : decode yB 50 = .ok (.iconst 1, 1) := by decide +kernel
theorem d51 : decode yB 51 = .ok (.goto 4, 3) := by decide +kernel
theorem d54 : decode yB 54 = .ok (.iconst 0, 1) := by decide +kernel
theorem d55 : decode yB 55 = .ok (.ireturn, 1) := by decide +kernel
def site : List Cond := [.classLink "java/lang/String" 10 "java/lang/String", .fieldLink "java/lang/String" 38 "java/lang/String" "COMPACT_STRINGS" "Z", .fieldLink "java/lang/String" 15 "java/lang/String" "coder" "B", .fieldLink "java/lang/String" 9 "java/lang/String" "value" "[B", LEq.tab] ++ staticW "java/lang/String" 541 LEq.yN
def tab : Cond := tabOf yN yB 3 (some .boolean) site
def P (x t : Addr) (V : Cell) (cd : Int32) (n : Nat) (f : Nat → Int32) (y t' : Addr) (V' : Cell) (cd' : Int32) (k : Nat) (g : Nat → Int32) (z : Int32) (args : Array Value) (s : State) : Prop := args = #[.ref x, .ref y] ∧ Txt x t V cd n f s ∧ Txt y t' V' cd' k g s ∧ StaticIs s "java/lang/String" "COMPACT_STRINGS" "Z" (.int z) ∧ ¬ z = 0
/-- equals(Object) of two Strings: whether the texts are the same -/
theorem law (l : Launch) (x t : Addr) (V : Cell) (cd : Int32) (n : Nat) (f : Nat → Int32) (y t' : Addr) (V' : Cell) (cd' : Int32) (k : Nat) (g : Nat → Int32) (z : Int32) : Law l yN 2 1 1 14 yB 3 (some .boolean) site (P x t V cd n f y t' V' cd' k g z) (Says01 (SameT n f k g)) [] 0 0 := by
  refine Law.of_walk (plainFor_of_name (by decide +kernel)) (by decide +kernel) (by decide +kernel) (by decide) (fun _ _ h => by rw [h.1]; rfl) (fun _ U U' hal hh h => ⟨h.1, h.2.1.mv hal hh, h.2.2.1.mv hal hh, h.2.2.2.1.there hal hh, h.2.2.2.2⟩) (fun r U U' V V' h1 hal h2 h => Says01.mv r U U' V V' h1 hal h2 h) ?_
  intro p e s m args below meth c s₁ X0 hexec hbytes hml hret hlk hnm hown hh0 W hP
  obtain ⟨rfl, hx, hy, s1, hz⟩ := hP
  have c1 : Steps p.tables e below (s₁.setTop (entryFrame m #[.ref x, .ref y] 3)) (s₁.setTop (mkF m 2 #[.val (.ref x), .val (.ref y), .unset] [.ref y, .ref x])) := Steps.trans (entry rfl) (by
    show Steps p.tables e below (s₁.setTop (mkF m 0 #[.val (.ref x), .val (.ref y), .unset] [])) _
    refine XS.aloadN X0.here hexec rfl (hb hbytes d0) rfl rfl ?_
    refine XS.aloadN X0.here hexec rfl (hb hbytes d1) rfl rfl ?_
    exact Steps.refl _)
  by_cases hxy : x = y
  · have c2 : Steps p.tables e below (s₁.setTop (entryFrame m #[.ref x, .ref y] 3)) (s₁.setTop (mkF m 6 #[.val (.ref x), .val (.ref y), .unset] [.int 1])) := c1.trans (by
      refine acmpNo X0.here hexec rfl (hb hbytes d2) rfl rfl rfl (by simp [acmp, hxy]) ?_
      refine iconstV X0.here hexec rfl 1 (hb hbytes d5) (by decide) ?_
      exact Steps.refl _)
    subst hxy
    have ec : cd = cd' := by
      obtain ⟨D, fd, a1, a2, a3⟩ := hx.2.2.1
      obtain ⟨D', fd', b1, b2, b3⟩ := hy.2.2.1
      cases a1.symm.trans b1
      obtain ⟨q1, q2, q3, q4⟩ := a2.1
      obtain ⟨r1, r2, r3, r4⟩ := b2.1
      cases q4.symm.trans r4
      cases a3.symm.trans b3; rfl
    have et : t = t' := by
      obtain ⟨D, fd, a1, a2, a3⟩ := hx.2.1
      obtain ⟨D', fd', b1, b2, b3⟩ := hy.2.1
      cases a1.symm.trans b1
      obtain ⟨q1, q2, q3, q4⟩ := a2.1
      obtain ⟨r1, r2, r3, r4⟩ := b2.1
      cases q4.symm.trans r4
      cases a3.symm.trans b3; rfl
    subst ec et
    have ev : V = V' := by cases hx.2.2.2.1.1.symm.trans hy.2.2.2.1.1; rfl
    subst ev
    have hs : SameT n f k g := (Cod.eqv hx.2.2.2.2.1 hy.2.2.2.2.1 hx.2.2.2.2.2 hy.2.2.2.2.2).mp ⟨rfl, fun _ _ => rfl⟩
    exact ⟨s₁, some (.int 1), _, _, _, X0, rfl, rfl, rfl, (fun h => by cases h), ⟨1, rfl, hh0, Or.inl ⟨rfl, hs⟩⟩, fun fs hl => c2.trans (X0.ireturnOut hexec hret rfl (Or.inr (Or.inl rfl)) (hb hbytes d6) hl)⟩
  · have c2 : Steps p.tables e below (s₁.setTop (entryFrame m #[.ref x, .ref y] 3)) (s₁.setTop (mkF m 8 #[.val (.ref x), .val (.ref y), .unset] [.ref y])) := c1.trans (by
      refine acmpYes X0.here hexec rfl (pc0 := 2) rfl (hb hbytes d2) rfl rfl rfl (by simp [acmp, hxy]) (by decide) rfl ?_
      refine XS.aloadN X0.here hexec rfl (hb hbytes d7) rfl rfl ?_
      exact Steps.refl _)
    obtain ⟨T3, X3, q3, st3⟩ := cinst X0 hexec hown (wk W (.classLink "java/lang/String" 10 "java/lang/String")) (hy.mv X0.warmed.alike hh0).1 (g := (mkF m 8 #[.val (.ref x), .val (.ref y), .unset] [.ref y])) rfl (rest := []) rfl (hb hbytes d8)
    have hh3 := q3.trans hh0
    have c4 : Steps p.tables e below (s₁.setTop (entryFrame m #[.ref x, .ref y] 3)) (T3.setTop (mkF m 15 #[.val (.ref x), .val (.ref y), .unset] [.ref y])) := (c2.trans (st3 _ (Steps.refl _))).trans (by
      refine XS.ifNo X3.here hexec rfl (hb hbytes d11) rfl (i0_eq_f (by decide)) ?_
      refine XS.aloadN X3.here hexec rfl (hb hbytes d14) rfl rfl ?_
      exact Steps.refl _)
    obtain ⟨T5, X5, q5, st5⟩ := cself X3 hexec hown (wk W (.classLink "java/lang/String" 10 "java/lang/String")) (hy.mv X3.warmed.alike hh3).1 (g := (mkF m 15 #[.val (.ref x), .val (.ref y), .unset] [.ref y])) rfl (rest := []) rfl (hb hbytes d15)
    have hh5 := q5.trans hh3
    have c6 : Steps p.tables e below (s₁.setTop (entryFrame m #[.ref x, .ref y] 3)) (T5.setTop (mkF m 19 #[.val (.ref x), .val (.ref y), .val (.ref y)] [])) := (c4.trans (st5 _ (Steps.refl _))).trans (by
      refine XS.astoreN X5.here hexec rfl (hb hbytes d18) rfl rfl rfl ?_
      exact Steps.refl _)
    obtain ⟨T7, X7, q7, st7⟩ := X5.sget hexec hown (wk W (.fieldLink "java/lang/String" 38 "java/lang/String" "COMPACT_STRINGS" "Z")) s1 (fun _ _ h => by rw [hh5]; exact h) (g := (mkF m 19 #[.val (.ref x), .val (.ref y), .val (.ref y)] [])) rfl (hb hbytes d19)
    have hh7 := q7.trans hh5
    have c8 : Steps p.tables e below (s₁.setTop (entryFrame m #[.ref x, .ref y] 3)) (T7.setTop (mkF m 26 #[.val (.ref x), .val (.ref y), .val (.ref y)] [.ref x])) := (c6.trans (st7 _ (Steps.refl _))).trans (by
      refine XS.ifNo X7.here hexec rfl (hb hbytes d22) rfl (i0_eq_f hz) ?_
      refine XS.aloadN X7.here hexec rfl (hb hbytes d25) rfl rfl ?_
      exact Steps.refl _)
    obtain ⟨T9, X9, q9, st9⟩ := X7.hget hexec hown (wk W (.fieldLink "java/lang/String" 15 "java/lang/String" "coder" "B")) (hx.mv X7.warmed.alike hh7).2.2.1 (g := (mkF m 26 #[.val (.ref x), .val (.ref y), .val (.ref y)] [.ref x])) rfl (rest := []) rfl (hb hbytes d26)
    have hh9 := q9.trans hh7
    have c10 : Steps p.tables e below (s₁.setTop (entryFrame m #[.ref x, .ref y] 3)) (T9.setTop (mkF m 30 #[.val (.ref x), .val (.ref y), .val (.ref y)] [.ref y, .int cd])) := (c8.trans (st9 _ (Steps.refl _))).trans (by
      refine XS.aloadN X9.here hexec rfl (hb hbytes d29) rfl rfl ?_
      exact Steps.refl _)
    obtain ⟨T11, X11, q11, st11⟩ := X9.hget hexec hown (wk W (.fieldLink "java/lang/String" 15 "java/lang/String" "coder" "B")) (hy.mv X9.warmed.alike hh9).2.2.1 (g := (mkF m 30 #[.val (.ref x), .val (.ref y), .val (.ref y)] [.ref y, .int cd])) rfl (rest := [.int cd]) rfl (hb hbytes d30)
    have hh11 := q11.trans hh9
    have c12 : Steps p.tables e below (s₁.setTop (entryFrame m #[.ref x, .ref y] 3)) (T11.setTop (mkF m 33 #[.val (.ref x), .val (.ref y), .val (.ref y)] [.int cd', .int cd])) := c10.trans (st11 _ (Steps.refl _))
    by_cases hcd : cd = cd'
    · subst hcd
      have c13 : Steps p.tables e below (s₁.setTop (entryFrame m #[.ref x, .ref y] 3)) (T11.setTop (mkF m 37 #[.val (.ref x), .val (.ref y), .val (.ref y)] [.ref x])) := c12.trans (by
        refine XS.icmpNo X11.here hexec rfl (hb hbytes d33) rfl (ii_ne_f rfl) ?_
        refine XS.aloadN X11.here hexec rfl (hb hbytes d36) rfl rfl ?_
        exact Steps.refl _)
      obtain ⟨T14, X14, q14, st14⟩ := X11.hget hexec hown (wk W (.fieldLink "java/lang/String" 9 "java/lang/String" "value" "[B")) (hx.mv X11.warmed.alike hh11).2.1 (g := (mkF m 37 #[.val (.ref x), .val (.ref y), .val (.ref y)] [.ref x])) rfl (rest := []) rfl (hb hbytes d37)
      have hh14 := q14.trans hh11
      have c15 : Steps p.tables e below (s₁.setTop (entryFrame m #[.ref x, .ref y] 3)) (T14.setTop (mkF m 41 #[.val (.ref x), .val (.ref y), .val (.ref y)] [.ref y, .ref t])) := (c13.trans (st14 _ (Steps.refl _))).trans (by
        refine XS.aloadN X14.here hexec rfl (hb hbytes d40) rfl rfl ?_
        exact Steps.refl _)
      obtain ⟨T16, X16, q16, st16⟩ := X14.hget hexec hown (wk W (.fieldLink "java/lang/String" 9 "java/lang/String" "value" "[B")) (hy.mv X14.warmed.alike hh14).2.1 (g := (mkF m 41 #[.val (.ref x), .val (.ref y), .val (.ref y)] [.ref y, .ref t])) rfl (rest := [.ref t]) rfl (hb hbytes d41)
      have hh16 := q16.trans hh14
      have c17 : Steps p.tables e below (s₁.setTop (entryFrame m #[.ref x, .ref y] 3)) (T16.setTop (mkF m 44 #[.val (.ref x), .val (.ref y), .val (.ref y)] [.ref t', .ref t])) := c15.trans (st16 _ (Steps.refl _))
      obtain ⟨v18, T18, X18, E18, g18⟩ := X16.callS hexec (LEq.law l t V t' V') hown (wks W (staticW "java/lang/String" 541 LEq.yN)) (wk W LEq.tab) (W := 0) (Nat.le_of_ble_eq_true rfl) (Nat.le_of_ble_eq_true rfl) (Nat.le_refl _) (Nat.le_refl _) (g := (mkF m 44 #[.val (.ref x), .val (.ref y), .val (.ref y)] [.ref t', .ref t])) rfl (by rw [hml]; rfl) c17 (argsL := [.ref t, .ref t']) (rest := []) rfl rfl (by show 2 * 0 + 0 ≤ _; decide) (hb hbytes d44) (⟨rfl, hx.2.2.2.1.mv X16.warmed.alike hh16, hx.2.2.2.2.1.ty, hy.2.2.2.1.mv X16.warmed.alike hh16, hy.2.2.2.2.1.ty⟩)
      obtain ⟨v, rfl, q18, hv⟩ := E18
      have iff := Cod.eqv hx.2.2.2.2.1 hy.2.2.2.2.1 hx.2.2.2.2.2 hy.2.2.2.2.2
      rcases hv with ⟨rfl, he⟩ | ⟨rfl, he⟩
      · have c19 : Steps p.tables e below (s₁.setTop (entryFrame m #[.ref x, .ref y] 3)) (T18.setTop (mkF m 55 #[.val (.ref x), .val (.ref y), .val (.ref y)] [.int 1])) := Steps.trans g18 (by
          refine XS.ifNo X18.here hexec rfl (hb hbytes d47) rfl (i0_eq_f (by decide)) ?_
          refine iconstV X18.here hexec rfl 1 (hb hbytes d50) (by decide) ?_
          refine XS.goto X18.here hexec rfl (pc0 := 51) rfl (hb hbytes d51) (by decide) rfl ?_
          exact Steps.refl _)
        exact ⟨T18, some (.int 1), _, _, _, X18, rfl, rfl, rfl, (fun h => by cases h), ⟨1, rfl, q18.trans hh16, Or.inl ⟨rfl, iff.mp he⟩⟩, fun fs hl => c19.trans (X18.ireturnOut hexec hret rfl (Or.inr (Or.inl rfl)) (hb hbytes d55) hl)⟩
      · have c19 : Steps p.tables e below (s₁.setTop (entryFrame m #[.ref x, .ref y] 3)) (T18.setTop (mkF m 55 #[.val (.ref x), .val (.ref y), .val (.ref y)] [.int 0])) := Steps.trans g18 (by
          refine XS.ifYes X18.here hexec rfl (pc0 := 47) rfl (hb hbytes d47) rfl (i0_eq_t rfl) (by decide) rfl ?_
          refine iconstV X18.here hexec rfl 0 (hb hbytes d54) (by decide) ?_
          exact Steps.refl _)
        exact ⟨T18, some (.int 0), _, _, _, X18, rfl, rfl, rfl, (fun h => by cases h), ⟨0, rfl, q18.trans hh16, Or.inr ⟨rfl, fun q => he (iff.mpr q)⟩⟩, fun fs hl => c19.trans (X18.ireturnOut hexec hret rfl (Or.inr (Or.inl rfl)) (hb hbytes d55) hl)⟩
    · have c13 : Steps p.tables e below (s₁.setTop (entryFrame m #[.ref x, .ref y] 3)) (T11.setTop (mkF m 55 #[.val (.ref x), .val (.ref y), .val (.ref y)] [.int 0])) := c12.trans (by
        refine XS.icmpYes X11.here hexec rfl (pc0 := 33) rfl (hb hbytes d33) rfl (ii_ne_t hcd) (by decide) rfl ?_
        refine iconstV X11.here hexec rfl 0 (hb hbytes d54) (by decide) ?_
        exact Steps.refl _)
      exact ⟨T11, some (.int 0), _, _, _, X11, rfl, rfl, rfl, (fun h => by cases h), ⟨0, rfl, hh11, Or.inr ⟨rfl, Cod.dif hx.2.2.2.2.1 hy.2.2.2.2.1 hcd⟩⟩, fun fs hl => c13.trans (X11.ireturnOut hexec hret rfl (Or.inr (Or.inl rfl)) (hb hbytes d55) hl)⟩
theorem pays {l : Launch} {R : Room} {p : Program} {e : Env} {below : List Frame} {s : State} {sargs : Array Value} {len W : Nat} (x t : Addr) (V : Cell) (cd : Int32) (n : Nat) (f : Nat → Int32) (y t' : Addr) (V' : Cell) (cd' : Int32) (k : Nat) (g : Nat → Int32) (z : Int32) (htab : tab.before sargs s = true) (hfr : 2 ≤ R.frames) (hlo : W + 28 ≤ R.locals) :
    Back l R p e below s sargs yN len W (fun A₁ a₁ => A₁.cells + 0 ≤ R.cells ∧ A₁.slots + 0 ≤ R.slots ∧ P x t V cd n f y t' V' cd' k g z a₁ A₁.U) (fun A₁ _ v₁ B₁ => Says01 (SameT n f k g) v₁ A₁.U B₁.U ∧ B₁.locs = A₁.locs ++ [] ∧ B₁.cells = A₁.cells + 0 ∧ B₁.slots = A₁.slots + 0) :=
  (law l x t V cd n f y t' V' cd' k g z).pays htab hfr (by omega)
end SEq
end StrChars
namespace StrChars.Road
open Jvm Sem ClassFile Op Lib Jvm.Stand Jvm.Free Jvm.Free.XT
open Jvm.Lib.Cold (StaticIs)
/-- the words of String.equals(Object) -/
abbrev wordsEq : List Jvm.Cond := [.code SEq.yN SEq.yB 3 (some .boolean), .initialized ST, .classLink ST 10 ST, .fieldLink ST 38 ST "COMPACT_STRINGS" "Z", .fieldLink ST 15 ST "coder" "B", .fieldLink ST 9 ST "value" "[B", .methodLink ST 541 LEq.yN, .static LEq.yN, .code LEq.yN LEq.yB 3 (some .boolean), .initialized "java/lang/StringLatin1"]
theorem tabEq_of {a : Array Value} {s : State} (h : ∀ w ∈ wordsEq, w.before a s = true) : SEq.tab.before a s = true := by
  have hl : LEq.tab.before a s = true := unparts (wk h (.code LEq.yN LEq.yB 3 (some .boolean))) (wks h (.initialized LEq.yN.cls :: LEq.site))
  have q := consq hl h
  exact unparts (wk q (.code SEq.yN SEq.yB 3 (some .boolean))) (wks q (.initialized SEq.yN.cls :: SEq.site))
theorem movedEq {Z s : State} {a0 args : Array Value} (hZ : Z.Warmed39 s.vm) (hw : ∀ d ∈ wordsEq, d.before a0 Z = true) : ∀ d ∈ wordsEq, d.before args s = true := fun d hd => by
  have t : ∀ d ∈ wordsEq, (d.onTables && d.keepsFace) = true := by decide +kernel
  exact RoadKit.mv hZ (hw d hd) (t d hd)
/-- the road's facts of a String, as the laws ask it -/
theorem txt_of {Z U : State} {a0 : Array Value} {kI : Nat} (wi : (Jvm.Cond.instantiable ST kI).before a0 Z = true) (al : Z.vm.Alike U.vm) {x t : Addr} {kb : ClassId} {cs : List Int32} {cd N2 : Int32} {vs : List Value} (E : RoadKit.Exa Z U.heap x ST) (V : RoadKit.Fld Z U.heap x ST "value" "[B" (.ref t)) (C : RoadKit.Fld Z U.heap x ST "coder" "B" (.int cd)) (K : RoadKit.Arv Z U.heap t kb .byte N2 vs (.int 0)) (hc : CodA cs cd N2 vs) (hb : ∀ c ∈ cs, ¬ c < 0 ∧ ¬ (65535 : Int32) < c) (l2 : cs.length ≤ 4000) :
    ∃ A, Txt x t A cd cs.length (fun j => cs.getD j 0) U := by
  obtain ⟨A, K1, K2, K3, K4, K5, K6⟩ := K
  have hcod := hc.cod (by omega) K3 K5
  obtain ⟨D, fV, fC, hB, F1, F2, g1, g2, -, -⟩ := strObj wi al E V C
  exact ⟨A, ⟨_, hB.2.2.1, D, hB.1, rfl, by cases q : D.vm <;> first | rfl | exact absurd q (hB.2.1.2 _)⟩, Has.of hB F1 g1, Has.of hB F2 g2, ⟨K1.1, State.isArrayOf_alike al K1.2.1, K1.2.2, by rcases hcod with ⟨-, q, -⟩ | ⟨-, q, -⟩ <;> omega⟩, hcod, fun j hj => by
    have e : cs.getD j 0 = cs[j] := by simp [List.getD_eq_getElem?_getD, hj]
    show ¬ cs.getD j 0 < 0 ∧ ¬ 65535 < cs.getD j 0
    rw [e]; exact hb _ (List.getElem_mem _)⟩
theorem same_list (cs ds : List Int32) : SameT cs.length (fun j => cs.getD j 0) ds.length (fun j => ds.getD j 0) ↔ cs = ds := by
  constructor
  · rintro ⟨e, q⟩
    refine List.ext_getElem e fun j h1 h2 => ?_
    have := q j h1
    simpa [List.getD_eq_getElem?_getD, h1, h2] using this
  · rintro rfl
    exact ⟨rfl, fun _ _ => rfl⟩
/-- **equals(Object) OF TWO SUCH STRINGS**: 1 just where the chars are the same -/
theorem eqW {p : Program} {l : Launch} {e : Env} {R : Room} {s : State} {args : Array Value} {below : List Frame} {len W : Nat} {Z : State} {a0 : Array Value} {h : Heap} (hZ : Z.Warmed39 s.vm) (hw : ∀ d ∈ wordsEq, d.before a0 Z = true) {kI : Nat} (wi : (Jvm.Cond.instantiable ST kI).before a0 Z = true)
    {x t : Addr} {kb : ClassId} {cs : List Int32} {cd N2 : Int32} {vs : List Value} (E : RoadKit.Exa Z h x ST) (V : RoadKit.Fld Z h x ST "value" "[B" (.ref t)) (C : RoadKit.Fld Z h x ST "coder" "B" (.int cd)) (K : RoadKit.Arv Z h t kb .byte N2 vs (.int 0)) (hc : CodA cs cd N2 vs) (hb : ∀ c ∈ cs, ¬ c < 0 ∧ ¬ (65535 : Int32) < c) (l2 : cs.length ≤ 4000)
    {y t' : Addr} {kb' : ClassId} {ds : List Int32} {cd' N2' : Int32} {vs' : List Value} (E' : RoadKit.Exa Z h y ST) (V' : RoadKit.Fld Z h y ST "value" "[B" (.ref t')) (C' : RoadKit.Fld Z h y ST "coder" "B" (.int cd')) (K' : RoadKit.Arv Z h t' kb' .byte N2' vs' (.int 0)) (hc' : CodA ds cd' N2' vs') (hb' : ∀ c ∈ ds, ¬ c < 0 ∧ ¬ (65535 : Int32) < c) (l2' : ds.length ≤ 4000)
    {z : Int32} (S : RoadKit.Sta Z h ST "COMPACT_STRINGS" "Z" (.int z)) (hz : ¬ z = 0) (hfr : 2 ≤ R.frames) (hlo : W + 28 ≤ R.locals) :
    Back l R p e below s args (⟨"java/lang/String", "equals", "(Ljava/lang/Object;)Z"⟩ : MethodName) len W (fun P a => a = #[.ref x, .ref y] ∧ P.U.heap = h ∧ P.cells + 0 ≤ R.cells ∧ P.slots + 0 ≤ R.slots)
      (fun P _ v B => ∃ L, (((v = some (.int 1) ∧ cs = ds) ∨ (v = some (.int 0) ∧ ¬ cs = ds)) ∧ L = [] ∧ B.U.heap = h) ∧ B.locs = P.locs ++ L ∧ B.cells = P.cells + 0 ∧ B.slots = P.slots + 0) := by
  intro m meth c P g ig mk a X hg hsize hdg hW hn hp'
  obtain ⟨rfl, rfl, r1, r2⟩ := hp'
  have al : Z.vm.Alike P.U.vm := hZ.alike.trans X.warmed.alike
  obtain ⟨A, hx⟩ := txt_of wi al E V C K hc hb l2
  obtain ⟨A', hy⟩ := txt_of wi al E' V' C' K' hc' hb' l2'
  obtain ⟨v, B, X', ⟨⟨w, hv, hh, hq⟩, hl, hk, hs⟩, st⟩ := SEq.pays x t A cd cs.length (fun j => cs.getD j 0) y t' A' cd' ds.length (fun j => ds.getD j 0) z (tabEq_of (movedEq hZ hw)) hfr hlo m meth c P g ig mk _ X hg hsize hdg hW hn ⟨r1, r2, rfl, hx, hy, sta_is al S, hz⟩
  refine ⟨v, B, X', ⟨[], ⟨?_, rfl, hh⟩, hl, hk, hs⟩, st⟩
  rcases hq with ⟨rfl, q⟩ | ⟨rfl, q⟩
  · exact Or.inl ⟨hv, (same_list cs ds).mp q⟩
  · exact Or.inr ⟨hv, fun e => q ((same_list cs ds).mpr e)⟩
end StrChars.Road
namespace StrChars.Road
open Jvm Sem ClassFile Op Lib Jvm.Stand Jvm.Free Jvm.Free.XT
open Jvm.Lib.Cold (StaticIs)
/-- what backV says of its String, as the contracts of this text ask it: cs's low bytes, coder 0 -/
theorem codOf {cs : List Int32} {n : Nat} (hn : cs.length = n) (hb : ∀ c ∈ cs, ¬ 255 < c) : CodA cs 0 (Int32.ofNat n) ((cs.map lo8).map Value.int) := Or.inl ⟨rfl, by rw [hn], by simp [List.map_map, Function.comp_def], hb⟩
end StrChars.Road
end Jvm.Pilot.@@N@@
namespace Jvm.Pilot.@@N@@
open Jvm Jvm.ClassFile Sem Op Lib Jvm.Free Jvm.Stand Jvm.LawKit Jvm.RoadKit Jvm.OwnKit Bundle Jvm.Pilot.@@N@@.Jvm.D
theorem wd0 {Z : State} {a0 : Array Value} (hw : ∀ d ∈ tables_1, d.before a0 Z = true) : (Jvm.Cond.methodLink "com/example/nx1/nx1/HolderKeyEqualsPinLaw" (12 : Nat) ({ cls := "com/example/nx1/nx1/HolderKeyEqualsPinLaw", name := "mk", desc := "(I)Ljava/lang/String;" } : Jvm.MethodName)).before a0 Z = true := hw _ (List.mem_of_getElem? (i := 0) rfl)
theorem wd1 {Z : State} {a0 : Array Value} (hw : ∀ d ∈ tables_1, d.before a0 Z = true) : (Jvm.Cond.static ({ cls := "com/example/nx1/nx1/HolderKeyEqualsPinLaw", name := "mk", desc := "(I)Ljava/lang/String;" } : Jvm.MethodName)).before a0 Z = true := hw _ (List.mem_of_getElem? (i := 1) rfl)
theorem wd2 {Z : State} {a0 : Array Value} (hw : ∀ d ∈ tables_1, d.before a0 Z = true) : (Jvm.Cond.initialized "com/example/nx1/nx1/HolderKeyEqualsPinLaw").before a0 Z = true := hw _ (List.mem_of_getElem? (i := 2) rfl)
theorem wd3 {Z : State} {a0 : Array Value} (hw : ∀ d ∈ tables_1, d.before a0 Z = true) : (Jvm.Cond.code ({ cls := "com/example/nx1/nx1/HolderKeyEqualsPinLaw", name := "mk", desc := "(I)Ljava/lang/String;" } : Jvm.MethodName) method_2_code (5 : Nat) (Option.some (Jvm.ClassFile.FieldType.object "java/lang/String"))).before a0 Z = true := hw _ (List.mem_of_getElem? (i := 3) rfl)
theorem wd4 {Z : State} {a0 : Array Value} (hw : ∀ d ∈ tables_1, d.before a0 Z = true) : (Jvm.Cond.classLink "com/example/nx1/nx1/HolderKeyEqualsPinLaw" (7 : Nat) "java/lang/String").before a0 Z = true := hw _ (List.mem_of_getElem? (i := 4) rfl)
theorem wd5 {Z : State} {a0 : Array Value} (hw : ∀ d ∈ tables_1, d.before a0 Z = true) : (Jvm.Cond.instantiable "java/lang/String" (4 : Nat)).before a0 Z = true := hw _ (List.mem_of_getElem? (i := 5) rfl)
theorem wd6 {Z : State} {a0 : Array Value} (hw : ∀ d ∈ tables_1, d.before a0 Z = true) : (Jvm.Cond.initialized "java/lang/String").before a0 Z = true := hw _ (List.mem_of_getElem? (i := 6) rfl)
theorem wd7 {Z : State} {a0 : Array Value} (hw : ∀ d ∈ tables_1, d.before a0 Z = true) : (Jvm.Cond.arrayClass Jvm.ClassFile.FieldType.char).before a0 Z = true := hw _ (List.mem_of_getElem? (i := 7) rfl)
theorem wd8 {Z : State} {a0 : Array Value} (hw : ∀ d ∈ tables_1, d.before a0 Z = true) : (Jvm.Cond.methodLink "com/example/nx1/nx1/HolderKeyEqualsPinLaw" (9 : Nat) ({ cls := "java/lang/String", name := "<init>", desc := "([C)V" } : Jvm.MethodName)).before a0 Z = true := hw _ (List.mem_of_getElem? (i := 8) rfl)
theorem wd9 {Z : State} {a0 : Array Value} (hw : ∀ d ∈ tables_1, d.before a0 Z = true) : (Jvm.Cond.instanceMethod ({ cls := "java/lang/String", name := "<init>", desc := "([C)V" } : Jvm.MethodName)).before a0 Z = true := hw _ (List.mem_of_getElem? (i := 9) rfl)
theorem wd10 {Z : State} {a0 : Array Value} (hw : ∀ d ∈ tables_1, d.before a0 Z = true) : (Jvm.Cond.code ({ cls := "java/lang/String", name := "<init>", desc := "([C)V" } : Jvm.MethodName) jdk_42_method_3_code (2 : Nat) (Option.none : Option Jvm.ClassFile.FieldType)).before a0 Z = true := hw _ (List.mem_of_getElem? (i := 10) rfl)
theorem wd11 {Z : State} {a0 : Array Value} (hw : ∀ d ∈ tables_1, d.before a0 Z = true) : (Jvm.Cond.methodLink "java/lang/String" (27 : Nat) ({ cls := "java/lang/String", name := "<init>", desc := "([CIILjava/lang/Void;)V" } : Jvm.MethodName)).before a0 Z = true := hw _ (List.mem_of_getElem? (i := 11) rfl)
theorem wd12 {Z : State} {a0 : Array Value} (hw : ∀ d ∈ tables_1, d.before a0 Z = true) : (Jvm.Cond.instanceMethod ({ cls := "java/lang/String", name := "<init>", desc := "([CIILjava/lang/Void;)V" } : Jvm.MethodName)).before a0 Z = true := hw _ (List.mem_of_getElem? (i := 12) rfl)
theorem wd14 {Z : State} {a0 : Array Value} (hw : ∀ d ∈ tables_1, d.before a0 Z = true) : (Jvm.Cond.code ({ cls := "java/lang/String", name := "<init>", desc := "([CIILjava/lang/Void;)V" } : Jvm.MethodName) jdk_42_method_149_code (6 : Nat) (Option.none : Option Jvm.ClassFile.FieldType)).before a0 Z = true := hw _ (List.mem_of_getElem? (i := 14) rfl)
theorem wd15 {Z : State} {a0 : Array Value} (hw : ∀ d ∈ tables_1, d.before a0 Z = true) : (Jvm.Cond.methodLink "java/lang/String" (1 : Nat) ({ cls := "java/lang/Object", name := "<init>", desc := "()V" } : Jvm.MethodName)).before a0 Z = true := hw _ (List.mem_of_getElem? (i := 15) rfl)
theorem wd16 {Z : State} {a0 : Array Value} (hw : ∀ d ∈ tables_1, d.before a0 Z = true) : (Jvm.Cond.instanceMethod ({ cls := "java/lang/Object", name := "<init>", desc := "()V" } : Jvm.MethodName)).before a0 Z = true := hw _ (List.mem_of_getElem? (i := 16) rfl)
theorem wd17 {Z : State} {a0 : Array Value} (hw : ∀ d ∈ tables_1, d.before a0 Z = true) : (Jvm.Cond.code ({ cls := "java/lang/Object", name := "<init>", desc := "()V" } : Jvm.MethodName) object_method_1_code (1 : Nat) (Option.none : Option Jvm.ClassFile.FieldType)).before a0 Z = true := hw _ (List.mem_of_getElem? (i := 17) rfl)
theorem wd18 {Z : State} {a0 : Array Value} (hw : ∀ d ∈ tables_1, d.before a0 Z = true) : (Jvm.Cond.stringLink "java/lang/String" (7 : Nat) "").before a0 Z = true := hw _ (List.mem_of_getElem? (i := 18) rfl)
theorem wd19 {Z : State} {a0 : Array Value} (hw : ∀ d ∈ tables_1, d.before a0 Z = true) : (Jvm.Cond.arrayClass Jvm.ClassFile.FieldType.byte).before a0 Z = true := hw _ (List.mem_of_getElem? (i := 19) rfl)
theorem wd20 {Z : State} {a0 : Array Value} (hw : ∀ d ∈ tables_1, d.before a0 Z = true) : (Jvm.Cond.laysFinal "java/lang/String" "java/lang/String" "value" "[B").before a0 Z = true := hw _ (List.mem_of_getElem? (i := 20) rfl)
theorem wd21 {Z : State} {a0 : Array Value} (hw : ∀ d ∈ tables_1, d.before a0 Z = true) : (Jvm.Cond.laysFinal "java/lang/String" "java/lang/String" "coder" "B").before a0 Z = true := hw _ (List.mem_of_getElem? (i := 21) rfl)
theorem wd24 {Z : State} {a0 : Array Value} (hw : ∀ d ∈ tables_1, d.before a0 Z = true) : (Jvm.Cond.fieldLink "java/lang/String" (9 : Nat) "java/lang/String" "value" "[B").before a0 Z = true := hw _ (List.mem_of_getElem? (i := 24) rfl)
theorem wd25 {Z : State} {a0 : Array Value} (hw : ∀ d ∈ tables_1, d.before a0 Z = true) : (Jvm.Cond.fieldLink "java/lang/String" (15 : Nat) "java/lang/String" "coder" "B").before a0 Z = true := hw _ (List.mem_of_getElem? (i := 25) rfl)
theorem wd26 {Z : State} {a0 : Array Value} (hw : ∀ d ∈ tables_1, d.before a0 Z = true) : (Jvm.Cond.classLink "com/example/nx1/nx1/HolderKeyEqualsPinLaw" (18 : Nat) "com/example/nx1/nx1/HolderKey").before a0 Z = true := hw _ (List.mem_of_getElem? (i := 26) rfl)
theorem wd27 {Z : State} {a0 : Array Value} (hw : ∀ d ∈ tables_1, d.before a0 Z = true) : (Jvm.Cond.instantiable "com/example/nx1/nx1/HolderKey" (3 : Nat)).before a0 Z = true := hw _ (List.mem_of_getElem? (i := 27) rfl)
theorem wd28 {Z : State} {a0 : Array Value} (hw : ∀ d ∈ tables_1, d.before a0 Z = true) : (Jvm.Cond.initialized "com/example/nx1/nx1/HolderKey").before a0 Z = true := hw _ (List.mem_of_getElem? (i := 28) rfl)
theorem wd29 {Z : State} {a0 : Array Value} (hw : ∀ d ∈ tables_1, d.before a0 Z = true) : (Jvm.Cond.methodLink "com/example/nx1/nx1/HolderKeyEqualsPinLaw" (20 : Nat) ({ cls := "com/example/nx1/nx1/HolderKey", name := "<init>", desc := "(Ljava/lang/String;Ljava/lang/String;)V" } : Jvm.MethodName)).before a0 Z = true := hw _ (List.mem_of_getElem? (i := 29) rfl)
theorem wd30 {Z : State} {a0 : Array Value} (hw : ∀ d ∈ tables_1, d.before a0 Z = true) : (Jvm.Cond.instanceMethod ({ cls := "com/example/nx1/nx1/HolderKey", name := "<init>", desc := "(Ljava/lang/String;Ljava/lang/String;)V" } : Jvm.MethodName)).before a0 Z = true := hw _ (List.mem_of_getElem? (i := 30) rfl)
theorem wd31 {Z : State} {a0 : Array Value} (hw : ∀ d ∈ tables_1, d.before a0 Z = true) : (Jvm.Cond.code ({ cls := "com/example/nx1/nx1/HolderKey", name := "<init>", desc := "(Ljava/lang/String;Ljava/lang/String;)V" } : Jvm.MethodName) prog_4_method_1_code (3 : Nat) (Option.none : Option Jvm.ClassFile.FieldType)).before a0 Z = true := hw _ (List.mem_of_getElem? (i := 31) rfl)
theorem wd32 {Z : State} {a0 : Array Value} (hw : ∀ d ∈ tables_1, d.before a0 Z = true) : (Jvm.Cond.methodLink "com/example/nx1/nx1/HolderKey" (1 : Nat) ({ cls := "java/lang/Object", name := "<init>", desc := "()V" } : Jvm.MethodName)).before a0 Z = true := hw _ (List.mem_of_getElem? (i := 32) rfl)
theorem wd33 {Z : State} {a0 : Array Value} (hw : ∀ d ∈ tables_1, d.before a0 Z = true) : (Jvm.Cond.fieldLink "com/example/nx1/nx1/HolderKey" (7 : Nat) "com/example/nx1/nx1/HolderKey" "name" "Ljava/lang/String;").before a0 Z = true := hw _ (List.mem_of_getElem? (i := 33) rfl)
theorem wd34 {Z : State} {a0 : Array Value} (hw : ∀ d ∈ tables_1, d.before a0 Z = true) : (Jvm.Cond.laysFinal "com/example/nx1/nx1/HolderKey" "com/example/nx1/nx1/HolderKey" "name" "Ljava/lang/String;").before a0 Z = true := hw _ (List.mem_of_getElem? (i := 34) rfl)
theorem wd35 {Z : State} {a0 : Array Value} (hw : ∀ d ∈ tables_1, d.before a0 Z = true) : (Jvm.Cond.fieldLink "com/example/nx1/nx1/HolderKey" (13 : Nat) "com/example/nx1/nx1/HolderKey" "holder" "Ljava/lang/String;").before a0 Z = true := hw _ (List.mem_of_getElem? (i := 35) rfl)
theorem wd36 {Z : State} {a0 : Array Value} (hw : ∀ d ∈ tables_1, d.before a0 Z = true) : (Jvm.Cond.laysFinal "com/example/nx1/nx1/HolderKey" "com/example/nx1/nx1/HolderKey" "holder" "Ljava/lang/String;").before a0 Z = true := hw _ (List.mem_of_getElem? (i := 36) rfl)
theorem wd37 {Z : State} {a0 : Array Value} (hw : ∀ d ∈ tables_1, d.before a0 Z = true) : (Jvm.Cond.methodLink "com/example/nx1/nx1/HolderKey" (16 : Nat) ({ cls := "java/lang/String", name := "hashCode", desc := "()I" } : Jvm.MethodName)).before a0 Z = true := hw _ (List.mem_of_getElem? (i := 37) rfl)
theorem wd38 {Z : State} {a0 : Array Value} (hw : ∀ d ∈ tables_1, d.before a0 Z = true) : (Jvm.Cond.declares ({ cls := "java/lang/String", name := "hashCode", desc := "()I" } : Jvm.MethodName)).before a0 Z = true := hw _ (List.mem_of_getElem? (i := 38) rfl)
theorem wd39 {Z : State} {a0 : Array Value} (hw : ∀ d ∈ tables_1, d.before a0 Z = true) : (Jvm.Cond.instanceMethod ({ cls := "java/lang/String", name := "hashCode", desc := "()I" } : Jvm.MethodName)).before a0 Z = true := hw _ (List.mem_of_getElem? (i := 39) rfl)
theorem wd40 {Z : State} {a0 : Array Value} (hw : ∀ d ∈ tables_1, d.before a0 Z = true) : (Jvm.Cond.selects "java/lang/String" ({ cls := "java/lang/String", name := "hashCode", desc := "()I" } : Jvm.MethodName) ({ cls := "java/lang/String", name := "hashCode", desc := "()I" } : Jvm.MethodName)).before a0 Z = true := hw _ (List.mem_of_getElem? (i := 40) rfl)
theorem wd41 {Z : State} {a0 : Array Value} (hw : ∀ d ∈ tables_1, d.before a0 Z = true) : (Jvm.Cond.code ({ cls := "java/lang/String", name := "hashCode", desc := "()I" } : Jvm.MethodName) jdk_42_method_78_code (2 : Nat) (Option.some Jvm.ClassFile.FieldType.int)).before a0 Z = true := hw _ (List.mem_of_getElem? (i := 41) rfl)
theorem wd42 {Z : State} {a0 : Array Value} (hw : ∀ d ∈ tables_1, d.before a0 Z = true) : (Jvm.Cond.fieldLink "java/lang/String" (19 : Nat) "java/lang/String" "hash" "I").before a0 Z = true := hw _ (List.mem_of_getElem? (i := 42) rfl)
theorem wd43 {Z : State} {a0 : Array Value} (hw : ∀ d ∈ tables_1, d.before a0 Z = true) : (Jvm.Cond.lays "java/lang/String" "java/lang/String" "hash" "I").before a0 Z = true := hw _ (List.mem_of_getElem? (i := 43) rfl)
theorem wd44 {Z : State} {a0 : Array Value} (hw : ∀ d ∈ tables_1, d.before a0 Z = true) : (Jvm.Cond.fieldLink "java/lang/String" (23 : Nat) "java/lang/String" "hashIsZero" "Z").before a0 Z = true := hw _ (List.mem_of_getElem? (i := 44) rfl)
theorem wd45 {Z : State} {a0 : Array Value} (hw : ∀ d ∈ tables_1, d.before a0 Z = true) : (Jvm.Cond.lays "java/lang/String" "java/lang/String" "hashIsZero" "Z").before a0 Z = true := hw _ (List.mem_of_getElem? (i := 45) rfl)
theorem wd46 {Z : State} {a0 : Array Value} (hw : ∀ d ∈ tables_1, d.before a0 Z = true) : (Jvm.Cond.methodLink "java/lang/String" (492 : Nat) ({ cls := "java/lang/String", name := "isLatin1", desc := "()Z" } : Jvm.MethodName)).before a0 Z = true := hw _ (List.mem_of_getElem? (i := 46) rfl)
theorem wd47 {Z : State} {a0 : Array Value} (hw : ∀ d ∈ tables_1, d.before a0 Z = true) : (Jvm.Cond.declares ({ cls := "java/lang/String", name := "isLatin1", desc := "()Z" } : Jvm.MethodName)).before a0 Z = true := hw _ (List.mem_of_getElem? (i := 47) rfl)
theorem wd48 {Z : State} {a0 : Array Value} (hw : ∀ d ∈ tables_1, d.before a0 Z = true) : (Jvm.Cond.instanceMethod ({ cls := "java/lang/String", name := "isLatin1", desc := "()Z" } : Jvm.MethodName)).before a0 Z = true := hw _ (List.mem_of_getElem? (i := 48) rfl)
theorem wd49 {Z : State} {a0 : Array Value} (hw : ∀ d ∈ tables_1, d.before a0 Z = true) : (Jvm.Cond.selects "java/lang/String" ({ cls := "java/lang/String", name := "isLatin1", desc := "()Z" } : Jvm.MethodName) ({ cls := "java/lang/String", name := "isLatin1", desc := "()Z" } : Jvm.MethodName)).before a0 Z = true := hw _ (List.mem_of_getElem? (i := 49) rfl)
theorem wd50 {Z : State} {a0 : Array Value} (hw : ∀ d ∈ tables_1, d.before a0 Z = true) : (Jvm.Cond.code ({ cls := "java/lang/String", name := "isLatin1", desc := "()Z" } : Jvm.MethodName) jdk_42_method_154_code (1 : Nat) (Option.some Jvm.ClassFile.FieldType.boolean)).before a0 Z = true := hw _ (List.mem_of_getElem? (i := 50) rfl)
theorem wd51 {Z : State} {a0 : Array Value} (hw : ∀ d ∈ tables_1, d.before a0 Z = true) : (Jvm.Cond.fieldLink "java/lang/String" (38 : Nat) "java/lang/String" "COMPACT_STRINGS" "Z").before a0 Z = true := hw _ (List.mem_of_getElem? (i := 51) rfl)
theorem wd52 {Z : State} {a0 : Array Value} (hw : ∀ d ∈ tables_1, d.before a0 Z = true) : (Jvm.Cond.methodLink "java/lang/String" (628 : Nat) ({ cls := "java/lang/StringLatin1", name := "hashCode", desc := "([B)I" } : Jvm.MethodName)).before a0 Z = true := hw _ (List.mem_of_getElem? (i := 52) rfl)
theorem wd53 {Z : State} {a0 : Array Value} (hw : ∀ d ∈ tables_1, d.before a0 Z = true) : (Jvm.Cond.static ({ cls := "java/lang/StringLatin1", name := "hashCode", desc := "([B)I" } : Jvm.MethodName)).before a0 Z = true := hw _ (List.mem_of_getElem? (i := 53) rfl)
theorem wd54 {Z : State} {a0 : Array Value} (hw : ∀ d ∈ tables_1, d.before a0 Z = true) : (Jvm.Cond.initialized "java/lang/StringLatin1").before a0 Z = true := hw _ (List.mem_of_getElem? (i := 54) rfl)
theorem wd55 {Z : State} {a0 : Array Value} (hw : ∀ d ∈ tables_1, d.before a0 Z = true) : (Jvm.Cond.code ({ cls := "java/lang/StringLatin1", name := "hashCode", desc := "([B)I" } : Jvm.MethodName) jdk_43_method_21_code (1 : Nat) (Option.some Jvm.ClassFile.FieldType.int)).before a0 Z = true := hw _ (List.mem_of_getElem? (i := 55) rfl)
theorem wd56 {Z : State} {a0 : Array Value} (hw : ∀ d ∈ tables_1, d.before a0 Z = true) : (Jvm.Cond.fieldLink "com/example/nx1/nx1/HolderKey" (22 : Nat) "com/example/nx1/nx1/HolderKey" "hash" "I").before a0 Z = true := hw _ (List.mem_of_getElem? (i := 56) rfl)
theorem wd57 {Z : State} {a0 : Array Value} (hw : ∀ d ∈ tables_1, d.before a0 Z = true) : (Jvm.Cond.laysFinal "com/example/nx1/nx1/HolderKey" "com/example/nx1/nx1/HolderKey" "hash" "I").before a0 Z = true := hw _ (List.mem_of_getElem? (i := 57) rfl)
theorem wd58 {Z : State} {a0 : Array Value} (hw : ∀ d ∈ tables_1, d.before a0 Z = true) : (Jvm.Cond.methodLink "com/example/nx1/nx1/HolderKeyEqualsPinLaw" (27 : Nat) ({ cls := "java/lang/String", name := "equals", desc := "(Ljava/lang/Object;)Z" } : Jvm.MethodName)).before a0 Z = true := hw _ (List.mem_of_getElem? (i := 58) rfl)
theorem wd59 {Z : State} {a0 : Array Value} (hw : ∀ d ∈ tables_1, d.before a0 Z = true) : (Jvm.Cond.declares ({ cls := "java/lang/String", name := "equals", desc := "(Ljava/lang/Object;)Z" } : Jvm.MethodName)).before a0 Z = true := hw _ (List.mem_of_getElem? (i := 59) rfl)
theorem wd60 {Z : State} {a0 : Array Value} (hw : ∀ d ∈ tables_1, d.before a0 Z = true) : (Jvm.Cond.instanceMethod ({ cls := "java/lang/String", name := "equals", desc := "(Ljava/lang/Object;)Z" } : Jvm.MethodName)).before a0 Z = true := hw _ (List.mem_of_getElem? (i := 60) rfl)
theorem wd61 {Z : State} {a0 : Array Value} (hw : ∀ d ∈ tables_1, d.before a0 Z = true) : (Jvm.Cond.selects "java/lang/String" ({ cls := "java/lang/String", name := "equals", desc := "(Ljava/lang/Object;)Z" } : Jvm.MethodName) ({ cls := "java/lang/String", name := "equals", desc := "(Ljava/lang/Object;)Z" } : Jvm.MethodName)).before a0 Z = true := hw _ (List.mem_of_getElem? (i := 61) rfl)
theorem wd67 {Z : State} {a0 : Array Value} (hw : ∀ d ∈ tables_1, d.before a0 Z = true) : (Jvm.Cond.methodLink "com/example/nx1/nx1/HolderKeyEqualsPinLaw" (23 : Nat) ({ cls := "com/example/nx1/nx1/HolderKey", name := "equals", desc := "(Ljava/lang/Object;)Z" } : Jvm.MethodName)).before a0 Z = true := hw _ (List.mem_of_getElem? (i := 67) rfl)
theorem wd68 {Z : State} {a0 : Array Value} (hw : ∀ d ∈ tables_1, d.before a0 Z = true) : (Jvm.Cond.declares ({ cls := "com/example/nx1/nx1/HolderKey", name := "equals", desc := "(Ljava/lang/Object;)Z" } : Jvm.MethodName)).before a0 Z = true := hw _ (List.mem_of_getElem? (i := 68) rfl)
theorem wd69 {Z : State} {a0 : Array Value} (hw : ∀ d ∈ tables_1, d.before a0 Z = true) : (Jvm.Cond.instanceMethod ({ cls := "com/example/nx1/nx1/HolderKey", name := "equals", desc := "(Ljava/lang/Object;)Z" } : Jvm.MethodName)).before a0 Z = true := hw _ (List.mem_of_getElem? (i := 69) rfl)
theorem wd70 {Z : State} {a0 : Array Value} (hw : ∀ d ∈ tables_1, d.before a0 Z = true) : (Jvm.Cond.selects "com/example/nx1/nx1/HolderKey" ({ cls := "com/example/nx1/nx1/HolderKey", name := "equals", desc := "(Ljava/lang/Object;)Z" } : Jvm.MethodName) ({ cls := "com/example/nx1/nx1/HolderKey", name := "equals", desc := "(Ljava/lang/Object;)Z" } : Jvm.MethodName)).before a0 Z = true := hw _ (List.mem_of_getElem? (i := 70) rfl)
theorem wd71 {Z : State} {a0 : Array Value} (hw : ∀ d ∈ tables_1, d.before a0 Z = true) : (Jvm.Cond.code ({ cls := "com/example/nx1/nx1/HolderKey", name := "equals", desc := "(Ljava/lang/Object;)Z" } : Jvm.MethodName) prog_4_method_3_code (3 : Nat) (Option.some Jvm.ClassFile.FieldType.boolean)).before a0 Z = true := hw _ (List.mem_of_getElem? (i := 71) rfl)
theorem wd72 {Z : State} {a0 : Array Value} (hw : ∀ d ∈ tables_1, d.before a0 Z = true) : (Jvm.Cond.classLink "com/example/nx1/nx1/HolderKey" (8 : Nat) "com/example/nx1/nx1/HolderKey").before a0 Z = true := hw _ (List.mem_of_getElem? (i := 72) rfl)
theorem wd74 {Z : State} {a0 : Array Value} (hw : ∀ d ∈ tables_1, d.before a0 Z = true) : (Jvm.Cond.methodLink "com/example/nx1/nx1/HolderKey" (26 : Nat) ({ cls := "java/lang/String", name := "equals", desc := "(Ljava/lang/Object;)Z" } : Jvm.MethodName)).before a0 Z = true := hw _ (List.mem_of_getElem? (i := 74) rfl)
theorem wd85 {Z : State} {a0 : Array Value} (hw : ∀ d ∈ tables_1, d.before a0 Z = true) : (Jvm.Cond.methodLink "java/lang/StringLatin1" (84 : Nat) ({ cls := "jdk/internal/util/ArraysSupport", name := "vectorizedHashCode", desc := "(Ljava/lang/Object;IIII)I" } : Jvm.MethodName)).before a0 Z = true := hw _ (List.mem_of_getElem? (i := 85) rfl)
theorem wd86 {Z : State} {a0 : Array Value} (hw : ∀ d ∈ tables_1, d.before a0 Z = true) : (Jvm.Cond.static ({ cls := "jdk/internal/util/ArraysSupport", name := "vectorizedHashCode", desc := "(Ljava/lang/Object;IIII)I" } : Jvm.MethodName)).before a0 Z = true := hw _ (List.mem_of_getElem? (i := 86) rfl)
theorem wd87 {Z : State} {a0 : Array Value} (hw : ∀ d ∈ tables_1, d.before a0 Z = true) : (Jvm.Cond.initialized "jdk/internal/util/ArraysSupport").before a0 Z = true := hw _ (List.mem_of_getElem? (i := 87) rfl)
theorem wd88 {Z : State} {a0 : Array Value} (hw : ∀ d ∈ tables_1, d.before a0 Z = true) : (Jvm.Cond.code ({ cls := "jdk/internal/util/ArraysSupport", name := "vectorizedHashCode", desc := "(Ljava/lang/Object;IIII)I" } : Jvm.MethodName) jdk_48_method_4_code (5 : Nat) (Option.some Jvm.ClassFile.FieldType.int)).before a0 Z = true := hw _ (List.mem_of_getElem? (i := 88) rfl)
theorem wd89 {Z : State} {a0 : Array Value} (hw : ∀ d ∈ tables_1, d.before a0 Z = true) : (Jvm.Cond.classLink "jdk/internal/util/ArraysSupport" (60 : Nat) "[B").before a0 Z = true := hw _ (List.mem_of_getElem? (i := 89) rfl)
theorem wd91 {Z : State} {a0 : Array Value} (hw : ∀ d ∈ tables_1, d.before a0 Z = true) : (Jvm.Cond.methodLink "jdk/internal/util/ArraysSupport" (62 : Nat) ({ cls := "jdk/internal/util/ArraysSupport", name := "signedHashCode", desc := "(I[BII)I" } : Jvm.MethodName)).before a0 Z = true := hw _ (List.mem_of_getElem? (i := 91) rfl)
theorem wd92 {Z : State} {a0 : Array Value} (hw : ∀ d ∈ tables_1, d.before a0 Z = true) : (Jvm.Cond.static ({ cls := "jdk/internal/util/ArraysSupport", name := "signedHashCode", desc := "(I[BII)I" } : Jvm.MethodName)).before a0 Z = true := hw _ (List.mem_of_getElem? (i := 92) rfl)
theorem wd93 {Z : State} {a0 : Array Value} (hw : ∀ d ∈ tables_1, d.before a0 Z = true) : (Jvm.Cond.code ({ cls := "jdk/internal/util/ArraysSupport", name := "signedHashCode", desc := "(I[BII)I" } : Jvm.MethodName) jdk_48_method_5_code (6 : Nat) (Option.some Jvm.ClassFile.FieldType.int)).before a0 Z = true := hw _ (List.mem_of_getElem? (i := 93) rfl)
theorem wd94 {Z : State} {a0 : Array Value} (hw : ∀ d ∈ tables_1, d.before a0 Z = true) : (Jvm.Cond.superclass "java/lang/String" "java/lang/Object").before a0 Z = true := hw _ (List.mem_of_getElem? (i := 94) rfl)
theorem wd95 {Z : State} {a0 : Array Value} (hw : ∀ d ∈ tables_1, d.before a0 Z = true) : (Jvm.Cond.noSuperclass "java/lang/Object").before a0 Z = true := hw _ (List.mem_of_getElem? (i := 95) rfl)
theorem pd_0 : parseMethodDescriptor "(I[BII)I" = some ⟨[.int, (.array .byte), .int, .int], some .int⟩ := by decide +kernel
theorem pd_1 : parseMethodDescriptor "(Ljava/lang/Object;IIII)I" = some ⟨[(.object "java/lang/Object"), .int, .int, .int, .int], some .int⟩ := by decide +kernel
theorem pd_2 : parseMethodDescriptor "()Z" = some ⟨[], some .boolean⟩ := by decide +kernel
theorem pd_3 : parseMethodDescriptor "([B)I" = some ⟨[(.array .byte)], some .int⟩ := by decide +kernel
theorem pd_4 : parseMethodDescriptor "([CIILjava/lang/Void;)V" = some ⟨[(.array .char), .int, .int, (.object "java/lang/Void")], none⟩ := by decide +kernel
theorem pd_5 : parseMethodDescriptor "([C)V" = some ⟨[(.array .char)], none⟩ := by decide +kernel
theorem pd_6 : parseMethodDescriptor "()I" = some ⟨[], some .int⟩ := by decide +kernel
theorem pd_7 : parseMethodDescriptor "(Ljava/lang/Object;)Z" = some ⟨[(.object "java/lang/Object")], some .boolean⟩ := by decide +kernel
theorem pd_8 : parseMethodDescriptor "(I)Ljava/lang/String;" = some ⟨[.int], some (.object "java/lang/String")⟩ := by decide +kernel
theorem pd_9 : parseMethodDescriptor "(Ljava/lang/String;Ljava/lang/String;)V" = some ⟨[(.object "java/lang/String"), (.object "java/lang/String")], none⟩ := by decide +kernel
theorem d16_8 : decode jdk_48_method_5_code 8 = .ok (.iload 5, 2) := by decide +kernel
theorem d16_10 : decode jdk_48_method_5_code 10 = .ok (.iload 4, 2) := by decide +kernel
theorem d16_12 : decode jdk_48_method_5_code 12 = .ok (.if_icmp .ge 23, 3) := by decide +kernel
theorem d16_35 : decode jdk_48_method_5_code 35 = .ok (.iload_n 0, 1) := by decide +kernel
theorem d16_36 : decode jdk_48_method_5_code 36 = .ok (.ireturn, 1) := by decide +kernel
theorem d16_15 : decode jdk_48_method_5_code 15 = .ok (.bipush 31, 2) := by decide +kernel
theorem d16_17 : decode jdk_48_method_5_code 17 = .ok (.iload_n 0, 1) := by decide +kernel
theorem d16_18 : decode jdk_48_method_5_code 18 = .ok (.imul, 1) := by decide +kernel
theorem d16_19 : decode jdk_48_method_5_code 19 = .ok (.aload_n 1, 1) := by decide +kernel
theorem d16_20 : decode jdk_48_method_5_code 20 = .ok (.iload 5, 2) := by decide +kernel
theorem d16_22 : decode jdk_48_method_5_code 22 = .ok (.baload, 1) := by decide +kernel
theorem d16_23 : decode jdk_48_method_5_code 23 = .ok (.sipush 255, 3) := by decide +kernel
theorem d16_26 : decode jdk_48_method_5_code 26 = .ok (.iand, 1) := by decide +kernel
theorem d16_27 : decode jdk_48_method_5_code 27 = .ok (.iadd, 1) := by decide +kernel
theorem d16_28 : decode jdk_48_method_5_code 28 = .ok (.istore_n 0, 1) := by decide +kernel
theorem d16_29 : decode jdk_48_method_5_code 29 = .ok (.iinc 5 1, 3) := by decide +kernel
theorem d16_32 : decode jdk_48_method_5_code 32 = .ok (.goto (-24), 3) := by decide +kernel
theorem d16_0 : decode jdk_48_method_5_code 0 = .ok (.iload_n 2, 1) := by decide +kernel
theorem d16_1 : decode jdk_48_method_5_code 1 = .ok (.iload_n 3, 1) := by decide +kernel
theorem d16_2 : decode jdk_48_method_5_code 2 = .ok (.iadd, 1) := by decide +kernel
theorem d16_3 : decode jdk_48_method_5_code 3 = .ok (.istore 4, 2) := by decide +kernel
theorem d16_5 : decode jdk_48_method_5_code 5 = .ok (.iload_n 2, 1) := by decide +kernel
theorem d16_6 : decode jdk_48_method_5_code 6 = .ok (.istore 5, 2) := by decide +kernel
theorem d15_0 : decode jdk_48_method_4_code 0 = .ok (.iload 4, 2) := by decide +kernel
theorem d15_2 : decode jdk_48_method_4_code 2 = .ok (.tableswitch 127 4 10 #[42, 55, 127, 127, 88, 101, 114], 42) := by decide +kernel
theorem d15_44 : decode jdk_48_method_4_code 44 = .ok (.iload_n 3, 1) := by decide +kernel
theorem d15_45 : decode jdk_48_method_4_code 45 = .ok (.aload_n 0, 1) := by decide +kernel
theorem d15_46 : decode jdk_48_method_4_code 46 = .ok (.checkcast 60, 3) := by decide +kernel
theorem d15_49 : decode jdk_48_method_4_code 49 = .ok (.iload_n 1, 1) := by decide +kernel
theorem d15_50 : decode jdk_48_method_4_code 50 = .ok (.iload_n 2, 1) := by decide +kernel
theorem d15_51 : decode jdk_48_method_4_code 51 = .ok (.invokestatic 62, 3) := by decide +kernel
theorem d15_54 : decode jdk_48_method_4_code 54 = .ok (.goto 103, 3) := by decide +kernel
theorem d15_157 : decode jdk_48_method_4_code 157 = .ok (.ireturn, 1) := by decide +kernel
theorem d8_0 : decode jdk_43_method_21_code 0 = .ok (.aload_n 0, 1) := by decide +kernel
theorem d8_1 : decode jdk_43_method_21_code 1 = .ok (.arraylength, 1) := by decide +kernel
theorem d8_2 : decode jdk_43_method_21_code 2 = .ok (.lookupswitch 40 #[(0, 26), (1, 30)], 26) := by decide +kernel
theorem d8_28 : decode jdk_43_method_21_code 28 = .ok (.iconst 0, 1) := by decide +kernel
theorem d8_29 : decode jdk_43_method_21_code 29 = .ok (.goto 22, 3) := by decide +kernel
theorem d8_51 : decode jdk_43_method_21_code 51 = .ok (.ireturn, 1) := by decide +kernel
theorem d8_32 : decode jdk_43_method_21_code 32 = .ok (.aload_n 0, 1) := by decide +kernel
theorem d8_33 : decode jdk_43_method_21_code 33 = .ok (.iconst 0, 1) := by decide +kernel
theorem d8_34 : decode jdk_43_method_21_code 34 = .ok (.baload, 1) := by decide +kernel
theorem d8_35 : decode jdk_43_method_21_code 35 = .ok (.sipush 255, 3) := by decide +kernel
theorem d8_38 : decode jdk_43_method_21_code 38 = .ok (.iand, 1) := by decide +kernel
theorem d8_39 : decode jdk_43_method_21_code 39 = .ok (.goto 12, 3) := by decide +kernel
theorem d8_42 : decode jdk_43_method_21_code 42 = .ok (.aload_n 0, 1) := by decide +kernel
theorem d8_43 : decode jdk_43_method_21_code 43 = .ok (.iconst 0, 1) := by decide +kernel
theorem d8_44 : decode jdk_43_method_21_code 44 = .ok (.aload_n 0, 1) := by decide +kernel
theorem d8_45 : decode jdk_43_method_21_code 45 = .ok (.arraylength, 1) := by decide +kernel
theorem d8_46 : decode jdk_43_method_21_code 46 = .ok (.iconst 0, 1) := by decide +kernel
theorem d8_47 : decode jdk_43_method_21_code 47 = .ok (.iconst 4, 1) := by decide +kernel
theorem d8_48 : decode jdk_43_method_21_code 48 = .ok (.invokestatic 84, 3) := by decide +kernel
theorem d7_0 : decode jdk_42_method_154_code 0 = .ok (.getstatic 38, 3) := by decide +kernel
theorem d7_3 : decode jdk_42_method_154_code 3 = .ok (.ifCond .eq 14, 3) := by decide +kernel
theorem d7_6 : decode jdk_42_method_154_code 6 = .ok (.aload_n 0, 1) := by decide +kernel
theorem d7_7 : decode jdk_42_method_154_code 7 = .ok (.getfield 15, 3) := by decide +kernel
theorem d7_10 : decode jdk_42_method_154_code 10 = .ok (.ifCond .ne 7, 3) := by decide +kernel
theorem d7_13 : decode jdk_42_method_154_code 13 = .ok (.iconst 1, 1) := by decide +kernel
theorem d7_14 : decode jdk_42_method_154_code 14 = .ok (.goto 4, 3) := by decide +kernel
theorem d7_18 : decode jdk_42_method_154_code 18 = .ok (.ireturn, 1) := by decide +kernel
theorem d6_0 : decode jdk_42_method_78_code 0 = .ok (.aload_n 0, 1) := by decide +kernel
theorem d6_1 : decode jdk_42_method_78_code 1 = .ok (.getfield 19, 3) := by decide +kernel
theorem d6_4 : decode jdk_42_method_78_code 4 = .ok (.istore_n 1, 1) := by decide +kernel
theorem d6_5 : decode jdk_42_method_78_code 5 = .ok (.iload_n 1, 1) := by decide +kernel
theorem d6_6 : decode jdk_42_method_78_code 6 = .ok (.ifCond .ne 52, 3) := by decide +kernel
theorem d6_9 : decode jdk_42_method_78_code 9 = .ok (.aload_n 0, 1) := by decide +kernel
theorem d6_10 : decode jdk_42_method_78_code 10 = .ok (.getfield 23, 3) := by decide +kernel
theorem d6_13 : decode jdk_42_method_78_code 13 = .ok (.ifCond .ne 45, 3) := by decide +kernel
theorem d6_16 : decode jdk_42_method_78_code 16 = .ok (.aload_n 0, 1) := by decide +kernel
theorem d6_17 : decode jdk_42_method_78_code 17 = .ok (.invokevirtual 492, 3) := by decide +kernel
theorem d6_20 : decode jdk_42_method_78_code 20 = .ok (.ifCond .eq 13, 3) := by decide +kernel
theorem d6_23 : decode jdk_42_method_78_code 23 = .ok (.aload_n 0, 1) := by decide +kernel
theorem d6_24 : decode jdk_42_method_78_code 24 = .ok (.getfield 9, 3) := by decide +kernel
theorem d6_27 : decode jdk_42_method_78_code 27 = .ok (.invokestatic 628, 3) := by decide +kernel
theorem d6_30 : decode jdk_42_method_78_code 30 = .ok (.goto 10, 3) := by decide +kernel
theorem d6_40 : decode jdk_42_method_78_code 40 = .ok (.istore_n 1, 1) := by decide +kernel
theorem d6_41 : decode jdk_42_method_78_code 41 = .ok (.iload_n 1, 1) := by decide +kernel
theorem d6_42 : decode jdk_42_method_78_code 42 = .ok (.ifCond .ne 11, 3) := by decide +kernel
theorem d6_53 : decode jdk_42_method_78_code 53 = .ok (.aload_n 0, 1) := by decide +kernel
theorem d6_54 : decode jdk_42_method_78_code 54 = .ok (.iload_n 1, 1) := by decide +kernel
theorem d6_55 : decode jdk_42_method_78_code 55 = .ok (.putfield 19, 3) := by decide +kernel
theorem d6_58 : decode jdk_42_method_78_code 58 = .ok (.iload_n 1, 1) := by decide +kernel
theorem d6_59 : decode jdk_42_method_78_code 59 = .ok (.ireturn, 1) := by decide +kernel
theorem d6_45 : decode jdk_42_method_78_code 45 = .ok (.aload_n 0, 1) := by decide +kernel
theorem d6_46 : decode jdk_42_method_78_code 46 = .ok (.iconst 1, 1) := by decide +kernel
theorem d6_47 : decode jdk_42_method_78_code 47 = .ok (.putfield 23, 3) := by decide +kernel
theorem d6_50 : decode jdk_42_method_78_code 50 = .ok (.goto 8, 3) := by decide +kernel
theorem d3_0 : decode jdk_42_method_149_code 0 = .ok (.aload_n 0, 1) := by decide +kernel
theorem d3_1 : decode jdk_42_method_149_code 1 = .ok (.invokespecial 1, 3) := by decide +kernel
theorem d3_4 : decode jdk_42_method_149_code 4 = .ok (.iload_n 3, 1) := by decide +kernel
theorem d3_5 : decode jdk_42_method_149_code 5 = .ok (.ifCond .ne 22, 3) := by decide +kernel
theorem d3_8 : decode jdk_42_method_149_code 8 = .ok (.aload_n 0, 1) := by decide +kernel
theorem d3_9 : decode jdk_42_method_149_code 9 = .ok (.ldc 7, 2) := by decide +kernel
theorem d3_11 : decode jdk_42_method_149_code 11 = .ok (.getfield 9, 3) := by decide +kernel
theorem d3_14 : decode jdk_42_method_149_code 14 = .ok (.putfield 9, 3) := by decide +kernel
theorem d3_17 : decode jdk_42_method_149_code 17 = .ok (.aload_n 0, 1) := by decide +kernel
theorem d3_18 : decode jdk_42_method_149_code 18 = .ok (.ldc 7, 2) := by decide +kernel
theorem d3_20 : decode jdk_42_method_149_code 20 = .ok (.getfield 15, 3) := by decide +kernel
theorem d3_23 : decode jdk_42_method_149_code 23 = .ok (.putfield 15, 3) := by decide +kernel
theorem d3_26 : decode jdk_42_method_149_code 26 = .ok (.return_, 1) := by decide +kernel
theorem d2_0 : decode jdk_42_method_3_code 0 = .ok (.aload_n 0, 1) := by decide +kernel
theorem d2_1 : decode jdk_42_method_3_code 1 = .ok (.aload_n 1, 1) := by decide +kernel
theorem d2_2 : decode jdk_42_method_3_code 2 = .ok (.iconst 0, 1) := by decide +kernel
theorem d2_3 : decode jdk_42_method_3_code 3 = .ok (.aload_n 1, 1) := by decide +kernel
theorem d2_4 : decode jdk_42_method_3_code 4 = .ok (.arraylength, 1) := by decide +kernel
theorem d2_5 : decode jdk_42_method_3_code 5 = .ok (.aconst_null, 1) := by decide +kernel
theorem d2_6 : decode jdk_42_method_3_code 6 = .ok (.invokespecial 27, 3) := by decide +kernel
theorem d2_9 : decode jdk_42_method_3_code 9 = .ok (.return_, 1) := by decide +kernel
theorem d1_0 : decode method_2_code 0 = .ok (.iload_n 0, 1) := by decide +kernel
theorem d1_1 : decode method_2_code 1 = .ok (.bipush 24, 2) := by decide +kernel
theorem d1_3 : decode method_2_code 3 = .ok (.iushr, 1) := by decide +kernel
theorem d1_4 : decode method_2_code 4 = .ok (.iconst 3, 1) := by decide +kernel
theorem d1_5 : decode method_2_code 5 = .ok (.iand, 1) := by decide +kernel
theorem d1_6 : decode method_2_code 6 = .ok (.istore_n 1, 1) := by decide +kernel
theorem d1_7 : decode method_2_code 7 = .ok (.iload_n 0, 1) := by decide +kernel
theorem d1_8 : decode method_2_code 8 = .ok (.sipush 255, 3) := by decide +kernel
theorem d1_11 : decode method_2_code 11 = .ok (.iand, 1) := by decide +kernel
theorem d1_12 : decode method_2_code 12 = .ok (.i2c, 1) := by decide +kernel
theorem d1_13 : decode method_2_code 13 = .ok (.istore_n 2, 1) := by decide +kernel
theorem d1_14 : decode method_2_code 14 = .ok (.iload_n 0, 1) := by decide +kernel
theorem d1_15 : decode method_2_code 15 = .ok (.bipush 8, 2) := by decide +kernel
theorem d1_17 : decode method_2_code 17 = .ok (.iushr, 1) := by decide +kernel
theorem d1_18 : decode method_2_code 18 = .ok (.sipush 255, 3) := by decide +kernel
theorem d1_21 : decode method_2_code 21 = .ok (.iand, 1) := by decide +kernel
theorem d1_22 : decode method_2_code 22 = .ok (.i2c, 1) := by decide +kernel
theorem d1_23 : decode method_2_code 23 = .ok (.istore_n 3, 1) := by decide +kernel
theorem d1_24 : decode method_2_code 24 = .ok (.iload_n 0, 1) := by decide +kernel
theorem d1_25 : decode method_2_code 25 = .ok (.bipush 16, 2) := by decide +kernel
theorem d1_27 : decode method_2_code 27 = .ok (.iushr, 1) := by decide +kernel
theorem d1_28 : decode method_2_code 28 = .ok (.sipush 255, 3) := by decide +kernel
theorem d1_31 : decode method_2_code 31 = .ok (.iand, 1) := by decide +kernel
theorem d1_32 : decode method_2_code 32 = .ok (.i2c, 1) := by decide +kernel
theorem d1_33 : decode method_2_code 33 = .ok (.istore 4, 2) := by decide +kernel
theorem d1_35 : decode method_2_code 35 = .ok (.iload_n 1, 1) := by decide +kernel
theorem d1_36 : decode method_2_code 36 = .ok (.ifCond .ne 14, 3) := by decide +kernel
theorem d1_50 : decode method_2_code 50 = .ok (.iload_n 1, 1) := by decide +kernel
theorem d1_51 : decode method_2_code 51 = .ok (.iconst 1, 1) := by decide +kernel
theorem d1_52 : decode method_2_code 52 = .ok (.if_icmp .ne 18, 3) := by decide +kernel
theorem d1_70 : decode method_2_code 70 = .ok (.iload_n 1, 1) := by decide +kernel
theorem d1_71 : decode method_2_code 71 = .ok (.iconst 2, 1) := by decide +kernel
theorem d1_72 : decode method_2_code 72 = .ok (.if_icmp .ne 22, 3) := by decide +kernel
theorem d1_94 : decode method_2_code 94 = .ok (.new 7, 3) := by decide +kernel
theorem d1_97 : decode method_2_code 97 = .ok (.dup, 1) := by decide +kernel
theorem d1_98 : decode method_2_code 98 = .ok (.iconst 3, 1) := by decide +kernel
theorem d1_99 : decode method_2_code 99 = .ok (.newarray .char, 2) := by decide +kernel
theorem d1_101 : decode method_2_code 101 = .ok (.dup, 1) := by decide +kernel
theorem d1_102 : decode method_2_code 102 = .ok (.iconst 0, 1) := by decide +kernel
theorem d1_103 : decode method_2_code 103 = .ok (.iload_n 2, 1) := by decide +kernel
theorem d1_104 : decode method_2_code 104 = .ok (.castore, 1) := by decide +kernel
theorem d1_105 : decode method_2_code 105 = .ok (.dup, 1) := by decide +kernel
theorem d1_106 : decode method_2_code 106 = .ok (.iconst 1, 1) := by decide +kernel
theorem d1_107 : decode method_2_code 107 = .ok (.iload_n 3, 1) := by decide +kernel
theorem d1_108 : decode method_2_code 108 = .ok (.castore, 1) := by decide +kernel
theorem d1_109 : decode method_2_code 109 = .ok (.dup, 1) := by decide +kernel
theorem d1_110 : decode method_2_code 110 = .ok (.iconst 2, 1) := by decide +kernel
theorem d1_111 : decode method_2_code 111 = .ok (.iload 4, 2) := by decide +kernel
theorem d1_113 : decode method_2_code 113 = .ok (.castore, 1) := by decide +kernel
theorem d1_114 : decode method_2_code 114 = .ok (.invokespecial 9, 3) := by decide +kernel
theorem d1_117 : decode method_2_code 117 = .ok (.areturn, 1) := by decide +kernel
theorem d1_75 : decode method_2_code 75 = .ok (.new 7, 3) := by decide +kernel
theorem d1_78 : decode method_2_code 78 = .ok (.dup, 1) := by decide +kernel
theorem d1_79 : decode method_2_code 79 = .ok (.iconst 2, 1) := by decide +kernel
theorem d1_80 : decode method_2_code 80 = .ok (.newarray .char, 2) := by decide +kernel
theorem d1_82 : decode method_2_code 82 = .ok (.dup, 1) := by decide +kernel
theorem d1_83 : decode method_2_code 83 = .ok (.iconst 0, 1) := by decide +kernel
theorem d1_84 : decode method_2_code 84 = .ok (.iload_n 2, 1) := by decide +kernel
theorem d1_85 : decode method_2_code 85 = .ok (.castore, 1) := by decide +kernel
theorem d1_86 : decode method_2_code 86 = .ok (.dup, 1) := by decide +kernel
theorem d1_87 : decode method_2_code 87 = .ok (.iconst 1, 1) := by decide +kernel
theorem d1_88 : decode method_2_code 88 = .ok (.iload_n 3, 1) := by decide +kernel
theorem d1_89 : decode method_2_code 89 = .ok (.castore, 1) := by decide +kernel
theorem d1_90 : decode method_2_code 90 = .ok (.invokespecial 9, 3) := by decide +kernel
theorem d1_93 : decode method_2_code 93 = .ok (.areturn, 1) := by decide +kernel
theorem d1_55 : decode method_2_code 55 = .ok (.new 7, 3) := by decide +kernel
theorem d1_58 : decode method_2_code 58 = .ok (.dup, 1) := by decide +kernel
theorem d1_59 : decode method_2_code 59 = .ok (.iconst 1, 1) := by decide +kernel
theorem d1_60 : decode method_2_code 60 = .ok (.newarray .char, 2) := by decide +kernel
theorem d1_62 : decode method_2_code 62 = .ok (.dup, 1) := by decide +kernel
theorem d1_63 : decode method_2_code 63 = .ok (.iconst 0, 1) := by decide +kernel
theorem d1_64 : decode method_2_code 64 = .ok (.iload_n 2, 1) := by decide +kernel
theorem d1_65 : decode method_2_code 65 = .ok (.castore, 1) := by decide +kernel
theorem d1_66 : decode method_2_code 66 = .ok (.invokespecial 9, 3) := by decide +kernel
theorem d1_69 : decode method_2_code 69 = .ok (.areturn, 1) := by decide +kernel
theorem d1_39 : decode method_2_code 39 = .ok (.new 7, 3) := by decide +kernel
theorem d1_42 : decode method_2_code 42 = .ok (.dup, 1) := by decide +kernel
theorem d1_43 : decode method_2_code 43 = .ok (.iconst 0, 1) := by decide +kernel
theorem d1_44 : decode method_2_code 44 = .ok (.newarray .char, 2) := by decide +kernel
theorem d1_46 : decode method_2_code 46 = .ok (.invokespecial 9, 3) := by decide +kernel
theorem d1_49 : decode method_2_code 49 = .ok (.areturn, 1) := by decide +kernel
theorem d5_0 : decode prog_4_method_1_code 0 = .ok (.aload_n 0, 1) := by decide +kernel
theorem d5_1 : decode prog_4_method_1_code 1 = .ok (.invokespecial 1, 3) := by decide +kernel
theorem d5_4 : decode prog_4_method_1_code 4 = .ok (.aload_n 0, 1) := by decide +kernel
theorem d5_5 : decode prog_4_method_1_code 5 = .ok (.aload_n 1, 1) := by decide +kernel
theorem d5_6 : decode prog_4_method_1_code 6 = .ok (.putfield 7, 3) := by decide +kernel
theorem d5_9 : decode prog_4_method_1_code 9 = .ok (.aload_n 0, 1) := by decide +kernel
theorem d5_10 : decode prog_4_method_1_code 10 = .ok (.aload_n 2, 1) := by decide +kernel
theorem d5_11 : decode prog_4_method_1_code 11 = .ok (.putfield 13, 3) := by decide +kernel
theorem d5_14 : decode prog_4_method_1_code 14 = .ok (.aload_n 0, 1) := by decide +kernel
theorem d5_15 : decode prog_4_method_1_code 15 = .ok (.bipush 31, 2) := by decide +kernel
theorem d5_17 : decode prog_4_method_1_code 17 = .ok (.aload_n 1, 1) := by decide +kernel
theorem d5_18 : decode prog_4_method_1_code 18 = .ok (.invokevirtual 16, 3) := by decide +kernel
theorem d5_21 : decode prog_4_method_1_code 21 = .ok (.imul, 1) := by decide +kernel
theorem d5_22 : decode prog_4_method_1_code 22 = .ok (.aload_n 2, 1) := by decide +kernel
theorem d5_23 : decode prog_4_method_1_code 23 = .ok (.invokevirtual 16, 3) := by decide +kernel
theorem d5_26 : decode prog_4_method_1_code 26 = .ok (.iadd, 1) := by decide +kernel
theorem d5_27 : decode prog_4_method_1_code 27 = .ok (.putfield 22, 3) := by decide +kernel
theorem d5_30 : decode prog_4_method_1_code 30 = .ok (.return_, 1) := by decide +kernel
theorem d11_0 : decode prog_4_method_3_code 0 = .ok (.aload_n 1, 1) := by decide +kernel
theorem d11_1 : decode prog_4_method_3_code 1 = .ok (.instanceof 8, 3) := by decide +kernel
theorem d11_4 : decode prog_4_method_3_code 4 = .ok (.ifCond .eq 51, 3) := by decide +kernel
theorem d11_7 : decode prog_4_method_3_code 7 = .ok (.aload_n 1, 1) := by decide +kernel
theorem d11_8 : decode prog_4_method_3_code 8 = .ok (.checkcast 8, 3) := by decide +kernel
theorem d11_11 : decode prog_4_method_3_code 11 = .ok (.astore_n 2, 1) := by decide +kernel
theorem d11_12 : decode prog_4_method_3_code 12 = .ok (.aload_n 0, 1) := by decide +kernel
theorem d11_13 : decode prog_4_method_3_code 13 = .ok (.getfield 22, 3) := by decide +kernel
theorem d11_16 : decode prog_4_method_3_code 16 = .ok (.aload_n 2, 1) := by decide +kernel
theorem d11_17 : decode prog_4_method_3_code 17 = .ok (.getfield 22, 3) := by decide +kernel
theorem d11_20 : decode prog_4_method_3_code 20 = .ok (.if_icmp .ne 35, 3) := by decide +kernel
theorem d11_55 : decode prog_4_method_3_code 55 = .ok (.iconst 0, 1) := by decide +kernel
theorem d11_56 : decode prog_4_method_3_code 56 = .ok (.ireturn, 1) := by decide +kernel
theorem d11_23 : decode prog_4_method_3_code 23 = .ok (.aload_n 0, 1) := by decide +kernel
theorem d11_24 : decode prog_4_method_3_code 24 = .ok (.getfield 13, 3) := by decide +kernel
theorem d11_27 : decode prog_4_method_3_code 27 = .ok (.aload_n 2, 1) := by decide +kernel
theorem d11_28 : decode prog_4_method_3_code 28 = .ok (.getfield 13, 3) := by decide +kernel
theorem d11_31 : decode prog_4_method_3_code 31 = .ok (.invokevirtual 26, 3) := by decide +kernel
theorem d11_34 : decode prog_4_method_3_code 34 = .ok (.ifCond .eq 21, 3) := by decide +kernel
theorem d11_37 : decode prog_4_method_3_code 37 = .ok (.aload_n 0, 1) := by decide +kernel
theorem d11_38 : decode prog_4_method_3_code 38 = .ok (.getfield 7, 3) := by decide +kernel
theorem d11_41 : decode prog_4_method_3_code 41 = .ok (.aload_n 2, 1) := by decide +kernel
theorem d11_42 : decode prog_4_method_3_code 42 = .ok (.getfield 7, 3) := by decide +kernel
theorem d11_45 : decode prog_4_method_3_code 45 = .ok (.invokevirtual 26, 3) := by decide +kernel
theorem d11_48 : decode prog_4_method_3_code 48 = .ok (.ifCond .eq 7, 3) := by decide +kernel
theorem d11_51 : decode prog_4_method_3_code 51 = .ok (.iconst 1, 1) := by decide +kernel
theorem d11_52 : decode prog_4_method_3_code 52 = .ok (.goto 4, 3) := by decide +kernel
theorem strAtoms {Z : State} {a0 : Array Value} (hw : ∀ d ∈ tables_1, d.before a0 Z = true) : ∀ a ∈ Bundle.stringAtoms, a.before a0 Z = true := fun d hd => hw d ((by decide +kernel : ∀ d ∈ Bundle.stringAtoms, d ∈ tables_1) d hd)
theorem and255_chars (x : Int32) : ¬ nar .char ((x &&& (255 : Int32)).toUInt32.toUInt16.toUInt32.toInt32) < 0 ∧ ¬ (255 : Int32) < nar .char ((x &&& (255 : Int32)).toUInt32.toUInt16.toUInt32.toInt32) := by
  have t : ∀ k : Fin 256, ¬ nar .char ((Int32.ofNat k.val).toUInt32.toUInt16.toUInt32.toInt32) < 0 ∧ ¬ (255 : Int32) < nar .char ((Int32.ofNat k.val).toUInt32.toUInt16.toUInt32.toInt32) := by decide +kernel
  have h : (x &&& 255).toBitVec.toNat < 256 := by
    simp only [Int32.toBitVec_and, BitVec.toNat_and]
    exact Nat.lt_succ_of_le Nat.and_le_right
  have e : (x &&& 255) = Int32.ofNat (x &&& 255).toBitVec.toNat := by
    apply Int32.toBitVec_inj.mp
    show _ = BitVec.ofNat 32 _
    rw [BitVec.ofNat_toNat]; simp
  rw [e]
  exact t ⟨_, h⟩
theorem pays_init {l : Launch} {Z : State} {a0 : Array Value} (hw : ∀ d ∈ tables_1, d.before a0 Z = true) {n0 : Nat} {R : Room} {W : Nat} {h : Heap} {x b : Addr} {kC : ClassId} {cs : List Int32} {d v0 c0 : Value} {zC N : Int32} {n : Nat} (hx0 : n0 ≤ x) (E : Exa Z h x "java/lang/String") (V : Fld Z h x "java/lang/String" "value" "[B" v0) (C : Fld Z h x "java/lang/String" "coder" "B" c0) (K : Arv Z h b kC .char N (cs.map Value.int) d) (SC : Sta Z Z.heap "java/lang/String" "COMPACT_STRINGS" "Z" (.int zC)) (nC : ¬ zC = 0)
    (hn : cs.length = n) (hN : N = Int32.ofNat n) (l0 : 0 < n) (l2 : n ≤ 4000) (hp : Lat cs) (hfr : 4 ≤ R.frames) (hlo : W + 65 ≤ R.locals) :
    Pays l Z n0 R (⟨"java/lang/String", "<init>", "([C)V"⟩ : MethodName) 3 W #[.ref x, .ref b] h 1 n (fun v h' => v = none ∧ Keep h h' [x] ∧ h'.size = h.size + 1 ∧ Str Z h' x h.size cs ∧ ∀ (O n d : String) (w : Value), Fld Z h x O n d w → Jvm.RoadKit.slotOf Z O n d ≠ Jvm.RoadKit.slotOf Z "java/lang/String" "value" "[B" → Jvm.RoadKit.slotOf Z O n d ≠ Jvm.RoadKit.slotOf Z "java/lang/String" "coder" "B" → Fld Z h' x O n d w) := fun hO p e below s args hZ => by
  have hws : ∀ d ∈ StrChars.Road.words, d.before a0 Z = true := fun d hd => hw d ((by decide +kernel : ∀ d ∈ StrChars.Road.words, d ∈ tables_1) d hd)
  subst hn
  have hcl : N.toNatClampNeg = cs.length := by subst hN; exact Int32.toNatClampNeg_ofNat_of_lt (by omega)
  refine Back.mono (StrChars.Road.backArv hZ hws (kI := 4) (wd5 hw) E V C K (SC.ext hO.2) nC hcl l0 (by omega) (fun c hc => (hp c hc).2) hfr hlo) (fun P a q => q) (fun P a v B q r => ?_)
  obtain ⟨L, ⟨q1, q2, q3, q4, q5, q6, q7, ⟨kb, v1, v2⟩, q9⟩, r2⟩ := r
  have v3 : Arv Z B.U.heap h.size kb .byte (Int32.ofNat cs.length) (bv cs) (.int 0) := by subst hN; rw [bv, List.map_map]; exact v2
  exact ⟨L, ⟨⟨q1, q3, q4, ⟨q5, q7, q6, ⟨kb, v3⟩, fun _ => Exa.bytes v3 v1⟩, q9⟩, fun y hy => by rw [q2 y hy]; exact hx0⟩, r2⟩
theorem up16 {cs : List Int32} (h : Lat cs) : ∀ c ∈ cs, ¬ c < 0 ∧ ¬ (65535 : Int32) < c := fun c hc => ⟨(h c hc).1, fun q => (h c hc).2 (by rw [Int32.lt_iff_toInt_lt] at q ⊢; have e1 : (65535 : Int32).toInt = 65535 := rfl; have e2 : (255 : Int32).toInt = 255 := rfl; omega)⟩
theorem pays_eq {l : Launch} {Z : State} {a0 : Array Value} (hw : ∀ d ∈ tables_1, d.before a0 Z = true) {n0 : Nat} {R : Room} {W : Nat} {h : Heap} {a t b u : Addr} {cs ds : List Int32} {zC : Int32} (F : Str Z h a t cs) (G : Str Z h b u ds) (hp : Lat cs) (hq : Lat ds) (hl : cs.length ≤ 4000) (hl2 : ds.length ≤ 4000) (SC : Sta Z Z.heap "java/lang/String" "COMPACT_STRINGS" "Z" (.int zC)) (nC : ¬ zC = 0) (hfr : 2 ≤ R.frames) (hlo : W + 28 ≤ R.locals) :
    Pays l Z n0 R (⟨"java/lang/String", "equals", "(Ljava/lang/Object;)Z"⟩ : MethodName) 3 W #[.ref a, .ref b] h 0 0 (fun v h' => v = some (.int (if cs = ds then 1 else 0)) ∧ h' = h) := fun hO p e below s args hZ => by
  have hws : ∀ d ∈ StrChars.Road.wordsEq, d.before a0 Z = true := fun d hd => hw d ((by decide +kernel : ∀ d ∈ StrChars.Road.wordsEq, d ∈ tables_1) d hd)
  obtain ⟨f1, f2, f3, ⟨kb, f4⟩, -⟩ := F
  obtain ⟨g1, g2, g3, ⟨kc, g4⟩, -⟩ := G
  refine Back.mono (StrChars.Road.eqW hZ hws (kI := 4) (wd5 hw) f1 f3 f2 f4 (StrChars.Road.codOf rfl (fun x hx => (hp x hx).2)) (up16 hp) hl g1 g3 g2 g4 (StrChars.Road.codOf rfl (fun x hx => (hq x hx).2)) (up16 hq) hl2 (SC.ext hO.2) nC hfr hlo) (fun P a q => q) (fun P a v B q r => ?_)
  obtain ⟨L, ⟨q1, rfl, q3⟩, r2⟩ := r
  refine ⟨[], ⟨⟨?_, q3⟩, Fr.nil _⟩, r2⟩
  rcases q1 with ⟨e1, e2⟩ | ⟨e1, e2⟩
  · rw [e1, if_pos e2]
  · rw [e1, if_neg e2]
theorem loop_sgn {l : Launch} {Z : State} {a0 : Array Value} (hw : ∀ d ∈ tables_1, d.before a0 Z = true) {n0 : Nat} {k : ClassId} {bs : List Int32} (b : Addr) (hb : bs.length < 2 ^ 31) {R : Room} {Q : Option Value → Heap → Prop} {h0 : Heap} (K : Arv Z h0 b k .byte (Int32.ofNat bs.length) (bs.map Value.int) (.int 0)) (s2 s3 : Slot) :
    ∀ (m i : Nat) (r : Int32), i + m = bs.length → Q (some (.int (hsh r (bs.drop i)))) h0 → Run false l Z [] n0 "jdk/internal/util/ArraysSupport" "signedHashCode" jdk_48_method_5_code (some .int) R Q (fun _ => []) [] h0 0 0 8 #[.val (.int r), .val (.ref b), s2, s3, .val (.int (Int32.ofNat bs.length)), .val (.int (Int32.ofNat i))] [] := by
  intro m
  induction m with
  | zero =>
    intro i r hi hQ
    have hi' : i = bs.length := by omega
    subst hi'
    refine r_iload d16_8 rfl rfl ?_
    refine r_iload d16_10 rfl rfl ?_
    refine r_icmpge (pc2 := 35) d16_12 rfl rfl (fun _ => ?_) (fun cc => absurd cc (ofNat_nlt (Nat.le_refl _) hb))
    refine r_iloadN d16_35 rfl rfl ?_
    exact r_ireturn d16_36 rfl (by simpa [hsh] using hQ) (by simp) (Nat.zero_le _) (Nat.zero_le _)
  | succ m ih =>
    intro i r hi hQ
    have hlt : i < bs.length := by omega
    refine r_iload d16_8 rfl rfl ?_
    refine r_iload d16_10 rfl rfl ?_
    refine r_icmpge (pc2 := 35) d16_12 rfl rfl (fun cc => absurd (ofNat_in hlt hb).2 cc) (fun _ => ?_)
    refine r_bipush (v := 31) d16_15 rfl rfl ?_
    refine r_iloadN d16_17 rfl rfl ?_
    refine r_imul d16_18 rfl ?_
    refine r_aloadN d16_19 rfl rfl rfl ?_
    refine r_iload d16_20 rfl rfl ?_
    refine r_baload (v := (.int (bs.getD i 0))) d16_22 rfl K (ofNat_in hlt hb) (by rw [ofNat_cl (by omega)]; exact getD_map bs i) ?_
    refine r_sipush (v := 255) d16_23 rfl rfl ?_
    refine r_iand d16_26 rfl ?_
    refine r_iadd d16_27 rfl ?_
    refine r_istoreN (l' := #[.val (.int (((31 : Int32) * r) + ((bs.getD i 0) &&& (255 : Int32)))), .val (.ref b), s2, s3, .val (.int (Int32.ofNat bs.length)), .val (.int (Int32.ofNat i))]) d16_28 rfl rfl rfl ?_
    refine r_iinc (l' := #[.val (.int (((31 : Int32) * r) + ((bs.getD i 0) &&& (255 : Int32)))), .val (.ref b), s2, s3, .val (.int (Int32.ofNat bs.length)), .val (.int ((Int32.ofNat i) + (1 : Int32)))]) d16_29 rfl rfl rfl rfl ?_
    refine r_goto (pc' := 8) d16_32 rfl ?_
    refine Run.castL (ls' := #[.val (.int (31 * r + (bs.getD i 0 &&& 255))), .val (.ref b), s2, s3, .val (.int (Int32.ofNat bs.length)), .val (.int (Int32.ofNat (i + 1)))]) (by rw [inc_ofNat]) ?_
    exact ih (i + 1) _ (by omega) (by rw [hsh_drop hlt] at hQ; exact hQ)
set_option maxRecDepth 65536 in
set_option maxHeartbeats 40000000 in
theorem ok_sgn {l : Launch} {Z : State} {a0 : Array Value} (hw : ∀ d ∈ tables_1, d.before a0 Z = true) {n0 : Nat} {k : ClassId} {bs : List Int32} (b : Addr) (hb : bs.length < 2 ^ 31) {h0 : Heap} (K : Arv Z h0 b k .byte (Int32.ofNat bs.length) (bs.map Value.int) (.int 0)) :
    Ok false l Z [] n0 [] (⟨"jdk/internal/util/ArraysSupport", "signedHashCode", "(I[BII)I"⟩ : MethodName) jdk_48_method_5_code 6 (Option.some Jvm.ClassFile.FieldType.int) ({ frames := 0, cells := 0, slots := 0, locals := 0 } : Room) #[(.int (0 : Int32)), (.ref b), (.int (0 : Int32)), (.int (Int32.ofNat bs.length))] h0 (fun v h => v = some (.int (hsh 0 bs)) ∧ h = h0) (fun _ => []) := by
  refine Ok.of_run (ls0 := #[.val (.int (0 : Int32)), .val (.ref b), .val (.int (0 : Int32)), .val (.int (Int32.ofNat bs.length)), .unset, .unset]) (plainFor_of_name (by first | (simp [plainName, overriddenIn]; done) | decide +kernel)) (fun m => by first | (simp [entryFrame, mkF, argsToLocals, Value.category]; done) | rfl) rfl ?_
  refine Run.old fun hO => ?_
  have hn0 : n0 ≤ h0.size := hO.1 ▸ hO.2.1
  refine r_iloadN d16_0 rfl rfl ?_
  refine r_iloadN d16_1 rfl rfl ?_
  refine r_iadd d16_2 rfl ?_
  refine r_istore (l' := #[.val (.int (0 : Int32)), .val (.ref b), .val (.int (0 : Int32)), .val (.int (Int32.ofNat bs.length)), .val (.int ((0 : Int32) + (Int32.ofNat bs.length))), .unset]) d16_3 rfl rfl rfl ?_
  refine r_iloadN d16_5 rfl rfl ?_
  refine r_istore (l' := #[.val (.int (0 : Int32)), .val (.ref b), .val (.int (0 : Int32)), .val (.int (Int32.ofNat bs.length)), .val (.int ((0 : Int32) + (Int32.ofNat bs.length))), .val (.int (0 : Int32))]) d16_6 rfl rfl rfl ?_
  refine Run.castL (ls' := #[.val (.int (0 : Int32)), .val (.ref b), .val (.int (0 : Int32)), .val (.int (Int32.ofNat bs.length)), .val (.int (Int32.ofNat bs.length)), .val (.int (Int32.ofNat 0))]) (by simp) ?_
  exact loop_sgn (l := l) (n0 := n0) hw b hb K _ _ bs.length 0 0 (by omega) ⟨by simp, rfl⟩
set_option maxRecDepth 65536 in
set_option maxHeartbeats 40000000 in
theorem ok_vec {l : Launch} {Z : State} {a0 : Array Value} (hw : ∀ d ∈ tables_1, d.before a0 Z = true) {n0 : Nat} {k : ClassId} {bs : List Int32} (b : Addr) (hb : bs.length < 2 ^ 31) {h0 : Heap} (K : Arv Z h0 b k .byte (Int32.ofNat bs.length) (bs.map Value.int) (.int 0)) (E : Exa Z h0 b "[B") :
    Ok false l Z [] n0 [] (⟨"jdk/internal/util/ArraysSupport", "vectorizedHashCode", "(Ljava/lang/Object;IIII)I"⟩ : MethodName) jdk_48_method_4_code 5 (Option.some Jvm.ClassFile.FieldType.int) ({ frames := 1, cells := 0, slots := 0, locals := 17 } : Room) #[(.ref b), (.int (0 : Int32)), (.int (Int32.ofNat bs.length)), (.int (0 : Int32)), (.int (4 : Int32))] h0 (fun v h => v = some (.int (hsh 0 bs)) ∧ h = h0) (fun _ => []) := by
  refine Ok.of_run (ls0 := #[.val (.ref b), .val (.int (0 : Int32)), .val (.int (Int32.ofNat bs.length)), .val (.int (0 : Int32)), .val (.int (4 : Int32))]) (plainFor_of_name (by first | (simp [plainName, overriddenIn]; done) | decide +kernel)) (fun m => by first | (simp [entryFrame, mkF, argsToLocals, Value.category]; done) | rfl) rfl ?_
  refine Run.old fun hO => ?_
  have hn0 : n0 ≤ h0.size := hO.1 ▸ hO.2.1
  refine r_iload d15_0 rfl rfl ?_
  refine r_tabIn (pc2 := 44) (off := 42) d15_2 (by decide) (by decide) (by decide) ?_
  refine r_iloadN d15_44 rfl rfl ?_
  refine r_aloadN d15_45 rfl rfl rfl ?_
  refine r_castY d15_46 rfl (wd89 hw) (Ins.self E) ?_
  refine r_iloadN d15_49 rfl rfl ?_
  refine r_iloadN d15_50 rfl rfl ?_
  refine r_static (y := (⟨"jdk/internal/util/ArraysSupport", "signedHashCode", "(I[BII)I"⟩ : MethodName)) (argsL := [(.int (0 : Int32)), (.ref b), (.int (0 : Int32)), (.int (Int32.ofNat bs.length))]) (rest := []) (W := 0) (kc := 0) (ks := 0) (wl := []) d15_51 rfl (wd91 hw) (wd92 hw) (wd87 hw) (wd93 hw) (by decide) (lenOf pd_0 rfl) rfl rfl (Nat.le_of_ble_eq_true rfl) (Ok.pays (ok_sgn hw b hb K) (wd93 hw) (wd87 hw) (by decide) (by decide)) (fun v h' q => q.2 ▸ Keep.refl _ _) all0 (by decide) (by decide) ?_
  rintro _ h1 ⟨rfl, eqh⟩
  subst h1
  refine Run.cast (st' := [(.int (hsh 0 bs))]) rfl ?_
  refine r_goto (pc' := 157) d15_54 rfl ?_
  exact r_ireturn d15_157 rfl ⟨rfl, rfl⟩ (by simp) (by decide) (by decide)
set_option maxRecDepth 65536 in
set_option maxHeartbeats 40000000 in
theorem ok_slh {l : Launch} {Z : State} {a0 : Array Value} (hw : ∀ d ∈ tables_1, d.before a0 Z = true) {n0 : Nat} {k : ClassId} {bs : List Int32} (b : Addr) (hb : bs.length < 2 ^ 31) {h0 : Heap} (K : Arv Z h0 b k .byte (Int32.ofNat bs.length) (bs.map Value.int) (.int 0)) (E : bs ≠ [] → Exa Z h0 b "[B") :
    Ok false l Z [] n0 [] (⟨"java/lang/StringLatin1", "hashCode", "([B)I"⟩ : MethodName) jdk_43_method_21_code 1 (Option.some Jvm.ClassFile.FieldType.int) ({ frames := 2, cells := 0, slots := 0, locals := 33 } : Room) #[(.ref b)] h0 (fun v h => v = some (.int (hsh 0 bs)) ∧ h = h0) (fun _ => []) := by
  refine Ok.of_run (ls0 := #[.val (.ref b)]) (plainFor_of_name (by first | (simp [plainName, overriddenIn]; done) | decide +kernel)) (fun m => by first | (simp [entryFrame, mkF, argsToLocals, Value.category]; done) | rfl) rfl ?_
  refine Run.old fun hO => ?_
  have hn0 : n0 ≤ h0.size := hO.1 ▸ hO.2.1
  refine r_aloadN d8_0 rfl rfl rfl ?_
  refine r_arraylength d8_1 rfl K ?_
  match bs, hb, K, E with
  | [], hb, K, E =>
    refine r_lookHit (pc2 := 28) (a := 0) (off := 26) d8_2 (by decide) (by decide) (by decide) ?_
    refine r_iconst (v := 0) d8_28 rfl rfl ?_
    refine r_goto (pc' := 51) d8_29 rfl ?_
    exact r_ireturn d8_51 rfl ⟨rfl, rfl⟩ (by simp) (by decide) (by decide)
  | [b0], hb, K, E =>
    have K1 : Arv Z h0 b k .byte (1 : Int32) [.int b0] (.int 0) := K
    refine r_lookHit (pc2 := 32) (a := 1) (off := 30) d8_2 (by decide) rfl (by decide) ?_
    refine r_aloadN d8_32 rfl rfl rfl ?_
    refine r_iconst (v := 0) d8_33 rfl rfl ?_
    refine r_baload (v := (.int b0)) d8_34 rfl K1 ⟨by decide, by decide⟩ rfl ?_
    refine r_sipush (v := 255) d8_35 rfl rfl ?_
    refine r_iand d8_38 rfl ?_
    refine r_goto (pc' := 51) d8_39 rfl ?_
    exact r_ireturn d8_51 rfl ⟨by simp [hsh], rfl⟩ (by simp) (by decide) (by decide)
  | b0 :: b1 :: bs, hb, K, E =>
    have hmiss : (#[((0 : Int), (26 : Int)), (1, 30)] : Array (Int × Int)).find? (·.1 == (Int32.ofNat (b0 :: b1 :: bs).length).toInt) = none := find_miss (by
      have e2 : (Int32.ofNat (b0 :: b1 :: bs).length).toInt = ((b0 :: b1 :: bs).length : Nat) := Int32.toInt_ofNat_of_lt (by omega)
      rw [e2]; intro p hp; simp only [List.mem_cons, List.not_mem_nil, or_false] at hp; simp only [List.length_cons]; rcases hp with rfl | rfl <;> simp <;> omega)
    refine r_lookMiss (pc2 := 42) d8_2 (by decide) hmiss (by decide) ?_
    refine r_aloadN d8_42 rfl rfl rfl ?_
    refine r_iconst (v := 0) d8_43 rfl rfl ?_
    refine r_aloadN d8_44 rfl rfl rfl ?_
    refine r_arraylength d8_45 rfl K ?_
    refine r_iconst (v := 0) d8_46 rfl rfl ?_
    refine r_iconst (v := 4) d8_47 rfl rfl ?_
    refine r_static (y := (⟨"jdk/internal/util/ArraysSupport", "vectorizedHashCode", "(Ljava/lang/Object;IIII)I"⟩ : MethodName)) (argsL := [(.ref b), (.int (0 : Int32)), (.int (Int32.ofNat (b0 :: b1 :: bs).length)), (.int (0 : Int32)), (.int (4 : Int32))]) (rest := []) (W := 0) (kc := 0) (ks := 0) (wl := []) d8_48 rfl (wd85 hw) (wd86 hw) (wd87 hw) (wd88 hw) (by decide) (lenOf pd_1 rfl) rfl rfl (Nat.le_of_ble_eq_true rfl) (Ok.pays (ok_vec hw b hb K (E (by simp))) (wd88 hw) (wd87 hw) (by decide) (by decide)) (fun v h' q => q.2 ▸ Keep.refl _ _) all0 (by decide) (by decide) ?_
    rintro _ h1 ⟨rfl, eqh⟩
    subst h1
    refine Run.cast (st' := [(.int (hsh 0 (b0 :: b1 :: bs)))]) rfl ?_
    exact r_ireturn d8_51 rfl ⟨rfl, rfl⟩ (by simp) (by decide) (by decide)
set_option maxRecDepth 65536 in
set_option maxHeartbeats 40000000 in
theorem ok_lat {l : Launch} {Z : State} {a0 : Array Value} (hw : ∀ d ∈ tables_1, d.before a0 Z = true) {n0 : Nat} (a : Addr) {zC : Int32} {h0 : Heap} (SC : Sta Z Z.heap "java/lang/String" "COMPACT_STRINGS" "Z" (.int zC)) (nC : ¬ zC = 0) (C : Fld Z h0 a "java/lang/String" "coder" "B" (.int 0)) :
    Ok false l Z [] n0 [] (⟨"java/lang/String", "isLatin1", "()Z"⟩ : MethodName) jdk_42_method_154_code 1 (Option.some Jvm.ClassFile.FieldType.boolean) ({ frames := 0, cells := 0, slots := 0, locals := 0 } : Room) #[(.ref a)] h0 (fun v h => v = some (.int 1) ∧ h = h0) (fun _ => []) := by
  refine Ok.of_run (ls0 := #[.val (.ref a)]) (plainFor_of_name (by first | (simp [plainName, overriddenIn]; done) | decide +kernel)) (fun m => by first | (simp [entryFrame, mkF, argsToLocals, Value.category]; done) | rfl) rfl ?_
  refine Run.old fun hO => ?_
  have hn0 : n0 ≤ h0.size := hO.1 ▸ hO.2.1
  refine r_getstatic (host := "") d7_0 rfl (Or.inl (wd51 hw)) Via.refl SC ?_
  refine r_ifeq (pc2 := 17) d7_3 rfl rfl (fun cc => absurd cc nC) (fun _ => ?_)
  refine r_aloadN d7_6 rfl rfl rfl ?_
  refine r_getfield (host := "") d7_7 rfl (Or.inl (wd25 hw)) Via.refl C ?_
  refine r_ifne (pc2 := 17) d7_10 rfl rfl (fun cc => absurd rfl cc) (fun _ => ?_)
  refine r_iconst (v := 1) d7_13 rfl rfl ?_
  refine r_goto (pc' := 18) d7_14 rfl ?_
  exact r_ireturnN (t := .boolean) d7_18 rfl (by simp) ⟨rfl, rfl⟩ (by simp) (by decide) (by decide)
set_option maxRecDepth 65536 in
set_option maxHeartbeats 40000000 in
theorem ok_hc {l : Launch} {Z : State} {a0 : Array Value} (hw : ∀ d ∈ tables_1, d.before a0 Z = true) {n0 : Nat} (a t : Addr) {cs : List Int32} (hl : cs.length < 2 ^ 31) {zC : Int32} {h0 : Heap} (SC : Sta Z Z.heap "java/lang/String" "COMPACT_STRINGS" "Z" (.int zC)) (nC : ¬ zC = 0) (F : Str Z h0 a t cs) (FH : Fld Z h0 a "java/lang/String" "hash" "I" (.int 0)) (FZ : Fld Z h0 a "java/lang/String" "hashIsZero" "Z" (.int 0)) (ge : n0 ≤ a) :
    Ok false l Z [] n0 [] (⟨"java/lang/String", "hashCode", "()I"⟩ : MethodName) jdk_42_method_78_code 2 (Option.some Jvm.ClassFile.FieldType.int) ({ frames := 3, cells := 0, slots := 0, locals := 45 } : Room) #[(.ref a)] h0 (fun v h => v = some (.int (hsh 0 (cs.map (fun c => c.toInt8.toInt32)))) ∧ Keep h0 h [a] ∧ Str Z h a t cs) (fun _ => []) := by
  refine Ok.of_run (ls0 := #[.val (.ref a), .unset]) (plainFor_of_name (by first | (simp [plainName, overriddenIn]; done) | decide +kernel)) (fun m => by first | (simp [entryFrame, mkF, argsToLocals, Value.category]; done) | rfl) rfl ?_
  refine Run.old fun hO => ?_
  have hn0 : n0 ≤ h0.size := hO.1 ▸ hO.2.1
  obtain ⟨f1, f2, f3, ⟨kb, f4⟩, f5⟩ := id F
  have f4' : Arv Z h0 t kb .byte (Int32.ofNat (cs.map (fun c => c.toInt8.toInt32)).length) ((cs.map (fun c => c.toInt8.toInt32)).map Value.int) (.int 0) := by rw [List.length_map]; exact f4
  have lt1 : @LT.lt Nat instLTNat a (Array.size h0) := f1.lt
  have lt2 : @LT.lt Nat instLTNat t (Array.size h0) := f4.lt
  have nta : t ≠ a := Str.neB F f1 (wd5 hw)
  refine r_aloadN d6_0 rfl rfl rfl ?_
  refine r_getfield (host := "") d6_1 rfl (Or.inl (wd42 hw)) Via.refl FH ?_
  refine r_istoreN (l' := #[.val (.ref a), .val (.int (0 : Int32))]) d6_4 rfl rfl rfl ?_
  refine r_iloadN d6_5 rfl rfl ?_
  refine r_ifne (pc2 := 58) d6_6 rfl rfl (fun cc => absurd rfl cc) (fun _ => ?_)
  refine r_aloadN d6_9 rfl rfl rfl ?_
  refine r_getfield (host := "") d6_10 rfl (Or.inl (wd44 hw)) Via.refl FZ ?_
  refine r_ifne (pc2 := 58) d6_13 rfl rfl (fun cc => absurd rfl cc) (fun _ => ?_)
  refine r_aloadN d6_16 rfl rfl rfl ?_
  refine r_virtual (y := (⟨"java/lang/String", "isLatin1", "()Z"⟩ : MethodName)) (argsL := []) (rest := []) (W := 0) (kc := 0) (ks := 0) (wl := []) d6_17 rfl (wd46 hw) (wd47 hw) (wd49 hw) (wd48 hw) (by decide) ⟨rfl, rfl⟩ f1 (lenOf pd_2 rfl) rfl rfl (Nat.le_of_ble_eq_true rfl) (Ok.pays (ok_lat hw a SC nC f2) (wd50 hw) (wd6 hw) (by decide) (by decide)) (fun v h' q => q.2 ▸ Keep.refl _ _) all0 (by decide) (by decide) ?_
  rintro _ h3 ⟨rfl, eqh⟩
  subst h3
  refine Run.cast (st' := [(.int (1 : Int32))]) rfl ?_
  refine r_ifeq (pc2 := 33) d6_20 rfl rfl (fun cc => absurd cc (by decide)) (fun _ => ?_)
  refine r_aloadN d6_23 rfl rfl rfl ?_
  refine r_getfield (host := "") d6_24 rfl (Or.inl (wd24 hw)) Via.refl f3 ?_
  refine r_static (y := (⟨"java/lang/StringLatin1", "hashCode", "([B)I"⟩ : MethodName)) (argsL := [(.ref t)]) (rest := []) (W := 0) (kc := 0) (ks := 0) (wl := []) d6_27 rfl (wd52 hw) (wd53 hw) (wd54 hw) (wd55 hw) (by decide) (lenOf pd_3 rfl) rfl rfl (Nat.le_of_ble_eq_true rfl) (Ok.pays (ok_slh hw t (by simpa using hl) f4' (fun q => f5 (fun q2 => q (by simp [q2])))) (wd55 hw) (wd54 hw) (by decide) (by decide)) (fun v h' q => q.2 ▸ Keep.refl _ _) all0 (by decide) (by decide) ?_
  rintro _ h4 ⟨rfl, eqh⟩
  subst h4
  refine Run.cast (st' := [(.int (hsh 0 (cs.map (fun c => c.toInt8.toInt32))))]) rfl ?_
  refine r_goto (pc' := 40) d6_30 rfl ?_
  refine r_istoreN (l' := #[.val (.ref a), .val (.int (hsh 0 (cs.map (fun c => c.toInt8.toInt32))))]) d6_40 rfl rfl rfl ?_
  refine r_iloadN d6_41 rfl rfl ?_
  refine r_ifne (pc2 := 53) d6_42 rfl rfl (fun c5 => ?_) (fun c5 => ?_)
  · refine r_aloadN d6_53 rfl rfl rfl ?_
    refine r_iloadN d6_54 rfl rfl ?_
    refine r_putfield (ty := .int) (v' := (.int (hsh 0 (cs.map (fun c => c.toInt8.toInt32))))) d6_55 rfl (wd42 hw) Via.refl FH f1 (Or.inl (wd43 hw)) (wd5 hw) (by decide) rfl rfl ge (Or.inl rfl) ?_
    intro h6 W7
    have szh6 := Wr.size W7
    have F8 : Fld Z h6 a "java/lang/String" "hash" "I" (.int (hsh 0 (cs.map (fun c => c.toInt8.toInt32)))) := Fld.same W7 FH
    refine r_iloadN d6_58 rfl rfl ?_
    have kp : Keep h0 h6 [a] := (Keep.wr (Keep.refl _ _) W7 (Or.inl (by simp)))
    have F9 : Fld Z h6 a "java/lang/String" "coder" "B" (.int (0 : Int32)) := (Fld.other W7 f2 (Or.inr (slot_ne (Or.inr (wd21 hw)) (Or.inl (wd43 hw)) (by decide) (t := .byte) (t' := .int) (by decide) (by decide))))
    have F10 : Fld Z h6 a "java/lang/String" "value" "[B" (.ref t) := (Fld.other W7 f3 (Or.inr (slot_ne (Or.inr (wd20 hw)) (Or.inl (wd43 hw)) (by decide) (t := (.array .byte)) (t' := .int) (by decide) (by decide))))
    have A11 : Exa Z h6 a "java/lang/String" := (Exa.wr W7 f1)
    exact r_ireturn d6_59 rfl ⟨rfl, kp, ⟨A11, F9, F10, ⟨kb, f4.keep kp (ninS nta nin0)⟩, fun q => (f5 q).keep kp⟩⟩ (by simp) (by decide) (by decide)
  · refine r_aloadN d6_45 rfl rfl rfl ?_
    refine r_iconst (v := 1) d6_46 rfl rfl ?_
    refine r_putfield (ty := .boolean) (v' := (.int (nar .boolean (1 : Int32)))) d6_47 rfl (wd44 hw) Via.refl FZ f1 (Or.inl (wd45 hw)) (wd5 hw) (by decide) rfl (fits_nar_bool _) ge (Or.inl rfl) ?_
    intro h12 W13
    have szh12 := Wr.size W13
    have F14 : Fld Z h12 a "java/lang/String" "hashIsZero" "Z" (.int (nar .boolean (1 : Int32))) := Fld.same W13 FZ
    refine r_goto (pc' := 58) d6_50 rfl ?_
    refine r_iloadN d6_58 rfl rfl ?_
    have kp : Keep h0 h12 [a] := (Keep.wr (Keep.refl _ _) W13 (Or.inl (by simp)))
    have F15 : Fld Z h12 a "java/lang/String" "coder" "B" (.int (0 : Int32)) := (Fld.other W13 f2 (Or.inr (slot_ne (Or.inr (wd21 hw)) (Or.inl (wd45 hw)) (by decide) (t := .byte) (t' := .boolean) (by decide) (by decide))))
    have F16 : Fld Z h12 a "java/lang/String" "value" "[B" (.ref t) := (Fld.other W13 f3 (Or.inr (slot_ne (Or.inr (wd20 hw)) (Or.inl (wd45 hw)) (by decide) (t := (.array .byte)) (t' := .boolean) (by decide) (by decide))))
    have A17 : Exa Z h12 a "java/lang/String" := (Exa.wr W13 f1)
    exact r_ireturn d6_59 rfl ⟨rfl, kp, ⟨A17, F15, F16, ⟨kb, f4.keep kp (ninS nta nin0)⟩, fun q => (f5 q).keep kp⟩⟩ (by simp) (by decide) (by decide)
set_option maxRecDepth 65536 in
set_option maxHeartbeats 40000000 in
theorem ok_i4 {l : Launch} {Z : State} {a0 : Array Value} (hw : ∀ d ∈ tables_1, d.before a0 Z = true) {n0 : Nat} (x b : Addr) {h0 : Heap} (E : Exa Z h0 x "java/lang/String") (V : Fld Z h0 x "java/lang/String" "value" "[B" .null) (C : Fld Z h0 x "java/lang/String" "coder" "B" (.int 0)) (FH : Fld Z h0 x "java/lang/String" "hash" "I" (.int 0)) (FZ : Fld Z h0 x "java/lang/String" "hashIsZero" "Z" (.int 0)) (ge : n0 ≤ x) :
    Ok true l Z consts_1 n0 [x] (⟨"java/lang/String", "<init>", "([CIILjava/lang/Void;)V"⟩ : MethodName) jdk_42_method_149_code 6 (Option.none : Option Jvm.ClassFile.FieldType) ({ frames := 1, cells := 4, slots := 8, locals := 12 } : Room) #[(.ref x), (.ref b), (.int (0 : Int32)), (.int (0 : Int32)), .null] h0 (fun v h => v = none ∧ Keep h0 h [x] ∧ (∃ t, Str Z h x t []) ∧ Fld Z h x "java/lang/String" "hash" "I" (.int 0) ∧ Fld Z h x "java/lang/String" "hashIsZero" "Z" (.int 0)) (fun _ => []) := by
  refine Ok.of_run (ls0 := #[.val (.ref x), .val (.ref b), .val (.int (0 : Int32)), .val (.int (0 : Int32)), .val .null, .unset]) (plainFor_of_name (by first | (simp [plainName, overriddenIn]; done) | decide +kernel)) (fun m => by first | (simp [entryFrame, mkF, argsToLocals, Value.category]; done) | rfl) rfl ?_
  refine Run.old fun hO => ?_
  have hn0 : n0 ≤ h0.size := hO.1 ▸ hO.2.1
  have lt1 : @LT.lt Nat instLTNat x (Array.size h0) := E.lt
  refine r_aloadN d3_0 rfl rfl rfl ?_
  refine r_initO (W := 0) d3_1 rfl (wd15 hw) (wd16 hw) (wd17 hw) (by decide) (Nat.le_of_ble_eq_true rfl) (by decide) ?_
  refine r_iloadN d3_4 rfl rfl ?_
  refine r_ifne (pc2 := 27) d3_5 rfl rfl (fun cc => absurd rfl cc) (fun _ => ?_)
  refine r_aloadN d3_8 rfl rfl rfl ?_
  refine r_ldcS (z := 0) (n := 0) (vs := []) rfl d3_9 rfl (wd18 hw) (strAtoms hw) (by simp [consts_1]) ⟨by decide, by decide⟩ (by decide) (by decide) (by decide) (by decide) (by decide) (by decide) ?_
  intro h2 a3 t4 k5 E6 A7 C8 V9 K10 N11
  have szh2 := E6.1
  have ne12 := N11 x (by simp)
  refine r_getfield (host := "") d3_11 rfl (Or.inl (wd24 hw)) Via.refl V9 ?_
  have F13 : Fld Z h2 x "java/lang/String" "value" "[B" .null := (Fld.ext E6 V)
  have A14 : Exa Z h2 x "java/lang/String" := (Exa.ext E6 E)
  refine r_putfield (ty := (.array .byte)) (v' := (.ref t4)) d3_14 rfl (wd24 hw) Via.refl F13 A14 (Or.inr ⟨(wd20 hw), rfl, rfl⟩) (wd5 hw) (by decide) rfl rfl ge (Sf.my (by simp)) ?_
  intro h15 W16
  have szh15 := Wr.size W16
  have F17 : Fld Z h15 x "java/lang/String" "value" "[B" (.ref t4) := Fld.same W16 F13
  refine r_aloadN d3_17 rfl rfl rfl ?_
  refine r_ldcS (z := 0) (n := 0) (vs := []) rfl d3_18 rfl (wd18 hw) (strAtoms hw) (by simp [consts_1]) ⟨by decide, by decide⟩ (by decide) (by decide) (by decide) (by decide) (by decide) (by decide) ?_
  intro h18 a19 t20 k21 E22 A23 C24 V25 K26 N27
  have szh18 := E22.1
  have ne28 := N27 x (by simp)
  refine r_getfield (host := "") d3_20 rfl (Or.inl (wd25 hw)) Via.refl C24 ?_
  have F29 : Fld Z h18 x "java/lang/String" "coder" "B" (.int (0 : Int32)) := (Fld.ext E22 (Fld.other W16 (Fld.ext E6 C) (Or.inr (slot_ne (Or.inr (wd21 hw)) (Or.inr (wd20 hw)) (by decide) (t := .byte) (t' := (.array .byte)) (by decide) (by decide)))))
  have A30 : Exa Z h18 x "java/lang/String" := (Exa.ext E22 (Exa.wr W16 A14))
  refine r_putfield (ty := .byte) (v' := (.int 0)) d3_23 rfl (wd25 hw) Via.refl F29 A30 (Or.inr ⟨(wd21 hw), rfl, rfl⟩) (wd5 hw) (by decide) rfl rfl ge (Sf.my (by simp)) ?_
  intro h31 W32
  have szh31 := Wr.size W32
  have F33 : Fld Z h31 x "java/lang/String" "coder" "B" (.int 0) := Fld.same W32 F29
  have F34 : Fld Z h31 x "java/lang/String" "value" "[B" (.ref t4) := (Fld.other W32 (Fld.ext E22 F17) (Or.inr (slot_ne (Or.inr (wd20 hw)) (Or.inr (wd21 hw)) (by decide) (t := (.array .byte)) (t' := .byte) (by decide) (by decide))))
  have A35 : Exa Z h31 x "java/lang/String" := (Exa.wr W32 A30)
  have F36 : Fld Z h31 x "java/lang/String" "hash" "I" (.int (0 : Int32)) := (Fld.other W32 (Fld.ext E22 (Fld.other W16 (Fld.ext E6 FH) (Or.inr (slot_ne (Or.inl (wd43 hw)) (Or.inr (wd20 hw)) (by decide) (t := .int) (t' := (.array .byte)) (by decide) (by decide))))) (Or.inr (slot_ne (Or.inl (wd43 hw)) (Or.inr (wd21 hw)) (by decide) (t := .int) (t' := .byte) (by decide) (by decide))))
  have F37 : Fld Z h31 x "java/lang/String" "hashIsZero" "Z" (.int (0 : Int32)) := (Fld.other W32 (Fld.ext E22 (Fld.other W16 (Fld.ext E6 FZ) (Or.inr (slot_ne (Or.inl (wd45 hw)) (Or.inr (wd20 hw)) (by decide) (t := .boolean) (t' := (.array .byte)) (by decide) (by decide))))) (Or.inr (slot_ne (Or.inl (wd45 hw)) (Or.inr (wd21 hw)) (by decide) (t := .boolean) (t' := .byte) (by decide) (by decide))))
  have K38 : Arv Z h31 t4 k5 .byte (0 : Int32) [] (.int 0) := (Arv.other ((Arv.other K10 W16 (Ne.symm ne12.2)).ext E22) W32 (Ne.symm ne12.2))
  exact r_return d3_26 rfl ⟨rfl, (Keep.wr (Keep.ext (Keep.wr (Keep.ext (Keep.refl _ _) E6) W16 (Or.inl (by simp))) E22) W32 (Or.inl (by simp))), ⟨t4, A35, F33, F34, ⟨k5, K38⟩, fun q => absurd rfl q⟩, F36, F37⟩ (by simp) (by decide) (by decide)
set_option maxRecDepth 65536 in
set_option maxHeartbeats 40000000 in
theorem ok_i1 {l : Launch} {Z : State} {a0 : Array Value} (hw : ∀ d ∈ tables_1, d.before a0 Z = true) {n0 : Nat} (x b : Addr) {k : ClassId} {h0 : Heap} (E : Exa Z h0 x "java/lang/String") (V : Fld Z h0 x "java/lang/String" "value" "[B" .null) (C : Fld Z h0 x "java/lang/String" "coder" "B" (.int 0)) (FH : Fld Z h0 x "java/lang/String" "hash" "I" (.int 0)) (FZ : Fld Z h0 x "java/lang/String" "hashIsZero" "Z" (.int 0)) (ge : n0 ≤ x) (K : Arv Z h0 b k .char (0 : Int32) [] (.int 0)) :
    Ok true l Z consts_1 n0 [x] (⟨"java/lang/String", "<init>", "([C)V"⟩ : MethodName) jdk_42_method_3_code 2 (Option.none : Option Jvm.ClassFile.FieldType) ({ frames := 2, cells := 4, slots := 8, locals := 29 } : Room) #[(.ref x), (.ref b)] h0 (fun v h => v = none ∧ Keep h0 h [x] ∧ (∃ t, Str Z h x t []) ∧ Fld Z h x "java/lang/String" "hash" "I" (.int 0) ∧ Fld Z h x "java/lang/String" "hashIsZero" "Z" (.int 0)) (fun _ => []) := by
  refine Ok.of_run (ls0 := #[.val (.ref x), .val (.ref b)]) (plainFor_of_name (by first | (simp [plainName, overriddenIn]; done) | decide +kernel)) (fun m => by first | (simp [entryFrame, mkF, argsToLocals, Value.category]; done) | rfl) rfl ?_
  refine Run.old fun hO => ?_
  have hn0 : n0 ≤ h0.size := hO.1 ▸ hO.2.1
  have lt1 : @LT.lt Nat instLTNat x (Array.size h0) := E.lt
  refine r_aloadN d2_0 rfl rfl rfl ?_
  refine r_aloadN d2_1 rfl rfl rfl ?_
  refine r_iconst (v := 0) d2_2 rfl rfl ?_
  refine r_aloadN d2_3 rfl rfl rfl ?_
  refine r_arraylength d2_4 rfl K ?_
  refine r_aconst d2_5 rfl ?_
  refine r_specialW (y := (⟨"java/lang/String", "<init>", "([CIILjava/lang/Void;)V"⟩ : MethodName)) (argsL := [(.ref b), (.int (0 : Int32)), (.int (0 : Int32)), .null]) (rest := []) (W := 0) (kc := 4) (ks := 8) (wl := [x]) rfl d2_6 rfl rfl (wd11 hw) (wd12 hw) (wd14 hw) (by decide) (lenOf pd_4 rfl) rfl rfl (Nat.le_of_ble_eq_true rfl) (Ok.paysW (ok_i4 hw x b E V C FH FZ ge) (wd14 hw) (wd6 hw) (by decide) (by decide)) (by simp) (fun v h' q => q.2.1) (allS ge all0) (by decide) (by decide) ?_
  rintro _ h2 ⟨rfl, q⟩
  refine Run.forget (My' := [x]) (by simp [refs]) ?_
  refine Run.cast (st' := []) rfl ?_
  exact r_return d2_9 rfl ⟨rfl, q⟩ (by simp) (by decide) (by decide)
def ch8 (x : Int32) : Int32 := nar .char ((x &&& (255 : Int32)).toUInt32.toUInt16.toUInt32.toInt32)
abbrev ushr (x k : Int32) : Int32 := (x.toUInt32 >>> (k &&& 31).toUInt32).toInt32
def mkcs (p : Int32) : List Int32 := if (ushr p 24 &&& (3 : Int32)) = 0 then [] else if (ushr p 24 &&& (3 : Int32)) = 1 then [ch8 p] else if (ushr p 24 &&& (3 : Int32)) = 2 then [ch8 p, ch8 (ushr p 8)] else [ch8 p, ch8 (ushr p 8), ch8 (ushr p 16)]
theorem lat1 (a : Int32) : Lat [ch8 a] := by
  intro c hc; simp only [List.mem_cons, List.not_mem_nil, or_false] at hc; subst hc; exact and255_chars _
theorem lat2 (a b : Int32) : Lat [ch8 a, ch8 b] := by
  intro c hc; simp only [List.mem_cons, List.not_mem_nil, or_false] at hc; rcases hc with rfl | rfl <;> exact and255_chars _
theorem lat3 (a b d : Int32) : Lat [ch8 a, ch8 b, ch8 d] := by
  intro c hc; simp only [List.mem_cons, List.not_mem_nil, or_false] at hc; rcases hc with rfl | rfl | rfl <;> exact and255_chars _
theorem lat_mk (p : Int32) : Lat (mkcs p) := by
  unfold mkcs; split
  · intro c hc; cases hc
  · split
    · exact lat1 _
    · split
      · exact lat2 _ _
      · exact lat3 _ _ _
theorem len_mk (p : Int32) : (mkcs p).length ≤ 3 := by unfold mkcs; split <;> (try split) <;> (try split) <;> simp
def hk (a b : List Int32) : Int32 := 31 * hsh 0 (a.map (fun c => c.toInt8.toInt32)) + hsh 0 (b.map (fun c => c.toInt8.toInt32))
set_option maxRecDepth 65536 in
set_option maxHeartbeats 40000000 in
theorem ok_mk {l : Launch} {Z : State} {a0 : Array Value} (hw : ∀ d ∈ tables_1, d.before a0 Z = true) {n0 : Nat} (p : Int32) {zC : Int32} {h0 : Heap} (SC : Sta Z Z.heap "java/lang/String" "COMPACT_STRINGS" "Z" (.int zC)) (nC : ¬ zC = 0) :
    Ok true l Z consts_1 n0 [] (⟨"com/example/nx1/nx1/HolderKeyEqualsPinLaw", "mk", "(I)Ljava/lang/String;"⟩ : MethodName) method_2_code 5 (Option.some (Jvm.ClassFile.FieldType.object "java/lang/String")) ({ frames := 4, cells := 6, slots := 12, locals := 66 } : Room) #[(.int p)] h0 (fun v h => ∃ a t, v = some (.ref a) ∧ Keep h0 h [] ∧ h0.size ≤ a ∧ Str Z h a t (mkcs p) ∧ Fld Z h a "java/lang/String" "hash" "I" (.int 0) ∧ Fld Z h a "java/lang/String" "hashIsZero" "Z" (.int 0)) refs := by
  refine Ok.of_run (ls0 := #[.val (.int p), .unset, .unset, .unset, .unset]) (plainFor_of_name (by first | (simp [plainName, overriddenIn]; done) | decide +kernel)) (fun m => by first | (simp [entryFrame, mkF, argsToLocals, Value.category]; done) | rfl) rfl ?_
  refine Run.old fun hO => ?_
  have hn0 : n0 ≤ h0.size := hO.1 ▸ hO.2.1
  refine r_iloadN d1_0 rfl rfl ?_
  refine r_bipush (v := 24) d1_1 rfl rfl ?_
  refine r_iushr d1_3 rfl ?_
  refine r_iconst (v := 3) d1_4 rfl rfl ?_
  refine r_iand d1_5 rfl ?_
  refine r_istoreN (l' := #[.val (.int p), .val (.int (((p.toUInt32 >>> ((24 : Int32) &&& 31).toUInt32).toInt32) &&& (3 : Int32))), .unset, .unset, .unset]) d1_6 rfl rfl rfl ?_
  refine r_iloadN d1_7 rfl rfl ?_
  refine r_sipush (v := 255) d1_8 rfl rfl ?_
  refine r_iand d1_11 rfl ?_
  refine r_i2c d1_12 rfl ?_
  refine r_istoreN (l' := #[.val (.int p), .val (.int (((p.toUInt32 >>> ((24 : Int32) &&& 31).toUInt32).toInt32) &&& (3 : Int32))), .val (.int ((p &&& (255 : Int32)).toUInt32.toUInt16.toUInt32.toInt32)), .unset, .unset]) d1_13 rfl rfl rfl ?_
  refine r_iloadN d1_14 rfl rfl ?_
  refine r_bipush (v := 8) d1_15 rfl rfl ?_
  refine r_iushr d1_17 rfl ?_
  refine r_sipush (v := 255) d1_18 rfl rfl ?_
  refine r_iand d1_21 rfl ?_
  refine r_i2c d1_22 rfl ?_
  refine r_istoreN (l' := #[.val (.int p), .val (.int (((p.toUInt32 >>> ((24 : Int32) &&& 31).toUInt32).toInt32) &&& (3 : Int32))), .val (.int ((p &&& (255 : Int32)).toUInt32.toUInt16.toUInt32.toInt32)), .val (.int ((((p.toUInt32 >>> ((8 : Int32) &&& 31).toUInt32).toInt32) &&& (255 : Int32)).toUInt32.toUInt16.toUInt32.toInt32)), .unset]) d1_23 rfl rfl rfl ?_
  refine r_iloadN d1_24 rfl rfl ?_
  refine r_bipush (v := 16) d1_25 rfl rfl ?_
  refine r_iushr d1_27 rfl ?_
  refine r_sipush (v := 255) d1_28 rfl rfl ?_
  refine r_iand d1_31 rfl ?_
  refine r_i2c d1_32 rfl ?_
  refine r_istore (l' := #[.val (.int p), .val (.int (((p.toUInt32 >>> ((24 : Int32) &&& 31).toUInt32).toInt32) &&& (3 : Int32))), .val (.int ((p &&& (255 : Int32)).toUInt32.toUInt16.toUInt32.toInt32)), .val (.int ((((p.toUInt32 >>> ((8 : Int32) &&& 31).toUInt32).toInt32) &&& (255 : Int32)).toUInt32.toUInt16.toUInt32.toInt32)), .val (.int ((((p.toUInt32 >>> ((16 : Int32) &&& 31).toUInt32).toInt32) &&& (255 : Int32)).toUInt32.toUInt16.toUInt32.toInt32))]) d1_33 rfl rfl rfl ?_
  refine r_iloadN d1_35 rfl rfl ?_
  refine r_ifne (pc2 := 50) d1_36 rfl rfl (fun c1 => ?_) (fun c1 => ?_)
  · refine r_iloadN d1_50 rfl rfl ?_
    refine r_iconst (v := 1) d1_51 rfl rfl ?_
    refine r_icmpne (pc2 := 70) d1_52 rfl rfl (fun c2 => ?_) (fun c2 => ?_)
    · refine r_iloadN d1_70 rfl rfl ?_
      refine r_iconst (v := 2) d1_71 rfl rfl ?_
      refine r_icmpne (pc2 := 94) d1_72 rfl rfl (fun c3 => ?_) (fun c3 => ?_)
      · refine r_new d1_94 rfl (wd4 hw) (wd5 hw) (wd6 hw) (by decide) (by decide) ?_
        intro h5 b4 gb4 ltb4 E6 A7 D8 U9
        have szh5 := E6.1
        have geb4 : n0 ≤ b4 := by omega
        have F10 : Fld Z h5 b4 "java/lang/String" "value" "[B" .null := D8 (Or.inr (wd20 hw)) (ty := (.array .byte)) (by decide)
        have F11 : Fld Z h5 b4 "java/lang/String" "coder" "B" (.int (0 : Int32)) := D8 (Or.inr (wd21 hw)) (ty := .byte) (by decide)
        have F12 : Fld Z h5 b4 "java/lang/String" "hash" "I" (.int (0 : Int32)) := D8 (Or.inl (wd43 hw)) (ty := .int) (by decide)
        have F13 : Fld Z h5 b4 "java/lang/String" "hashIsZero" "Z" (.int (0 : Int32)) := D8 (Or.inl (wd45 hw)) (ty := .boolean) (by decide)
        refine r_dup d1_97 rfl rfl ?_
        refine r_iconst (v := 3) d1_98 rfl rfl ?_
        refine r_newP (cap := 3) (ad := "[C") d1_99 rfl (wd7 hw) (by decide) (by decide) (by decide) (by decide) (by decide) (by decide) ?_
        intro h15 b14 k19 gb14 ltb14 E16 A17 K18
        have szh15 := E16.1
        have geb14 : n0 ≤ b14 := by omega
        have K20 : Arv Z h15 b14 k19 .char (3 : Int32) [(.int 0), (.int 0), (.int 0)] (.int 0) := Arv.pad K18 (pad_rep [] (.int 0) 3)
        refine r_dup d1_101 rfl rfl ?_
        refine r_iconst (v := 0) d1_102 rfl rfl ?_
        refine r_iloadN d1_103 rfl rfl ?_
        refine r_castore 0 d1_104 rfl K20 ⟨by decide, by decide⟩ rfl (Nat.le_of_ble_eq_true rfl) geb14 ?_
        intro h21 W22 K23
        have szh21 := Wr.size W22
        have K24 : Arv Z h21 b14 k19 .char (3 : Int32) [(.int (nar .char ((p &&& (255 : Int32)).toUInt32.toUInt16.toUInt32.toInt32))), (.int 0), (.int 0)] (.int 0) := K23
        refine r_dup d1_105 rfl rfl ?_
        refine r_iconst (v := 1) d1_106 rfl rfl ?_
        refine r_iloadN d1_107 rfl rfl ?_
        refine r_castore 1 d1_108 rfl K24 ⟨by decide, by decide⟩ rfl (Nat.le_of_ble_eq_true rfl) geb14 ?_
        intro h25 W26 K27
        have szh25 := Wr.size W26
        have K28 : Arv Z h25 b14 k19 .char (3 : Int32) [(.int (nar .char ((p &&& (255 : Int32)).toUInt32.toUInt16.toUInt32.toInt32))), (.int (nar .char ((((p.toUInt32 >>> ((8 : Int32) &&& 31).toUInt32).toInt32) &&& (255 : Int32)).toUInt32.toUInt16.toUInt32.toInt32))), (.int 0)] (.int 0) := K27
        refine r_dup d1_109 rfl rfl ?_
        refine r_iconst (v := 2) d1_110 rfl rfl ?_
        refine r_iload d1_111 rfl rfl ?_
        refine r_castore 2 d1_113 rfl K28 ⟨by decide, by decide⟩ rfl (Nat.le_of_ble_eq_true rfl) geb14 ?_
        intro h29 W30 K31
        have szh29 := Wr.size W30
        have K32 : Arv Z h29 b14 k19 .char (3 : Int32) [(.int (nar .char ((p &&& (255 : Int32)).toUInt32.toUInt16.toUInt32.toInt32))), (.int (nar .char ((((p.toUInt32 >>> ((8 : Int32) &&& 31).toUInt32).toInt32) &&& (255 : Int32)).toUInt32.toUInt16.toUInt32.toInt32))), (.int (nar .char ((((p.toUInt32 >>> ((16 : Int32) &&& 31).toUInt32).toInt32) &&& (255 : Int32)).toUInt32.toUInt16.toUInt32.toInt32)))] (.int 0) := K31
        have ne33 : @Ne Nat b4 b14 := by omega
        have F34 : Fld Z h29 b4 "java/lang/String" "value" "[B" .null := (Fld.other W30 (Fld.other W26 (Fld.other W22 (Fld.ext E16 F10) (Or.inl ne33)) (Or.inl ne33)) (Or.inl ne33))
        have F35 : Fld Z h29 b4 "java/lang/String" "coder" "B" (.int (0 : Int32)) := (Fld.other W30 (Fld.other W26 (Fld.other W22 (Fld.ext E16 F11) (Or.inl ne33)) (Or.inl ne33)) (Or.inl ne33))
        have F36 : Fld Z h29 b4 "java/lang/String" "hash" "I" (.int (0 : Int32)) := (Fld.other W30 (Fld.other W26 (Fld.other W22 (Fld.ext E16 F12) (Or.inl ne33)) (Or.inl ne33)) (Or.inl ne33))
        have F37 : Fld Z h29 b4 "java/lang/String" "hashIsZero" "Z" (.int (0 : Int32)) := (Fld.other W30 (Fld.other W26 (Fld.other W22 (Fld.ext E16 F13) (Or.inl ne33)) (Or.inl ne33)) (Or.inl ne33))
        have A38 : Exa Z h29 b4 "java/lang/String" := (Exa.wr W30 (Exa.wr W26 (Exa.wr W22 (Exa.ext E16 A7))))
        refine r_special (y := (⟨"java/lang/String", "<init>", "([C)V"⟩ : MethodName)) (argsL := [(.ref b14)]) (rest := [(.ref b4)]) (W := 1) (kc := 1) (ks := 3) (wl := [b4]) d1_114 rfl rfl (wd8 hw) (wd9 hw) (wd10 hw) (by decide) (lenOf pd_5 rfl) rfl rfl (Nat.le_of_ble_eq_true rfl) (pays_init hw (cs := [ch8 p, ch8 (ushr p 8), ch8 (ushr p 16)]) (n := 3) geb4 A38 F34 F35 K32 SC nC rfl rfl (by decide) (by decide) (lat3 _ _ _ ) (by decide) (by decide)) (fun v h' q => q.2.1) (allS ⟨geb4, (Sf.my (by simp))⟩ all0) (by decide) (by decide) ?_
        rintro _ h39 ⟨rfl, KK, sz, SS, FF⟩
        refine Run.cast (st' := [(.ref b4)]) rfl ?_
        have FH : Fld Z h39 b4 "java/lang/String" "hash" "I" (.int 0) := FF _ _ _ _ F36 (slot_ne (Or.inl (wd43 hw)) (Or.inr (wd20 hw)) (by decide) (t := .int) (t' := (.array .byte)) (by decide) (by decide)) (slot_ne (Or.inl (wd43 hw)) (Or.inr (wd21 hw)) (by decide) (t := .int) (t' := .byte) (by decide) (by decide))
        have FZ : Fld Z h39 b4 "java/lang/String" "hashIsZero" "Z" (.int 0) := FF _ _ _ _ F37 (slot_ne (Or.inl (wd45 hw)) (Or.inr (wd20 hw)) (by decide) (t := .boolean) (t' := (.array .byte)) (by decide) (by decide)) (slot_ne (Or.inl (wd45 hw)) (Or.inr (wd21 hw)) (by decide) (t := .boolean) (t' := .byte) (by decide) (by decide))
        have kp : Keep h0 h39 [] := (Keep.trans (Keep.wr (Keep.wr (Keep.wr (Keep.ext (Keep.ext (Keep.refl _ _) E6) E16) W22 (Or.inr (by omega))) W26 (Or.inr (by omega))) W30 (Or.inr (by omega))) KK (allS (Or.inr (by omega)) all0))
        exact r_areturn d1_117 rfl rfl rfl rfl ⟨b4, h29.size, rfl, kp, by omega, by rw [mkcs, if_neg c1, if_neg c2, if_neg c3]; exact SS, FH, FZ⟩ (by simp [refs]) (by decide) (by decide)
      · refine r_new d1_75 rfl (wd4 hw) (wd5 hw) (wd6 hw) (by decide) (by decide) ?_
        intro h41 b40 gb40 ltb40 E42 A43 D44 U45
        have szh41 := E42.1
        have geb40 : n0 ≤ b40 := by omega
        have F46 : Fld Z h41 b40 "java/lang/String" "value" "[B" .null := D44 (Or.inr (wd20 hw)) (ty := (.array .byte)) (by decide)
        have F47 : Fld Z h41 b40 "java/lang/String" "coder" "B" (.int (0 : Int32)) := D44 (Or.inr (wd21 hw)) (ty := .byte) (by decide)
        have F48 : Fld Z h41 b40 "java/lang/String" "hash" "I" (.int (0 : Int32)) := D44 (Or.inl (wd43 hw)) (ty := .int) (by decide)
        have F49 : Fld Z h41 b40 "java/lang/String" "hashIsZero" "Z" (.int (0 : Int32)) := D44 (Or.inl (wd45 hw)) (ty := .boolean) (by decide)
        refine r_dup d1_78 rfl rfl ?_
        refine r_iconst (v := 2) d1_79 rfl rfl ?_
        refine r_newP (cap := 2) (ad := "[C") d1_80 rfl (wd7 hw) (by decide) (by decide) (by decide) (by decide) (by decide) (by decide) ?_
        intro h51 b50 k55 gb50 ltb50 E52 A53 K54
        have szh51 := E52.1
        have geb50 : n0 ≤ b50 := by omega
        have K56 : Arv Z h51 b50 k55 .char (2 : Int32) [(.int 0), (.int 0)] (.int 0) := Arv.pad K54 (pad_rep [] (.int 0) 2)
        refine r_dup d1_82 rfl rfl ?_
        refine r_iconst (v := 0) d1_83 rfl rfl ?_
        refine r_iloadN d1_84 rfl rfl ?_
        refine r_castore 0 d1_85 rfl K56 ⟨by decide, by decide⟩ rfl (Nat.le_of_ble_eq_true rfl) geb50 ?_
        intro h57 W58 K59
        have szh57 := Wr.size W58
        have K60 : Arv Z h57 b50 k55 .char (2 : Int32) [(.int (nar .char ((p &&& (255 : Int32)).toUInt32.toUInt16.toUInt32.toInt32))), (.int 0)] (.int 0) := K59
        refine r_dup d1_86 rfl rfl ?_
        refine r_iconst (v := 1) d1_87 rfl rfl ?_
        refine r_iloadN d1_88 rfl rfl ?_
        refine r_castore 1 d1_89 rfl K60 ⟨by decide, by decide⟩ rfl (Nat.le_of_ble_eq_true rfl) geb50 ?_
        intro h61 W62 K63
        have szh61 := Wr.size W62
        have K64 : Arv Z h61 b50 k55 .char (2 : Int32) [(.int (nar .char ((p &&& (255 : Int32)).toUInt32.toUInt16.toUInt32.toInt32))), (.int (nar .char ((((p.toUInt32 >>> ((8 : Int32) &&& 31).toUInt32).toInt32) &&& (255 : Int32)).toUInt32.toUInt16.toUInt32.toInt32)))] (.int 0) := K63
        have ne65 : @Ne Nat b40 b50 := by omega
        have F66 : Fld Z h61 b40 "java/lang/String" "value" "[B" .null := (Fld.other W62 (Fld.other W58 (Fld.ext E52 F46) (Or.inl ne65)) (Or.inl ne65))
        have F67 : Fld Z h61 b40 "java/lang/String" "coder" "B" (.int (0 : Int32)) := (Fld.other W62 (Fld.other W58 (Fld.ext E52 F47) (Or.inl ne65)) (Or.inl ne65))
        have F68 : Fld Z h61 b40 "java/lang/String" "hash" "I" (.int (0 : Int32)) := (Fld.other W62 (Fld.other W58 (Fld.ext E52 F48) (Or.inl ne65)) (Or.inl ne65))
        have F69 : Fld Z h61 b40 "java/lang/String" "hashIsZero" "Z" (.int (0 : Int32)) := (Fld.other W62 (Fld.other W58 (Fld.ext E52 F49) (Or.inl ne65)) (Or.inl ne65))
        have A70 : Exa Z h61 b40 "java/lang/String" := (Exa.wr W62 (Exa.wr W58 (Exa.ext E52 A43)))
        refine r_special (y := (⟨"java/lang/String", "<init>", "([C)V"⟩ : MethodName)) (argsL := [(.ref b50)]) (rest := [(.ref b40)]) (W := 1) (kc := 1) (ks := 2) (wl := [b40]) d1_90 rfl rfl (wd8 hw) (wd9 hw) (wd10 hw) (by decide) (lenOf pd_5 rfl) rfl rfl (Nat.le_of_ble_eq_true rfl) (pays_init hw (cs := [ch8 p, ch8 (ushr p 8)]) (n := 2) geb40 A70 F66 F67 K64 SC nC rfl rfl (by decide) (by decide) (lat2 _ _ ) (by decide) (by decide)) (fun v h' q => q.2.1) (allS ⟨geb40, (Sf.my (by simp))⟩ all0) (by decide) (by decide) ?_
        rintro _ h71 ⟨rfl, KK, sz, SS, FF⟩
        refine Run.cast (st' := [(.ref b40)]) rfl ?_
        have FH : Fld Z h71 b40 "java/lang/String" "hash" "I" (.int 0) := FF _ _ _ _ F68 (slot_ne (Or.inl (wd43 hw)) (Or.inr (wd20 hw)) (by decide) (t := .int) (t' := (.array .byte)) (by decide) (by decide)) (slot_ne (Or.inl (wd43 hw)) (Or.inr (wd21 hw)) (by decide) (t := .int) (t' := .byte) (by decide) (by decide))
        have FZ : Fld Z h71 b40 "java/lang/String" "hashIsZero" "Z" (.int 0) := FF _ _ _ _ F69 (slot_ne (Or.inl (wd45 hw)) (Or.inr (wd20 hw)) (by decide) (t := .boolean) (t' := (.array .byte)) (by decide) (by decide)) (slot_ne (Or.inl (wd45 hw)) (Or.inr (wd21 hw)) (by decide) (t := .boolean) (t' := .byte) (by decide) (by decide))
        have kp : Keep h0 h71 [] := (Keep.trans (Keep.wr (Keep.wr (Keep.ext (Keep.ext (Keep.refl _ _) E42) E52) W58 (Or.inr (by omega))) W62 (Or.inr (by omega))) KK (allS (Or.inr (by omega)) all0))
        exact r_areturn d1_93 rfl rfl rfl rfl ⟨b40, h61.size, rfl, kp, by omega, by rw [mkcs, if_neg c1, if_neg c2, if_pos c3]; exact SS, FH, FZ⟩ (by simp [refs]) (by decide) (by decide)
    · refine r_new d1_55 rfl (wd4 hw) (wd5 hw) (wd6 hw) (by decide) (by decide) ?_
      intro h73 b72 gb72 ltb72 E74 A75 D76 U77
      have szh73 := E74.1
      have geb72 : n0 ≤ b72 := by omega
      have F78 : Fld Z h73 b72 "java/lang/String" "value" "[B" .null := D76 (Or.inr (wd20 hw)) (ty := (.array .byte)) (by decide)
      have F79 : Fld Z h73 b72 "java/lang/String" "coder" "B" (.int (0 : Int32)) := D76 (Or.inr (wd21 hw)) (ty := .byte) (by decide)
      have F80 : Fld Z h73 b72 "java/lang/String" "hash" "I" (.int (0 : Int32)) := D76 (Or.inl (wd43 hw)) (ty := .int) (by decide)
      have F81 : Fld Z h73 b72 "java/lang/String" "hashIsZero" "Z" (.int (0 : Int32)) := D76 (Or.inl (wd45 hw)) (ty := .boolean) (by decide)
      refine r_dup d1_58 rfl rfl ?_
      refine r_iconst (v := 1) d1_59 rfl rfl ?_
      refine r_newP (cap := 1) (ad := "[C") d1_60 rfl (wd7 hw) (by decide) (by decide) (by decide) (by decide) (by decide) (by decide) ?_
      intro h83 b82 k87 gb82 ltb82 E84 A85 K86
      have szh83 := E84.1
      have geb82 : n0 ≤ b82 := by omega
      have K88 : Arv Z h83 b82 k87 .char (1 : Int32) [(.int 0)] (.int 0) := Arv.pad K86 (pad_rep [] (.int 0) 1)
      refine r_dup d1_62 rfl rfl ?_
      refine r_iconst (v := 0) d1_63 rfl rfl ?_
      refine r_iloadN d1_64 rfl rfl ?_
      refine r_castore 0 d1_65 rfl K88 ⟨by decide, by decide⟩ rfl (Nat.le_of_ble_eq_true rfl) geb82 ?_
      intro h89 W90 K91
      have szh89 := Wr.size W90
      have K92 : Arv Z h89 b82 k87 .char (1 : Int32) [(.int (nar .char ((p &&& (255 : Int32)).toUInt32.toUInt16.toUInt32.toInt32)))] (.int 0) := K91
      have ne93 : @Ne Nat b72 b82 := by omega
      have F94 : Fld Z h89 b72 "java/lang/String" "value" "[B" .null := (Fld.other W90 (Fld.ext E84 F78) (Or.inl ne93))
      have F95 : Fld Z h89 b72 "java/lang/String" "coder" "B" (.int (0 : Int32)) := (Fld.other W90 (Fld.ext E84 F79) (Or.inl ne93))
      have F96 : Fld Z h89 b72 "java/lang/String" "hash" "I" (.int (0 : Int32)) := (Fld.other W90 (Fld.ext E84 F80) (Or.inl ne93))
      have F97 : Fld Z h89 b72 "java/lang/String" "hashIsZero" "Z" (.int (0 : Int32)) := (Fld.other W90 (Fld.ext E84 F81) (Or.inl ne93))
      have A98 : Exa Z h89 b72 "java/lang/String" := (Exa.wr W90 (Exa.ext E84 A75))
      refine r_special (y := (⟨"java/lang/String", "<init>", "([C)V"⟩ : MethodName)) (argsL := [(.ref b82)]) (rest := [(.ref b72)]) (W := 1) (kc := 1) (ks := 1) (wl := [b72]) d1_66 rfl rfl (wd8 hw) (wd9 hw) (wd10 hw) (by decide) (lenOf pd_5 rfl) rfl rfl (Nat.le_of_ble_eq_true rfl) (pays_init hw (cs := [ch8 p]) (n := 1) geb72 A98 F94 F95 K92 SC nC rfl rfl (by decide) (by decide) (lat1 _ ) (by decide) (by decide)) (fun v h' q => q.2.1) (allS ⟨geb72, (Sf.my (by simp))⟩ all0) (by decide) (by decide) ?_
      rintro _ h99 ⟨rfl, KK, sz, SS, FF⟩
      refine Run.cast (st' := [(.ref b72)]) rfl ?_
      have FH : Fld Z h99 b72 "java/lang/String" "hash" "I" (.int 0) := FF _ _ _ _ F96 (slot_ne (Or.inl (wd43 hw)) (Or.inr (wd20 hw)) (by decide) (t := .int) (t' := (.array .byte)) (by decide) (by decide)) (slot_ne (Or.inl (wd43 hw)) (Or.inr (wd21 hw)) (by decide) (t := .int) (t' := .byte) (by decide) (by decide))
      have FZ : Fld Z h99 b72 "java/lang/String" "hashIsZero" "Z" (.int 0) := FF _ _ _ _ F97 (slot_ne (Or.inl (wd45 hw)) (Or.inr (wd20 hw)) (by decide) (t := .boolean) (t' := (.array .byte)) (by decide) (by decide)) (slot_ne (Or.inl (wd45 hw)) (Or.inr (wd21 hw)) (by decide) (t := .boolean) (t' := .byte) (by decide) (by decide))
      have kp : Keep h0 h99 [] := (Keep.trans (Keep.wr (Keep.ext (Keep.ext (Keep.refl _ _) E74) E84) W90 (Or.inr (by omega))) KK (allS (Or.inr (by omega)) all0))
      exact r_areturn d1_69 rfl rfl rfl rfl ⟨b72, h89.size, rfl, kp, by omega, by rw [mkcs, if_neg c1, if_pos c2]; exact SS, FH, FZ⟩ (by simp [refs]) (by decide) (by decide)
  · refine r_new d1_39 rfl (wd4 hw) (wd5 hw) (wd6 hw) (by decide) (by decide) ?_
    intro h101 b100 gb100 ltb100 E102 A103 D104 U105
    have szh101 := E102.1
    have geb100 : n0 ≤ b100 := by omega
    have F106 : Fld Z h101 b100 "java/lang/String" "value" "[B" .null := D104 (Or.inr (wd20 hw)) (ty := (.array .byte)) (by decide)
    have F107 : Fld Z h101 b100 "java/lang/String" "coder" "B" (.int (0 : Int32)) := D104 (Or.inr (wd21 hw)) (ty := .byte) (by decide)
    have F108 : Fld Z h101 b100 "java/lang/String" "hash" "I" (.int (0 : Int32)) := D104 (Or.inl (wd43 hw)) (ty := .int) (by decide)
    have F109 : Fld Z h101 b100 "java/lang/String" "hashIsZero" "Z" (.int (0 : Int32)) := D104 (Or.inl (wd45 hw)) (ty := .boolean) (by decide)
    refine r_dup d1_42 rfl rfl ?_
    refine r_iconst (v := 0) d1_43 rfl rfl ?_
    refine r_newP (cap := 0) (ad := "[C") d1_44 rfl (wd7 hw) (by decide) (by decide) (by decide) (by decide) (by decide) (by decide) ?_
    intro h111 b110 k115 gb110 ltb110 E112 A113 K114
    have szh111 := E112.1
    have geb110 : n0 ≤ b110 := by omega
    have K116 : Arv Z h111 b110 k115 .char (0 : Int32) [] (.int 0) := Arv.pad K114 (pad_rep [] (.int 0) 0)
    have F117 : Fld Z h111 b100 "java/lang/String" "value" "[B" .null := (Fld.ext E112 F106)
    have F118 : Fld Z h111 b100 "java/lang/String" "coder" "B" (.int (0 : Int32)) := (Fld.ext E112 F107)
    have F119 : Fld Z h111 b100 "java/lang/String" "hash" "I" (.int (0 : Int32)) := (Fld.ext E112 F108)
    have F120 : Fld Z h111 b100 "java/lang/String" "hashIsZero" "Z" (.int (0 : Int32)) := (Fld.ext E112 F109)
    have A121 : Exa Z h111 b100 "java/lang/String" := (Exa.ext E112 A103)
    refine r_specialW (y := (⟨"java/lang/String", "<init>", "([C)V"⟩ : MethodName)) (argsL := [(.ref b110)]) (rest := [(.ref b100)]) (W := 1) (kc := 4) (ks := 8) (wl := [b100]) rfl d1_46 rfl rfl (wd8 hw) (wd9 hw) (wd10 hw) (by decide) (lenOf pd_5 rfl) rfl rfl (Nat.le_of_ble_eq_true rfl) (Ok.paysW (ok_i1 hw b100 b110 A121 F117 F118 F119 F120 geb100 K116) (wd10 hw) (wd6 hw) (by decide) (by decide)) (by simp) (fun v h' q => q.2.1) (allS geb100 all0) (by decide) (by decide) ?_
    rintro _ h122 ⟨rfl, KK, ⟨tt, SS⟩, FH, FZ⟩
    refine Run.forget (My' := [b110, b100]) (by simp [refs]) ?_
    refine Run.cast (st' := [(.ref b100)]) rfl ?_
    have szz := KK.1
    have kp : Keep h0 h122 [] := (Keep.trans (Keep.ext (Keep.ext (Keep.refl _ _) E102) E112) KK (allS (Or.inr (by omega)) all0))
    exact r_areturn d1_49 rfl rfl rfl rfl ⟨b100, tt, rfl, kp, by omega, by rw [mkcs, if_pos c1]; exact SS, FH, FZ⟩ (by simp [refs]) (by decide) (by decide)
set_option maxRecDepth 65536 in
set_option maxHeartbeats 40000000 in
theorem ok_ki {l : Launch} {Z : State} {a0 : Array Value} (hw : ∀ d ∈ tables_1, d.before a0 Z = true) {n0 : Nat} (x a b t u : Addr) {cs ds : List Int32} (hl1 : cs.length ≤ 3) (hl2 : ds.length ≤ 3) {zC : Int32} {h0 : Heap} (SC : Sta Z Z.heap "java/lang/String" "COMPACT_STRINGS" "Z" (.int zC)) (nC : ¬ zC = 0) (gx : n0 ≤ x) (ga : n0 ≤ a) (gb : n0 ≤ b) (nab : a ≠ b) (E : Exa Z h0 x "com/example/nx1/nx1/HolderKey") (FN : Fld Z h0 x "com/example/nx1/nx1/HolderKey" "name" "Ljava/lang/String;" .null) (FO : Fld Z h0 x "com/example/nx1/nx1/HolderKey" "holder" "Ljava/lang/String;" .null) (FHs : Fld Z h0 x "com/example/nx1/nx1/HolderKey" "hash" "I" (.int 0)) (F : Str Z h0 a t cs) (G : Str Z h0 b u ds) (FH : Fld Z h0 a "java/lang/String" "hash" "I" (.int 0)) (FZ : Fld Z h0 a "java/lang/String" "hashIsZero" "Z" (.int 0)) (GH : Fld Z h0 b "java/lang/String" "hash" "I" (.int 0)) (GZ : Fld Z h0 b "java/lang/String" "hashIsZero" "Z" (.int 0)) :
    Ok false l Z [] n0 [] (⟨"com/example/nx1/nx1/HolderKey", "<init>", "(Ljava/lang/String;Ljava/lang/String;)V"⟩ : MethodName) prog_4_method_1_code 3 (Option.none : Option Jvm.ClassFile.FieldType) ({ frames := 4, cells := 0, slots := 0, locals := 60 } : Room) #[(.ref x), (.ref a), (.ref b)] h0 (fun v h => v = none ∧ Keep h0 h [x, a, b] ∧ Exa Z h x "com/example/nx1/nx1/HolderKey" ∧ Fld Z h x "com/example/nx1/nx1/HolderKey" "name" "Ljava/lang/String;" (.ref a) ∧ Fld Z h x "com/example/nx1/nx1/HolderKey" "holder" "Ljava/lang/String;" (.ref b) ∧ Fld Z h x "com/example/nx1/nx1/HolderKey" "hash" "I" (.int (hk cs ds)) ∧ Str Z h a t cs ∧ Str Z h b u ds) (fun _ => []) := by
  refine Ok.of_run (ls0 := #[.val (.ref x), .val (.ref a), .val (.ref b)]) (plainFor_of_name (by first | (simp [plainName, overriddenIn]; done) | decide +kernel)) (fun m => by first | (simp [entryFrame, mkF, argsToLocals, Value.category]; done) | rfl) rfl ?_
  refine Run.old fun hO => ?_
  have hn0 : n0 ≤ h0.size := hO.1 ▸ hO.2.1
  have lt1 : @LT.lt Nat instLTNat x (Array.size h0) := E.lt
  have nax : a ≠ x := Exa.ne F.exa E (by decide)
  have nbx : b ≠ x := Exa.ne G.exa E (by decide)
  have lt2 : @LT.lt Nat instLTNat a (Array.size h0) := (Str.lt F)
  have lt3 : @LT.lt Nat instLTNat t (Array.size h0) := (Str.ltB F)
  have lt4 : @LT.lt Nat instLTNat b (Array.size h0) := (Str.lt G)
  have lt5 : @LT.lt Nat instLTNat u (Array.size h0) := (Str.ltB G)
  have ntx : t ≠ x := Str.neB F E (wd27 hw)
  have nux : u ≠ x := Str.neB G E (wd27 hw)
  have nub : u ≠ b := Str.neB G G.exa (wd5 hw)
  have nua : u ≠ a := Str.neB G F.exa (wd5 hw)
  have ntb : t ≠ b := Str.neB F G.exa (wd5 hw)
  have nta : t ≠ a := Str.neB F F.exa (wd5 hw)
  refine r_aloadN d5_0 rfl rfl rfl ?_
  refine r_initO (W := 0) d5_1 rfl (wd32 hw) (wd16 hw) (wd17 hw) (by decide) (Nat.le_of_ble_eq_true rfl) (by decide) ?_
  refine r_aloadN d5_4 rfl rfl rfl ?_
  refine r_aloadN d5_5 rfl rfl rfl ?_
  refine r_putfield (ty := (.object "java/lang/String")) (v' := (.ref a)) d5_6 rfl (wd33 hw) Via.refl FN E (Or.inr ⟨(wd34 hw), rfl, rfl⟩) (wd27 hw) (by decide) rfl rfl gx (Or.inl rfl) ?_
  intro h6 W7
  have szh6 := Wr.size W7
  have F8 : Fld Z h6 x "com/example/nx1/nx1/HolderKey" "name" "Ljava/lang/String;" (.ref a) := Fld.same W7 FN
  refine r_aloadN d5_9 rfl rfl rfl ?_
  refine r_aloadN d5_10 rfl rfl rfl ?_
  have F9 : Fld Z h6 x "com/example/nx1/nx1/HolderKey" "holder" "Ljava/lang/String;" .null := (Fld.other W7 FO (Or.inr (slot_ne (Or.inr (wd36 hw)) (Or.inr (wd34 hw)) (by decide) (t := (.object "java/lang/String")) (t' := (.object "java/lang/String")) (by decide) (by decide))))
  have A10 : Exa Z h6 x "com/example/nx1/nx1/HolderKey" := (Exa.wr W7 E)
  refine r_putfield (ty := (.object "java/lang/String")) (v' := (.ref b)) d5_11 rfl (wd35 hw) Via.refl F9 A10 (Or.inr ⟨(wd36 hw), rfl, rfl⟩) (wd27 hw) (by decide) rfl rfl gx (Or.inl rfl) ?_
  intro h11 W12
  have szh11 := Wr.size W12
  have F13 : Fld Z h11 x "com/example/nx1/nx1/HolderKey" "holder" "Ljava/lang/String;" (.ref b) := Fld.same W12 F9
  refine r_aloadN d5_14 rfl rfl rfl ?_
  refine r_bipush (v := 31) d5_15 rfl rfl ?_
  refine r_aloadN d5_17 rfl rfl rfl ?_
  have G14 : Str Z h11 a t cs := (Str.other W12 (Str.other W7 F nax ntx) nax ntx)
  have F15 : Fld Z h11 a "java/lang/String" "hash" "I" (.int (0 : Int32)) := (Fld.other W12 (Fld.other W7 FH (Or.inl nax)) (Or.inl nax))
  have F16 : Fld Z h11 a "java/lang/String" "hashIsZero" "Z" (.int (0 : Int32)) := (Fld.other W12 (Fld.other W7 FZ (Or.inl nax)) (Or.inl nax))
  have A20 : Exa Z h11 a "java/lang/String" := (Exa.wr W12 (Exa.wr W7 (Str.exa F)))
  refine r_virtual (y := (⟨"java/lang/String", "hashCode", "()I"⟩ : MethodName)) (argsL := []) (rest := [(.int (31 : Int32)), (.ref x)]) (W := 2) (kc := 0) (ks := 0) (wl := [a]) d5_18 rfl (wd37 hw) (wd38 hw) (wd40 hw) (wd39 hw) (by decide) ⟨rfl, rfl⟩ A20 (lenOf pd_6 rfl) rfl rfl (Nat.le_of_ble_eq_true rfl) (Ok.pays (ok_hc hw a t (by omega) SC nC G14 F15 F16 ga) (wd41 hw) (wd6 hw) (by decide) (by decide)) (fun v h' q => q.2.1) (allS ⟨ga, (Or.inl rfl)⟩ all0) (by decide) (by decide) ?_
  rintro _ h19 ⟨rfl, KK17, SS18⟩
  refine Run.cast (st' := [(.int (hsh 0 (cs.map (fun c => c.toInt8.toInt32)))), (.int (31 : Int32)), (.ref x)]) rfl ?_
  have szh19 := KK17.1
  refine r_imul d5_21 rfl ?_
  refine r_aloadN d5_22 rfl rfl rfl ?_
  have G21 : Str Z h19 b u ds := (Str.keep (Str.other W12 (Str.other W7 G nbx nux) nbx nux) KK17 (ninS (Ne.symm nab) nin0) (ninS nua nin0))
  have F22 : Fld Z h19 b "java/lang/String" "hash" "I" (.int (0 : Int32)) := (Fld.keep (Fld.other W12 (Fld.other W7 GH (Or.inl nbx)) (Or.inl nbx)) KK17 (ninS (Ne.symm nab) nin0))
  have F23 : Fld Z h19 b "java/lang/String" "hashIsZero" "Z" (.int (0 : Int32)) := (Fld.keep (Fld.other W12 (Fld.other W7 GZ (Or.inl nbx)) (Or.inl nbx)) KK17 (ninS (Ne.symm nab) nin0))
  have A27 : Exa Z h19 b "java/lang/String" := (Exa.keep (Exa.wr W12 (Exa.wr W7 (Str.exa G))) KK17)
  refine r_virtual (y := (⟨"java/lang/String", "hashCode", "()I"⟩ : MethodName)) (argsL := []) (rest := [(.int ((31 : Int32) * (hsh 0 (cs.map (fun c => c.toInt8.toInt32))))), (.ref x)]) (W := 2) (kc := 0) (ks := 0) (wl := [b]) d5_23 rfl (wd37 hw) (wd38 hw) (wd40 hw) (wd39 hw) (by decide) ⟨rfl, rfl⟩ A27 (lenOf pd_6 rfl) rfl rfl (Nat.le_of_ble_eq_true rfl) (Ok.pays (ok_hc hw b u (by omega) SC nC G21 F22 F23 gb) (wd41 hw) (wd6 hw) (by decide) (by decide)) (fun v h' q => q.2.1) (allS ⟨gb, (Or.inl rfl)⟩ all0) (by decide) (by decide) ?_
  rintro _ h26 ⟨rfl, KK24, SS25⟩
  refine Run.cast (st' := [(.int (hsh 0 (ds.map (fun c => c.toInt8.toInt32)))), (.int ((31 : Int32) * (hsh 0 (cs.map (fun c => c.toInt8.toInt32))))), (.ref x)]) rfl ?_
  have szh26 := KK24.1
  refine r_iadd d5_26 rfl ?_
  have F28 : Fld Z h26 x "com/example/nx1/nx1/HolderKey" "hash" "I" (.int (0 : Int32)) := (Fld.keep (Fld.keep (Fld.other W12 (Fld.other W7 FHs (Or.inr (slot_ne (Or.inr (wd57 hw)) (Or.inr (wd34 hw)) (by decide) (t := .int) (t' := (.object "java/lang/String")) (by decide) (by decide)))) (Or.inr (slot_ne (Or.inr (wd57 hw)) (Or.inr (wd36 hw)) (by decide) (t := .int) (t' := (.object "java/lang/String")) (by decide) (by decide)))) KK17 (ninS (Ne.symm nax) nin0)) KK24 (ninS (Ne.symm nbx) nin0))
  have A29 : Exa Z h26 x "com/example/nx1/nx1/HolderKey" := (Exa.keep (Exa.keep (Exa.wr W12 A10) KK17) KK24)
  refine r_putfield (ty := .int) (v' := (.int (((31 : Int32) * (hsh 0 (cs.map (fun c => c.toInt8.toInt32)))) + (hsh 0 (ds.map (fun c => c.toInt8.toInt32)))))) d5_27 rfl (wd56 hw) Via.refl F28 A29 (Or.inr ⟨(wd57 hw), rfl, rfl⟩) (wd27 hw) (by decide) rfl rfl gx (Or.inl rfl) ?_
  intro h30 W31
  have szh30 := Wr.size W31
  have F32 : Fld Z h30 x "com/example/nx1/nx1/HolderKey" "hash" "I" (.int (((31 : Int32) * (hsh 0 (cs.map (fun c => c.toInt8.toInt32)))) + (hsh 0 (ds.map (fun c => c.toInt8.toInt32))))) := Fld.same W31 F28
  have A33 : Exa Z h30 x "com/example/nx1/nx1/HolderKey" := (Exa.wr W31 A29)
  have F34 : Fld Z h30 x "com/example/nx1/nx1/HolderKey" "name" "Ljava/lang/String;" (.ref a) := (Fld.other W31 (Fld.keep (Fld.keep (Fld.other W12 F8 (Or.inr (slot_ne (Or.inr (wd34 hw)) (Or.inr (wd36 hw)) (by decide) (t := (.object "java/lang/String")) (t' := (.object "java/lang/String")) (by decide) (by decide)))) KK17 (ninS (Ne.symm nax) nin0)) KK24 (ninS (Ne.symm nbx) nin0)) (Or.inr (slot_ne (Or.inr (wd34 hw)) (Or.inr (wd57 hw)) (by decide) (t := (.object "java/lang/String")) (t' := .int) (by decide) (by decide))))
  have F35 : Fld Z h30 x "com/example/nx1/nx1/HolderKey" "holder" "Ljava/lang/String;" (.ref b) := (Fld.other W31 (Fld.keep (Fld.keep F13 KK17 (ninS (Ne.symm nax) nin0)) KK24 (ninS (Ne.symm nbx) nin0)) (Or.inr (slot_ne (Or.inr (wd36 hw)) (Or.inr (wd57 hw)) (by decide) (t := (.object "java/lang/String")) (t' := .int) (by decide) (by decide))))
  have G36 : Str Z h30 a t cs := (Str.other W31 (Str.keep SS18 KK24 (ninS nab nin0) (ninS ntb nin0)) nax ntx)
  have G37 : Str Z h30 b u ds := (Str.other W31 SS25 nbx nux)
  exact r_return d5_30 rfl ⟨rfl, (Keep.wr (Keep.trans (Keep.trans (Keep.wr (Keep.wr (Keep.refl _ _) W7 (Or.inl (by simp))) W12 (Or.inl (by simp))) KK17 (allS (Or.inl (by simp)) all0)) KK24 (allS (Or.inl (by simp)) all0)) W31 (Or.inl (by simp))), A33, F34, F35, F32, G36, G37⟩ (by simp) (by decide) (by decide)
set_option maxRecDepth 65536 in
set_option maxHeartbeats 40000000 in
theorem ok_ke {l : Launch} {Z : State} {a0 : Array Value} (hw : ∀ d ∈ tables_1, d.before a0 Z = true) {n0 : Nat} (x y : Addr) {a b c d ta tb tc td : Addr} {c1 c2 c3 c4 : List Int32} (La : Lat c1) (Lb : Lat c2) (Lc : Lat c3) (Ld : Lat c4) (l1 : c1.length ≤ 3) (l2 : c2.length ≤ 3) (l3 : c3.length ≤ 3) (l4 : c4.length ≤ 3) {zC : Int32} {h0 : Heap} (SC : Sta Z Z.heap "java/lang/String" "COMPACT_STRINGS" "Z" (.int zC)) (nC : ¬ zC = 0) (E : Exa Z h0 x "com/example/nx1/nx1/HolderKey") (FN : Fld Z h0 x "com/example/nx1/nx1/HolderKey" "name" "Ljava/lang/String;" (.ref a)) (FO : Fld Z h0 x "com/example/nx1/nx1/HolderKey" "holder" "Ljava/lang/String;" (.ref b)) (FHs : Fld Z h0 x "com/example/nx1/nx1/HolderKey" "hash" "I" (.int (hk c1 c2))) (E2 : Exa Z h0 y "com/example/nx1/nx1/HolderKey") (GN : Fld Z h0 y "com/example/nx1/nx1/HolderKey" "name" "Ljava/lang/String;" (.ref c)) (GO : Fld Z h0 y "com/example/nx1/nx1/HolderKey" "holder" "Ljava/lang/String;" (.ref d)) (GHs : Fld Z h0 y "com/example/nx1/nx1/HolderKey" "hash" "I" (.int (hk c3 c4))) (Sa : Str Z h0 a ta c1) (Sb : Str Z h0 b tb c2) (Sc : Str Z h0 c tc c3) (Sd : Str Z h0 d td c4) :
    Ok false l Z [] n0 [] (⟨"com/example/nx1/nx1/HolderKey", "equals", "(Ljava/lang/Object;)Z"⟩ : MethodName) prog_4_method_3_code 3 (Option.some Jvm.ClassFile.FieldType.boolean) ({ frames := 2, cells := 0, slots := 0, locals := 28 } : Room) #[(.ref x), (.ref y)] h0 (fun v h => v = some (.int (if c1 = c3 ∧ c2 = c4 then 1 else 0)) ∧ h = h0) (fun _ => []) := by
  refine Ok.of_run (ls0 := #[.val (.ref x), .val (.ref y), .unset]) (plainFor_of_name (by first | (simp [plainName, overriddenIn]; done) | decide +kernel)) (fun m => by first | (simp [entryFrame, mkF, argsToLocals, Value.category]; done) | rfl) rfl ?_
  refine Run.old fun hO => ?_
  have hn0 : n0 ≤ h0.size := hO.1 ▸ hO.2.1
  have lt1 : @LT.lt Nat instLTNat a (Array.size h0) := (Str.lt Sa)
  have lt2 : @LT.lt Nat instLTNat ta (Array.size h0) := (Str.ltB Sa)
  have lt3 : @LT.lt Nat instLTNat b (Array.size h0) := (Str.lt Sb)
  have lt4 : @LT.lt Nat instLTNat tb (Array.size h0) := (Str.ltB Sb)
  have lt5 : @LT.lt Nat instLTNat c (Array.size h0) := (Str.lt Sc)
  have lt6 : @LT.lt Nat instLTNat tc (Array.size h0) := (Str.ltB Sc)
  have lt7 : @LT.lt Nat instLTNat d (Array.size h0) := (Str.lt Sd)
  have lt8 : @LT.lt Nat instLTNat td (Array.size h0) := (Str.ltB Sd)
  refine r_aloadN d11_0 rfl rfl rfl ?_
  refine r_instY d11_1 rfl (wd72 hw) (Ins.self E2) ?_
  refine r_ifeq (pc2 := 55) d11_4 rfl rfl (fun cc => absurd cc (by decide)) (fun _ => ?_)
  refine r_aloadN d11_7 rfl rfl rfl ?_
  refine r_castY d11_8 rfl (wd72 hw) (Ins.self E2) ?_
  refine r_astoreN (l' := #[.val (.ref x), .val (.ref y), .val (.ref y)]) d11_11 rfl rfl rfl rfl ?_
  refine r_aloadN d11_12 rfl rfl rfl ?_
  refine r_getfield (host := "") d11_13 rfl (Or.inl (wd56 hw)) Via.refl FHs ?_
  refine r_aloadN d11_16 rfl rfl rfl ?_
  refine r_getfield (host := "") d11_17 rfl (Or.inl (wd56 hw)) Via.refl GHs ?_
  refine r_icmpne (pc2 := 55) d11_20 rfl rfl (fun c9 => ?_) (fun c9 => ?_)
  · refine r_iconst (v := 0) d11_55 rfl rfl ?_
    exact r_ireturnN (t := .boolean) d11_56 rfl (by simp) ⟨by rw [if_neg (fun q => c9 (by rw [q.1, q.2]))]; rfl, rfl⟩ (by simp) (by decide) (by decide)
  · refine r_aloadN d11_23 rfl rfl rfl ?_
    refine r_getfield (host := "") d11_24 rfl (Or.inl (wd35 hw)) Via.refl FO ?_
    refine r_aloadN d11_27 rfl rfl rfl ?_
    refine r_getfield (host := "") d11_28 rfl (Or.inl (wd35 hw)) Via.refl GO ?_
    refine r_virtual (y := (⟨"java/lang/String", "equals", "(Ljava/lang/Object;)Z"⟩ : MethodName)) (argsL := [(.ref d)]) (rest := []) (W := 0) (kc := 0) (ks := 0) (wl := []) d11_31 rfl (wd74 hw) (wd59 hw) (wd61 hw) (wd60 hw) (by decide) ⟨rfl, rfl⟩ (Str.exa Sb) (lenOf pd_7 rfl) rfl rfl (Nat.le_of_ble_eq_true rfl) (pays_eq hw Sb Sd Lb Ld (by omega) (by omega) SC nC (by decide) (by decide)) (fun v h' q => q.2 ▸ Keep.refl _ _) all0 (by decide) (by decide) ?_
    rintro _ h10 ⟨rfl, eqh⟩
    subst h10
    refine Run.cast (st' := [(.int (if c2 = c4 then 1 else 0))]) rfl ?_
    refine r_ifeq (pc2 := 55) d11_34 rfl rfl (fun c11 => ?_) (fun c11 => ?_)
    · refine r_iconst (v := 0) d11_55 rfl rfl ?_
      exact r_ireturnN (t := .boolean) d11_56 rfl (by simp) ⟨by rw [if_neg (fun q => by rw [if_pos q.2] at c11; exact absurd c11 (by decide))]; rfl, rfl⟩ (by simp) (by decide) (by decide)
    · refine r_aloadN d11_37 rfl rfl rfl ?_
      refine r_getfield (host := "") d11_38 rfl (Or.inl (wd33 hw)) Via.refl FN ?_
      refine r_aloadN d11_41 rfl rfl rfl ?_
      refine r_getfield (host := "") d11_42 rfl (Or.inl (wd33 hw)) Via.refl GN ?_
      refine r_virtual (y := (⟨"java/lang/String", "equals", "(Ljava/lang/Object;)Z"⟩ : MethodName)) (argsL := [(.ref c)]) (rest := []) (W := 0) (kc := 0) (ks := 0) (wl := []) d11_45 rfl (wd74 hw) (wd59 hw) (wd61 hw) (wd60 hw) (by decide) ⟨rfl, rfl⟩ (Str.exa Sa) (lenOf pd_7 rfl) rfl rfl (Nat.le_of_ble_eq_true rfl) (pays_eq hw Sa Sc La Lc (by omega) (by omega) SC nC (by decide) (by decide)) (fun v h' q => q.2 ▸ Keep.refl _ _) all0 (by decide) (by decide) ?_
      rintro _ h12 ⟨rfl, eqh⟩
      subst h12
      refine Run.cast (st' := [(.int (if c1 = c3 then 1 else 0))]) rfl ?_
      refine r_ifeq (pc2 := 55) d11_48 rfl rfl (fun c13 => ?_) (fun c13 => ?_)
      · refine r_iconst (v := 0) d11_55 rfl rfl ?_
        exact r_ireturnN (t := .boolean) d11_56 rfl (by simp) ⟨by rw [if_neg (fun q => by rw [if_pos q.1] at c13; exact absurd c13 (by decide))]; rfl, rfl⟩ (by simp) (by decide) (by decide)
      · refine r_iconst (v := 1) d11_51 rfl rfl ?_
        refine r_goto (pc' := 56) d11_52 rfl ?_
        exact r_ireturnN (t := .boolean) d11_56 rfl (by simp) ⟨by rw [if_pos ⟨Classical.byContradiction fun z => c13 (by rw [if_neg z]), Classical.byContradiction fun z => c11 (by rw [if_neg z])⟩]; rfl, rfl⟩ (by simp) (by decide) (by decide)
set_option maxRecDepth 65536 in
set_option maxHeartbeats 40000000 in
theorem ok_ken {l : Launch} {Z : State} {a0 : Array Value} (hw : ∀ d ∈ tables_1, d.before a0 Z = true) {n0 : Nat} (x : Addr) {h0 : Heap} :
    Ok false l Z [] n0 [] (⟨"com/example/nx1/nx1/HolderKey", "equals", "(Ljava/lang/Object;)Z"⟩ : MethodName) prog_4_method_3_code 3 (Option.some Jvm.ClassFile.FieldType.boolean) ({ frames := 0, cells := 0, slots := 0, locals := 0 } : Room) #[(.ref x), .null] h0 (fun v h => v = some (.int 0) ∧ h = h0) (fun _ => []) := by
  refine Ok.of_run (ls0 := #[.val (.ref x), .val .null, .unset]) (plainFor_of_name (by first | (simp [plainName, overriddenIn]; done) | decide +kernel)) (fun m => by first | (simp [entryFrame, mkF, argsToLocals, Value.category]; done) | rfl) rfl ?_
  refine Run.old fun hO => ?_
  have hn0 : n0 ≤ h0.size := hO.1 ▸ hO.2.1
  refine r_aloadN d11_0 rfl rfl rfl ?_
  refine r_instNull d11_1 rfl ?_
  refine r_ifeq (pc2 := 55) d11_4 rfl rfl (fun _ => ?_) (fun cc => absurd rfl cc)
  refine r_iconst (v := 0) d11_55 rfl rfl ?_
  exact r_ireturnN (t := .boolean) d11_56 rfl (by simp) ⟨rfl, rfl⟩ (by simp) (by decide) (by decide)
set_option maxRecDepth 65536 in
set_option maxHeartbeats 40000000 in
theorem ok_kes {l : Launch} {Z : State} {a0 : Array Value} (hw : ∀ d ∈ tables_1, d.before a0 Z = true) {n0 : Nat} (x y : Addr) {h0 : Heap} (E : Exa Z h0 y "java/lang/String") :
    Ok false l Z [] n0 [] (⟨"com/example/nx1/nx1/HolderKey", "equals", "(Ljava/lang/Object;)Z"⟩ : MethodName) prog_4_method_3_code 3 (Option.some Jvm.ClassFile.FieldType.boolean) ({ frames := 0, cells := 0, slots := 0, locals := 0 } : Room) #[(.ref x), (.ref y)] h0 (fun v h => v = some (.int 0) ∧ h = h0) (fun _ => []) := by
  refine Ok.of_run (ls0 := #[.val (.ref x), .val (.ref y), .unset]) (plainFor_of_name (by first | (simp [plainName, overriddenIn]; done) | decide +kernel)) (fun m => by first | (simp [entryFrame, mkF, argsToLocals, Value.category]; done) | rfl) rfl ?_
  refine Run.old fun hO => ?_
  have hn0 : n0 ≤ h0.size := hO.1 ▸ hO.2.1
  refine r_aloadN d11_0 rfl rfl rfl ?_
  refine r_instNo d11_1 rfl (wd72 hw) E (ns_no (wd94 hw) (wd27 hw) (NS.step (wd94 hw) (ns_root (wd95 hw) (wd27 hw) (by decide)) (by decide)) (by decide)) ?_
  refine r_ifeq (pc2 := 55) d11_4 rfl rfl (fun _ => ?_) (fun cc => absurd rfl cc)
  refine r_iconst (v := 0) d11_55 rfl rfl ?_
  exact r_ireturnN (t := .boolean) d11_56 rfl (by simp) ⟨rfl, rfl⟩ (by simp) (by decide) (by decide)
set_option maxRecDepth 65536 in
set_option maxHeartbeats 40000000 in
theorem ok_law {l : Launch} {Z : State} {a0 : Array Value} (hw : ∀ d ∈ tables_1, d.before a0 Z = true) {n0 : Nat} (p1 p2 p3 p4 p5 : Int32) {zC : Int32} {h0 : Heap} (SC : Sta Z Z.heap "java/lang/String" "COMPACT_STRINGS" "Z" (.int zC)) (nC : ¬ zC = 0) :
    Ok true l Z consts_1 n0 [] (⟨"com/example/nx1/nx1/HolderKeyEqualsPinLaw", "law", "(IIIII)Z"⟩ : MethodName) code maxLocals ret room_1 #[(.int p1), (.int p2), (.int p3), (.int p4), (.int p5)] h0 (fun v h => v = some (.int 1)) (fun _ => []) := by
  refine Ok.of_run (ls0 := #[.val (.int p1), .val (.int p2), .val (.int p3), .val (.int p4), .val (.int p5), .unset, .unset, .unset, .unset, .unset, .unset, .unset, .unset]) (plainFor_of_name (by first | (simp [plainName, overriddenIn]; done) | decide +kernel)) (fun m => by first | (simp [entryFrame, mkF, argsToLocals, Value.category, maxLocals]; done) | rfl) rfl ?_
  refine Run.old fun hO => ?_
  have hn0 : n0 ≤ h0.size := hO.1 ▸ hO.2.1
  refine r_iloadN at_0 rfl rfl ?_
  refine r_staticW (y := (⟨"com/example/nx1/nx1/HolderKeyEqualsPinLaw", "mk", "(I)Ljava/lang/String;"⟩ : MethodName)) (argsL := [(.int p1)]) (rest := []) (W := 0) (kc := 6) (ks := 12) (wl := []) rfl at_1 rfl (wd0 hw) (wd1 hw) (wd2 hw) (wd3 hw) (by decide) (lenOf pd_8 rfl) rfl rfl (Nat.le_of_ble_eq_true rfl) (Ok.paysW (ok_mk hw p1 SC nC) (wd3 hw) (wd2 hw) (by decide) (by decide)) (by simp) (fun v h' q => by obtain ⟨_, _, _, K, _⟩ := q; exact K) all0 (by decide) (by decide) ?_
  rintro _ h8 ⟨a1, t2, rfl, KK3, hge7, SS4, FH5, FZ6⟩
  refine Run.forget (My' := [a1]) (by simp [refs]) ?_
  refine Run.cast (st' := [(.ref a1)]) rfl ?_
  have szh8 := KK3.1
  have lt9 : @LT.lt Nat instLTNat a1 (Array.size h8) := (Str.lt SS4)
  have lt10 : @LT.lt Nat instLTNat t2 (Array.size h8) := (Str.ltB SS4)
  have gga1 : n0 ≤ a1 := by omega
  refine r_astore (l' := #[.val (.int p1), .val (.int p2), .val (.int p3), .val (.int p4), .val (.int p5), .val (.ref a1), .unset, .unset, .unset, .unset, .unset, .unset, .unset]) at_4 rfl rfl rfl rfl ?_
  refine r_iloadN at_6 rfl rfl ?_
  refine r_staticW (y := (⟨"com/example/nx1/nx1/HolderKeyEqualsPinLaw", "mk", "(I)Ljava/lang/String;"⟩ : MethodName)) (argsL := [(.int p2)]) (rest := []) (W := 0) (kc := 6) (ks := 12) (wl := []) rfl at_7 rfl (wd0 hw) (wd1 hw) (wd2 hw) (wd3 hw) (by decide) (lenOf pd_8 rfl) rfl rfl (Nat.le_of_ble_eq_true rfl) (Ok.paysW (ok_mk hw p2 SC nC) (wd3 hw) (wd2 hw) (by decide) (by decide)) (by simp) (fun v h' q => by obtain ⟨_, _, _, K, _⟩ := q; exact K) all0 (by decide) (by decide) ?_
  rintro _ h18 ⟨a11, t12, rfl, KK13, hge17, SS14, FH15, FZ16⟩
  refine Run.forget (My' := [a11, a1]) (by simp [refs]) ?_
  refine Run.cast (st' := [(.ref a11)]) rfl ?_
  have szh18 := KK13.1
  have lt19 : @LT.lt Nat instLTNat a11 (Array.size h18) := (Str.lt SS14)
  have lt20 : @LT.lt Nat instLTNat t12 (Array.size h18) := (Str.ltB SS14)
  have gga11 : n0 ≤ a11 := by omega
  refine r_astore (l' := #[.val (.int p1), .val (.int p2), .val (.int p3), .val (.int p4), .val (.int p5), .val (.ref a1), .val (.ref a11), .unset, .unset, .unset, .unset, .unset, .unset]) at_10 rfl rfl rfl rfl ?_
  refine r_iload at_12 rfl rfl ?_
  refine r_iconst (v := 1) at_14 rfl rfl ?_
  refine r_iand at_15 rfl ?_
  refine r_ifeq (pc2 := 26) at_16 rfl rfl (fun c21 => ?_) (fun c21 => ?_)
  · refine r_iloadN at_26 rfl rfl ?_
    refine r_staticW (y := (⟨"com/example/nx1/nx1/HolderKeyEqualsPinLaw", "mk", "(I)Ljava/lang/String;"⟩ : MethodName)) (argsL := [(.int p3)]) (rest := []) (W := 0) (kc := 6) (ks := 12) (wl := []) rfl at_27 rfl (wd0 hw) (wd1 hw) (wd2 hw) (wd3 hw) (by decide) (lenOf pd_8 rfl) rfl rfl (Nat.le_of_ble_eq_true rfl) (Ok.paysW (ok_mk hw p3 SC nC) (wd3 hw) (wd2 hw) (by decide) (by decide)) (by simp) (fun v h' q => by obtain ⟨_, _, _, K, _⟩ := q; exact K) all0 (by decide) (by decide) ?_
    rintro _ h29 ⟨a22, t23, rfl, KK24, hge28, SS25, FH26, FZ27⟩
    refine Run.forget (My' := [a22, a11, a1]) (by simp [refs]) ?_
    refine Run.cast (st' := [(.ref a22)]) rfl ?_
    have szh29 := KK24.1
    have lt30 : @LT.lt Nat instLTNat a22 (Array.size h29) := (Str.lt SS25)
    have lt31 : @LT.lt Nat instLTNat t23 (Array.size h29) := (Str.ltB SS25)
    have gga22 : n0 ≤ a22 := by omega
    refine r_astore (l' := #[.val (.int p1), .val (.int p2), .val (.int p3), .val (.int p4), .val (.int p5), .val (.ref a1), .val (.ref a11), .val (.ref a22), .unset, .unset, .unset, .unset, .unset]) at_30 rfl rfl rfl rfl ?_
    refine r_iload at_32 rfl rfl ?_
    refine r_iconst (v := 2) at_34 rfl rfl ?_
    refine r_iand at_35 rfl ?_
    refine r_ifeq (pc2 := 46) at_36 rfl rfl (fun c32 => ?_) (fun c32 => ?_)
    · refine r_iloadN at_46 rfl rfl ?_
      refine r_staticW (y := (⟨"com/example/nx1/nx1/HolderKeyEqualsPinLaw", "mk", "(I)Ljava/lang/String;"⟩ : MethodName)) (argsL := [(.int p4)]) (rest := []) (W := 0) (kc := 6) (ks := 12) (wl := []) rfl at_47 rfl (wd0 hw) (wd1 hw) (wd2 hw) (wd3 hw) (by decide) (lenOf pd_8 rfl) rfl rfl (Nat.le_of_ble_eq_true rfl) (Ok.paysW (ok_mk hw p4 SC nC) (wd3 hw) (wd2 hw) (by decide) (by decide)) (by simp) (fun v h' q => by obtain ⟨_, _, _, K, _⟩ := q; exact K) all0 (by decide) (by decide) ?_
      rintro _ h40 ⟨a33, t34, rfl, KK35, hge39, SS36, FH37, FZ38⟩
      refine Run.forget (My' := [a33, a22, a11, a1]) (by simp [refs]) ?_
      refine Run.cast (st' := [(.ref a33)]) rfl ?_
      have szh40 := KK35.1
      have lt41 : @LT.lt Nat instLTNat a33 (Array.size h40) := (Str.lt SS36)
      have lt42 : @LT.lt Nat instLTNat t34 (Array.size h40) := (Str.ltB SS36)
      have gga33 : n0 ≤ a33 := by omega
      refine r_astore (l' := #[.val (.int p1), .val (.int p2), .val (.int p3), .val (.int p4), .val (.int p5), .val (.ref a1), .val (.ref a11), .val (.ref a22), .val (.ref a33), .unset, .unset, .unset, .unset]) at_50 rfl rfl rfl rfl ?_
      refine r_new at_52 rfl (wd26 hw) (wd27 hw) (wd28 hw) (by decide) (by decide) ?_
      intro h44 b43 gb43 ltb43 E45 A46 D47 U48
      have szh44 := E45.1
      have geb43 : n0 ≤ b43 := by omega
      have F49 : Fld Z h44 b43 "com/example/nx1/nx1/HolderKey" "name" "Ljava/lang/String;" .null := D47 (Or.inr (wd34 hw)) (ty := (.object "java/lang/String")) (by decide)
      have F50 : Fld Z h44 b43 "com/example/nx1/nx1/HolderKey" "holder" "Ljava/lang/String;" .null := D47 (Or.inr (wd36 hw)) (ty := (.object "java/lang/String")) (by decide)
      have F51 : Fld Z h44 b43 "com/example/nx1/nx1/HolderKey" "hash" "I" (.int (0 : Int32)) := D47 (Or.inr (wd57 hw)) (ty := .int) (by decide)
      refine r_dup at_55 rfl rfl ?_
      refine r_aload at_56 rfl rfl rfl ?_
      refine r_aload at_58 rfl rfl rfl ?_
      have G52 : Str Z h44 a1 t2 (mkcs p1) := (Str.ext E45 (Str.keep (Str.keep (Str.keep SS4 KK13 nin0 nin0) KK24 nin0 nin0) KK35 nin0 nin0))
      have G53 : Str Z h44 a11 t12 (mkcs p2) := (Str.ext E45 (Str.keep (Str.keep SS14 KK24 nin0 nin0) KK35 nin0 nin0))
      have F54 : Fld Z h44 a1 "java/lang/String" "hash" "I" (.int (0 : Int32)) := (Fld.ext E45 (Fld.keep (Fld.keep (Fld.keep FH5 KK13 nin0) KK24 nin0) KK35 nin0))
      have F55 : Fld Z h44 a1 "java/lang/String" "hashIsZero" "Z" (.int (0 : Int32)) := (Fld.ext E45 (Fld.keep (Fld.keep (Fld.keep FZ6 KK13 nin0) KK24 nin0) KK35 nin0))
      have F56 : Fld Z h44 a11 "java/lang/String" "hash" "I" (.int (0 : Int32)) := (Fld.ext E45 (Fld.keep (Fld.keep FH15 KK24 nin0) KK35 nin0))
      have F57 : Fld Z h44 a11 "java/lang/String" "hashIsZero" "Z" (.int (0 : Int32)) := (Fld.ext E45 (Fld.keep (Fld.keep FZ16 KK24 nin0) KK35 nin0))
      have ne65 : @Ne Nat a1 a11 := by omega
      have A67 : Exa Z h44 a11 "java/lang/String" := (Exa.ext E45 (Exa.keep (Exa.keep (Str.exa SS14) KK24) KK35))
      have A68 : Exa Z h44 a1 "java/lang/String" := (Exa.ext E45 (Exa.keep (Exa.keep (Exa.keep (Str.exa SS4) KK13) KK24) KK35))
      refine r_special (y := (⟨"com/example/nx1/nx1/HolderKey", "<init>", "(Ljava/lang/String;Ljava/lang/String;)V"⟩ : MethodName)) (argsL := [(.ref a1), (.ref a11)]) (rest := [(.ref b43)]) (W := 1) (kc := 0) (ks := 0) (wl := [b43, a1, a11]) at_60 rfl rfl (wd29 hw) (wd30 hw) (wd31 hw) (by decide) (lenOf pd_9 rfl) rfl rfl (Nat.le_of_ble_eq_true rfl) (Ok.pays (ok_ki hw b43 a1 a11 t2 t12 (len_mk _) (len_mk _) SC nC geb43 gga1 gga11 ne65 A46 F49 F50 F51 G52 G53 F54 F55 F56 F57) (wd31 hw) (wd28 hw) (by decide) (by decide)) (fun v h' q => q.2.1) (allS ⟨geb43, (Sf.exa A46 (by decide) (by decide))⟩ (allS ⟨gga1, (Sf.my (by simp))⟩ (allS ⟨gga11, (Sf.my (by simp))⟩ all0))) (by decide) (by decide) ?_
      rintro _ h66 ⟨rfl, KK58, EE59, FN60, FO61, FK62, SS63, SS64⟩
      refine Run.cast (st' := [(.ref b43)]) rfl ?_
      have szh66 := KK58.1
      refine r_astore (l' := #[.val (.int p1), .val (.int p2), .val (.int p3), .val (.int p4), .val (.int p5), .val (.ref a1), .val (.ref a11), .val (.ref a22), .val (.ref a33), .val (.ref b43), .unset, .unset, .unset]) at_63 rfl rfl rfl rfl ?_
      refine r_new at_65 rfl (wd26 hw) (wd27 hw) (wd28 hw) (by decide) (by decide) ?_
      intro h70 b69 gb69 ltb69 E71 A72 D73 U74
      have szh70 := E71.1
      have geb69 : n0 ≤ b69 := by omega
      have F75 : Fld Z h70 b69 "com/example/nx1/nx1/HolderKey" "name" "Ljava/lang/String;" .null := D73 (Or.inr (wd34 hw)) (ty := (.object "java/lang/String")) (by decide)
      have F76 : Fld Z h70 b69 "com/example/nx1/nx1/HolderKey" "holder" "Ljava/lang/String;" .null := D73 (Or.inr (wd36 hw)) (ty := (.object "java/lang/String")) (by decide)
      have F77 : Fld Z h70 b69 "com/example/nx1/nx1/HolderKey" "hash" "I" (.int (0 : Int32)) := D73 (Or.inr (wd57 hw)) (ty := .int) (by decide)
      refine r_dup at_68 rfl rfl ?_
      refine r_aload at_69 rfl rfl rfl ?_
      refine r_aload at_71 rfl rfl rfl ?_
      have ne78 : t23 ≠ b43 := Str.neB (Str.ext E45 (Str.keep SS25 KK35 nin0 nin0)) A46 (wd27 hw)
      have ne79 : t23 ≠ a1 := Str.neB (Str.ext E45 (Str.keep SS25 KK35 nin0 nin0)) (Exa.ext E45 (Exa.keep (Exa.keep (Exa.keep (Str.exa SS4) KK13) KK24) KK35)) (wd5 hw)
      have ne80 : t23 ≠ a11 := Str.neB (Str.ext E45 (Str.keep SS25 KK35 nin0 nin0)) (Exa.ext E45 (Exa.keep (Exa.keep (Str.exa SS14) KK24) KK35)) (wd5 hw)
      have ne81 : @Ne Nat a22 a11 := by omega
      have ne82 : @Ne Nat a22 a1 := by omega
      have ne83 : @Ne Nat a22 b43 := by omega
      have G84 : Str Z h70 a22 t23 (mkcs p3) := (Str.ext E71 (Str.keep (Str.ext E45 (Str.keep SS25 KK35 nin0 nin0)) KK58 (ninS ne83 (ninS ne82 (ninS ne81 nin0))) (ninS ne78 (ninS ne79 (ninS ne80 nin0)))))
      have ne85 : t34 ≠ b43 := Str.neB (Str.ext E45 SS36) A46 (wd27 hw)
      have ne86 : t34 ≠ a1 := Str.neB (Str.ext E45 SS36) (Exa.ext E45 (Exa.keep (Exa.keep (Exa.keep (Str.exa SS4) KK13) KK24) KK35)) (wd5 hw)
      have ne87 : t34 ≠ a11 := Str.neB (Str.ext E45 SS36) (Exa.ext E45 (Exa.keep (Exa.keep (Str.exa SS14) KK24) KK35)) (wd5 hw)
      have ne88 : @Ne Nat a33 a11 := by omega
      have ne89 : @Ne Nat a33 a1 := by omega
      have ne90 : @Ne Nat a33 b43 := by omega
      have G91 : Str Z h70 a33 t34 (mkcs p4) := (Str.ext E71 (Str.keep (Str.ext E45 SS36) KK58 (ninS ne90 (ninS ne89 (ninS ne88 nin0))) (ninS ne85 (ninS ne86 (ninS ne87 nin0)))))
      have F92 : Fld Z h70 a22 "java/lang/String" "hash" "I" (.int (0 : Int32)) := (Fld.ext E71 (Fld.keep (Fld.ext E45 (Fld.keep FH26 KK35 nin0)) KK58 (ninS ne83 (ninS ne82 (ninS ne81 nin0)))))
      have F93 : Fld Z h70 a22 "java/lang/String" "hashIsZero" "Z" (.int (0 : Int32)) := (Fld.ext E71 (Fld.keep (Fld.ext E45 (Fld.keep FZ27 KK35 nin0)) KK58 (ninS ne83 (ninS ne82 (ninS ne81 nin0)))))
      have F94 : Fld Z h70 a33 "java/lang/String" "hash" "I" (.int (0 : Int32)) := (Fld.ext E71 (Fld.keep (Fld.ext E45 FH37) KK58 (ninS ne90 (ninS ne89 (ninS ne88 nin0)))))
      have F95 : Fld Z h70 a33 "java/lang/String" "hashIsZero" "Z" (.int (0 : Int32)) := (Fld.ext E71 (Fld.keep (Fld.ext E45 FZ38) KK58 (ninS ne90 (ninS ne89 (ninS ne88 nin0)))))
      have ne103 : @Ne Nat a22 a33 := by omega
      have A105 : Exa Z h70 a33 "java/lang/String" := (Exa.ext E71 (Exa.keep (Exa.ext E45 (Str.exa SS36)) KK58))
      have A106 : Exa Z h70 a22 "java/lang/String" := (Exa.ext E71 (Exa.keep (Exa.ext E45 (Exa.keep (Str.exa SS25) KK35)) KK58))
      refine r_special (y := (⟨"com/example/nx1/nx1/HolderKey", "<init>", "(Ljava/lang/String;Ljava/lang/String;)V"⟩ : MethodName)) (argsL := [(.ref a22), (.ref a33)]) (rest := [(.ref b69)]) (W := 1) (kc := 0) (ks := 0) (wl := [b69, a22, a33]) at_73 rfl rfl (wd29 hw) (wd30 hw) (wd31 hw) (by decide) (lenOf pd_9 rfl) rfl rfl (Nat.le_of_ble_eq_true rfl) (Ok.pays (ok_ki hw b69 a22 a33 t23 t34 (len_mk _) (len_mk _) SC nC geb69 gga22 gga33 ne103 A72 F75 F76 F77 G84 G91 F92 F93 F94 F95) (wd31 hw) (wd28 hw) (by decide) (by decide)) (fun v h' q => q.2.1) (allS ⟨geb69, (Sf.exa A72 (by decide) (by decide))⟩ (allS ⟨gga22, (Sf.my (by simp))⟩ (allS ⟨gga33, (Sf.my (by simp))⟩ all0))) (by decide) (by decide) ?_
      rintro _ h104 ⟨rfl, KK96, EE97, FN98, FO99, FK100, SS101, SS102⟩
      refine Run.cast (st' := [(.ref b69)]) rfl ?_
      have szh104 := KK96.1
      refine r_astore (l' := #[.val (.int p1), .val (.int p2), .val (.int p3), .val (.int p4), .val (.int p5), .val (.ref a1), .val (.ref a11), .val (.ref a22), .val (.ref a33), .val (.ref b43), .val (.ref b69), .unset, .unset]) at_76 rfl rfl rfl rfl ?_
      refine r_iload at_78 rfl rfl ?_
      refine r_iconst (v := 2) at_80 rfl rfl ?_
      refine r_iushr at_81 rfl ?_
      refine r_iconst (v := 3) at_82 rfl rfl ?_
      refine r_iand at_83 rfl ?_
      refine r_istore (l' := #[.val (.int p1), .val (.int p2), .val (.int p3), .val (.int p4), .val (.int p5), .val (.ref a1), .val (.ref a11), .val (.ref a22), .val (.ref a33), .val (.ref b43), .val (.ref b69), .val (.int (((p5.toUInt32 >>> ((2 : Int32) &&& 31).toUInt32).toInt32) &&& (3 : Int32))), .unset]) at_84 rfl rfl rfl ?_
      refine r_iload at_86 rfl rfl ?_
      refine r_iconst (v := 2) at_88 rfl rfl ?_
      refine r_icmpne (pc2 := 107) at_89 rfl rfl (fun c107 => ?_) (fun c107 => ?_)
      · refine r_iload at_107 rfl rfl ?_
        refine r_iconst (v := 3) at_109 rfl rfl ?_
        refine r_icmpne (pc2 := 129) at_110 rfl rfl (fun c108 => ?_) (fun c108 => ?_)
        · refine r_aload at_129 rfl rfl rfl ?_
          refine r_aload at_131 rfl rfl rfl ?_
          have ne109 : t2 ≠ b69 := Str.neB (Str.ext E71 SS63) A72 (wd27 hw)
          have ne110 : t2 ≠ a22 := Str.neB (Str.ext E71 SS63) (Exa.ext E71 (Exa.keep (Exa.ext E45 (Exa.keep (Str.exa SS25) KK35)) KK58)) (wd5 hw)
          have ne111 : t2 ≠ a33 := Str.neB (Str.ext E71 SS63) (Exa.ext E71 (Exa.keep (Exa.ext E45 (Str.exa SS36)) KK58)) (wd5 hw)
          have ne112 : @Ne Nat a1 b69 := by omega
          have G113 : Str Z h104 a1 t2 (mkcs p1) := (Str.keep (Str.ext E71 SS63) KK96 (ninS ne112 (ninS (Ne.symm ne82) (ninS (Ne.symm ne89) nin0))) (ninS ne109 (ninS ne110 (ninS ne111 nin0))))
          have A115 : Exa Z h104 a1 "java/lang/String" := (Exa.keep (Exa.ext E71 (Str.exa SS63)) KK96)
          refine r_virtual (y := (⟨"java/lang/String", "equals", "(Ljava/lang/Object;)Z"⟩ : MethodName)) (argsL := [(.ref a22)]) (rest := []) (W := 0) (kc := 0) (ks := 0) (wl := []) at_133 rfl (wd58 hw) (wd59 hw) (wd61 hw) (wd60 hw) (by decide) ⟨rfl, rfl⟩ A115 (lenOf pd_7 rfl) rfl rfl (Nat.le_of_ble_eq_true rfl) (pays_eq hw G113 SS101 (lat_mk p1) (lat_mk p3) (Nat.le_trans (len_mk _) (by decide)) (Nat.le_trans (len_mk _) (by decide)) SC nC (by decide) (by decide)) (fun v h' q => q.2 ▸ Keep.refl _ _) all0 (by decide) (by decide) ?_
          rintro _ h114 ⟨rfl, eqh⟩
          subst h114
          refine Run.cast (st' := [(.int (if (mkcs p1) = (mkcs p3) then 1 else 0))]) rfl ?_
          refine r_ifeq (pc2 := 153) at_136 rfl rfl (fun c116 => ?_) (fun c116 => ?_)
          · refine r_iconst (v := 0) at_153 rfl rfl ?_
            refine r_istore (l' := #[.val (.int p1), .val (.int p2), .val (.int p3), .val (.int p4), .val (.int p5), .val (.ref a1), .val (.ref a11), .val (.ref a22), .val (.ref a33), .val (.ref b43), .val (.ref b69), .val (.int (((p5.toUInt32 >>> ((2 : Int32) &&& 31).toUInt32).toInt32) &&& (3 : Int32))), .val (.int (0 : Int32))]) at_154 rfl rfl rfl ?_
            refine r_aload at_156 rfl rfl rfl ?_
            refine r_aload at_158 rfl rfl rfl ?_
            have A117 : Exa Z h104 b43 "com/example/nx1/nx1/HolderKey" := (Exa.keep (Exa.ext E71 EE59) KK96)
            have ne118 : @Ne Nat b43 b69 := by omega
            have F119 : Fld Z h104 b43 "com/example/nx1/nx1/HolderKey" "name" "Ljava/lang/String;" (.ref a1) := (Fld.keep (Fld.ext E71 FN60) KK96 (ninS ne118 (ninS (Ne.symm ne83) (ninS (Ne.symm ne90) nin0))))
            have F120 : Fld Z h104 b43 "com/example/nx1/nx1/HolderKey" "holder" "Ljava/lang/String;" (.ref a11) := (Fld.keep (Fld.ext E71 FO61) KK96 (ninS ne118 (ninS (Ne.symm ne83) (ninS (Ne.symm ne90) nin0))))
            have F121 : Fld Z h104 b43 "com/example/nx1/nx1/HolderKey" "hash" "I" (.int (hk (mkcs p1) (mkcs p2))) := (Fld.keep (Fld.ext E71 FK62) KK96 (ninS ne118 (ninS (Ne.symm ne83) (ninS (Ne.symm ne90) nin0))))
            have ne122 : t12 ≠ b69 := Str.neB (Str.ext E71 SS64) A72 (wd27 hw)
            have ne123 : t12 ≠ a22 := Str.neB (Str.ext E71 SS64) (Exa.ext E71 (Exa.keep (Exa.ext E45 (Exa.keep (Str.exa SS25) KK35)) KK58)) (wd5 hw)
            have ne124 : t12 ≠ a33 := Str.neB (Str.ext E71 SS64) (Exa.ext E71 (Exa.keep (Exa.ext E45 (Str.exa SS36)) KK58)) (wd5 hw)
            have ne125 : @Ne Nat a11 b69 := by omega
            have G126 : Str Z h104 a11 t12 (mkcs p2) := (Str.keep (Str.ext E71 SS64) KK96 (ninS ne125 (ninS (Ne.symm ne81) (ninS (Ne.symm ne88) nin0))) (ninS ne122 (ninS ne123 (ninS ne124 nin0))))
            refine r_virtual (y := (⟨"com/example/nx1/nx1/HolderKey", "equals", "(Ljava/lang/Object;)Z"⟩ : MethodName)) (argsL := [(.ref b69)]) (rest := []) (W := 0) (kc := 0) (ks := 0) (wl := []) at_160 rfl (wd67 hw) (wd68 hw) (wd70 hw) (wd69 hw) (by decide) ⟨rfl, rfl⟩ A117 (lenOf pd_7 rfl) rfl rfl (Nat.le_of_ble_eq_true rfl) (Ok.pays (ok_ke hw b43 b69 (lat_mk p1) (lat_mk p2) (lat_mk p3) (lat_mk p4) (len_mk _) (len_mk _) (len_mk _) (len_mk _) SC nC A117 F119 F120 F121 EE97 FN98 FO99 FK100 G113 G126 SS101 SS102) (wd71 hw) (wd28 hw) (by decide) (by decide)) (fun v h' q => q.2 ▸ Keep.refl _ _) all0 (by decide) (by decide) ?_
            rintro _ h127 ⟨rfl, eqh⟩
            subst h127
            refine Run.cast (st' := [(.int (if (mkcs p1) = (mkcs p3) ∧ (mkcs p2) = (mkcs p4) then 1 else 0))]) rfl ?_
            refine r_iload at_163 rfl rfl ?_
            refine r_icmpne (pc2 := 172) at_165 rfl rfl (fun cc => absurd (if_neg (fun z => by rw [if_pos z.1] at c116; exact absurd c116 (by decide))) cc) (fun _ => ?_)
            refine r_iconst (v := 1) at_168 rfl rfl ?_
            refine r_goto (pc' := 173) at_169 rfl ?_
            exact r_ireturnN (t := .boolean) at_173 rfl (by simp) rfl (by simp) (by decide) (by decide)
          · refine r_aload at_139 rfl rfl rfl ?_
            refine r_aload at_141 rfl rfl rfl ?_
            have ne128 : t12 ≠ b69 := Str.neB (Str.ext E71 SS64) A72 (wd27 hw)
            have ne129 : t12 ≠ a22 := Str.neB (Str.ext E71 SS64) (Exa.ext E71 (Exa.keep (Exa.ext E45 (Exa.keep (Str.exa SS25) KK35)) KK58)) (wd5 hw)
            have ne130 : t12 ≠ a33 := Str.neB (Str.ext E71 SS64) (Exa.ext E71 (Exa.keep (Exa.ext E45 (Str.exa SS36)) KK58)) (wd5 hw)
            have ne131 : @Ne Nat a11 b69 := by omega
            have G132 : Str Z h104 a11 t12 (mkcs p2) := (Str.keep (Str.ext E71 SS64) KK96 (ninS ne131 (ninS (Ne.symm ne81) (ninS (Ne.symm ne88) nin0))) (ninS ne128 (ninS ne129 (ninS ne130 nin0))))
            have A134 : Exa Z h104 a11 "java/lang/String" := (Exa.keep (Exa.ext E71 (Str.exa SS64)) KK96)
            refine r_virtual (y := (⟨"java/lang/String", "equals", "(Ljava/lang/Object;)Z"⟩ : MethodName)) (argsL := [(.ref a33)]) (rest := []) (W := 0) (kc := 0) (ks := 0) (wl := []) at_143 rfl (wd58 hw) (wd59 hw) (wd61 hw) (wd60 hw) (by decide) ⟨rfl, rfl⟩ A134 (lenOf pd_7 rfl) rfl rfl (Nat.le_of_ble_eq_true rfl) (pays_eq hw G132 SS102 (lat_mk p2) (lat_mk p4) (Nat.le_trans (len_mk _) (by decide)) (Nat.le_trans (len_mk _) (by decide)) SC nC (by decide) (by decide)) (fun v h' q => q.2 ▸ Keep.refl _ _) all0 (by decide) (by decide) ?_
            rintro _ h133 ⟨rfl, eqh⟩
            subst h133
            refine Run.cast (st' := [(.int (if (mkcs p2) = (mkcs p4) then 1 else 0))]) rfl ?_
            refine r_ifeq (pc2 := 153) at_146 rfl rfl (fun c135 => ?_) (fun c135 => ?_)
            · refine r_iconst (v := 0) at_153 rfl rfl ?_
              refine r_istore (l' := #[.val (.int p1), .val (.int p2), .val (.int p3), .val (.int p4), .val (.int p5), .val (.ref a1), .val (.ref a11), .val (.ref a22), .val (.ref a33), .val (.ref b43), .val (.ref b69), .val (.int (((p5.toUInt32 >>> ((2 : Int32) &&& 31).toUInt32).toInt32) &&& (3 : Int32))), .val (.int (0 : Int32))]) at_154 rfl rfl rfl ?_
              refine r_aload at_156 rfl rfl rfl ?_
              refine r_aload at_158 rfl rfl rfl ?_
              have A136 : Exa Z h104 b43 "com/example/nx1/nx1/HolderKey" := (Exa.keep (Exa.ext E71 EE59) KK96)
              have ne137 : @Ne Nat b43 b69 := by omega
              have F138 : Fld Z h104 b43 "com/example/nx1/nx1/HolderKey" "name" "Ljava/lang/String;" (.ref a1) := (Fld.keep (Fld.ext E71 FN60) KK96 (ninS ne137 (ninS (Ne.symm ne83) (ninS (Ne.symm ne90) nin0))))
              have F139 : Fld Z h104 b43 "com/example/nx1/nx1/HolderKey" "holder" "Ljava/lang/String;" (.ref a11) := (Fld.keep (Fld.ext E71 FO61) KK96 (ninS ne137 (ninS (Ne.symm ne83) (ninS (Ne.symm ne90) nin0))))
              have F140 : Fld Z h104 b43 "com/example/nx1/nx1/HolderKey" "hash" "I" (.int (hk (mkcs p1) (mkcs p2))) := (Fld.keep (Fld.ext E71 FK62) KK96 (ninS ne137 (ninS (Ne.symm ne83) (ninS (Ne.symm ne90) nin0))))
              refine r_virtual (y := (⟨"com/example/nx1/nx1/HolderKey", "equals", "(Ljava/lang/Object;)Z"⟩ : MethodName)) (argsL := [(.ref b69)]) (rest := []) (W := 0) (kc := 0) (ks := 0) (wl := []) at_160 rfl (wd67 hw) (wd68 hw) (wd70 hw) (wd69 hw) (by decide) ⟨rfl, rfl⟩ A136 (lenOf pd_7 rfl) rfl rfl (Nat.le_of_ble_eq_true rfl) (Ok.pays (ok_ke hw b43 b69 (lat_mk p1) (lat_mk p2) (lat_mk p3) (lat_mk p4) (len_mk _) (len_mk _) (len_mk _) (len_mk _) SC nC A136 F138 F139 F140 EE97 FN98 FO99 FK100 G113 G132 SS101 SS102) (wd71 hw) (wd28 hw) (by decide) (by decide)) (fun v h' q => q.2 ▸ Keep.refl _ _) all0 (by decide) (by decide) ?_
              rintro _ h141 ⟨rfl, eqh⟩
              subst h141
              refine Run.cast (st' := [(.int (if (mkcs p1) = (mkcs p3) ∧ (mkcs p2) = (mkcs p4) then 1 else 0))]) rfl ?_
              refine r_iload at_163 rfl rfl ?_
              refine r_icmpne (pc2 := 172) at_165 rfl rfl (fun cc => absurd (if_neg (fun z => by rw [if_pos z.2] at c135; exact absurd c135 (by decide))) cc) (fun _ => ?_)
              refine r_iconst (v := 1) at_168 rfl rfl ?_
              refine r_goto (pc' := 173) at_169 rfl ?_
              exact r_ireturnN (t := .boolean) at_173 rfl (by simp) rfl (by simp) (by decide) (by decide)
            · refine r_iconst (v := 1) at_149 rfl rfl ?_
              refine r_goto (pc' := 154) at_150 rfl ?_
              refine r_istore (l' := #[.val (.int p1), .val (.int p2), .val (.int p3), .val (.int p4), .val (.int p5), .val (.ref a1), .val (.ref a11), .val (.ref a22), .val (.ref a33), .val (.ref b43), .val (.ref b69), .val (.int (((p5.toUInt32 >>> ((2 : Int32) &&& 31).toUInt32).toInt32) &&& (3 : Int32))), .val (.int (1 : Int32))]) at_154 rfl rfl rfl ?_
              refine r_aload at_156 rfl rfl rfl ?_
              refine r_aload at_158 rfl rfl rfl ?_
              have A142 : Exa Z h104 b43 "com/example/nx1/nx1/HolderKey" := (Exa.keep (Exa.ext E71 EE59) KK96)
              have ne143 : @Ne Nat b43 b69 := by omega
              have F144 : Fld Z h104 b43 "com/example/nx1/nx1/HolderKey" "name" "Ljava/lang/String;" (.ref a1) := (Fld.keep (Fld.ext E71 FN60) KK96 (ninS ne143 (ninS (Ne.symm ne83) (ninS (Ne.symm ne90) nin0))))
              have F145 : Fld Z h104 b43 "com/example/nx1/nx1/HolderKey" "holder" "Ljava/lang/String;" (.ref a11) := (Fld.keep (Fld.ext E71 FO61) KK96 (ninS ne143 (ninS (Ne.symm ne83) (ninS (Ne.symm ne90) nin0))))
              have F146 : Fld Z h104 b43 "com/example/nx1/nx1/HolderKey" "hash" "I" (.int (hk (mkcs p1) (mkcs p2))) := (Fld.keep (Fld.ext E71 FK62) KK96 (ninS ne143 (ninS (Ne.symm ne83) (ninS (Ne.symm ne90) nin0))))
              refine r_virtual (y := (⟨"com/example/nx1/nx1/HolderKey", "equals", "(Ljava/lang/Object;)Z"⟩ : MethodName)) (argsL := [(.ref b69)]) (rest := []) (W := 0) (kc := 0) (ks := 0) (wl := []) at_160 rfl (wd67 hw) (wd68 hw) (wd70 hw) (wd69 hw) (by decide) ⟨rfl, rfl⟩ A142 (lenOf pd_7 rfl) rfl rfl (Nat.le_of_ble_eq_true rfl) (Ok.pays (ok_ke hw b43 b69 (lat_mk p1) (lat_mk p2) (lat_mk p3) (lat_mk p4) (len_mk _) (len_mk _) (len_mk _) (len_mk _) SC nC A142 F144 F145 F146 EE97 FN98 FO99 FK100 G113 G132 SS101 SS102) (wd71 hw) (wd28 hw) (by decide) (by decide)) (fun v h' q => q.2 ▸ Keep.refl _ _) all0 (by decide) (by decide) ?_
              rintro _ h147 ⟨rfl, eqh⟩
              subst h147
              refine Run.cast (st' := [(.int (if (mkcs p1) = (mkcs p3) ∧ (mkcs p2) = (mkcs p4) then 1 else 0))]) rfl ?_
              refine r_iload at_163 rfl rfl ?_
              refine r_icmpne (pc2 := 172) at_165 rfl rfl (fun cc => absurd (if_pos ⟨Classical.byContradiction fun z => c116 (by rw [if_neg z]), Classical.byContradiction fun z => c135 (by rw [if_neg z])⟩) cc) (fun _ => ?_)
              refine r_iconst (v := 1) at_168 rfl rfl ?_
              refine r_goto (pc' := 173) at_169 rfl ?_
              exact r_ireturnN (t := .boolean) at_173 rfl (by simp) rfl (by simp) (by decide) (by decide)
        · refine r_aload at_113 rfl rfl rfl ?_
          refine r_aload at_115 rfl rfl rfl ?_
          have A148 : Exa Z h104 a1 "java/lang/String" := (Exa.keep (Exa.ext E71 (Str.exa SS63)) KK96)
          have A150 : Exa Z h104 b43 "com/example/nx1/nx1/HolderKey" := (Exa.keep (Exa.ext E71 EE59) KK96)
          refine r_virtual (y := (⟨"com/example/nx1/nx1/HolderKey", "equals", "(Ljava/lang/Object;)Z"⟩ : MethodName)) (argsL := [(.ref a1)]) (rest := []) (W := 0) (kc := 0) (ks := 0) (wl := []) at_117 rfl (wd67 hw) (wd68 hw) (wd70 hw) (wd69 hw) (by decide) ⟨rfl, rfl⟩ A150 (lenOf pd_7 rfl) rfl rfl (Nat.le_of_ble_eq_true rfl) (Ok.pays (ok_kes hw b43 a1 A148) (wd71 hw) (wd28 hw) (by decide) (by decide)) (fun v h' q => q.2 ▸ Keep.refl _ _) all0 (by decide) (by decide) ?_
          rintro _ h149 ⟨rfl, eqh⟩
          subst h149
          refine Run.cast (st' := [(.int (0 : Int32))]) rfl ?_
          refine r_ifne (pc2 := 127) at_120 rfl rfl (fun cc => absurd rfl cc) (fun _ => ?_)
          refine r_iconst (v := 1) at_123 rfl rfl ?_
          refine r_goto (pc' := 128) at_124 rfl ?_
          exact r_ireturnN (t := .boolean) at_128 rfl (by simp) rfl (by simp) (by decide) (by decide)
      · refine r_aload at_92 rfl rfl rfl ?_
        refine r_aconst at_94 rfl ?_
        have A152 : Exa Z h104 b43 "com/example/nx1/nx1/HolderKey" := (Exa.keep (Exa.ext E71 EE59) KK96)
        refine r_virtual (y := (⟨"com/example/nx1/nx1/HolderKey", "equals", "(Ljava/lang/Object;)Z"⟩ : MethodName)) (argsL := [.null]) (rest := []) (W := 0) (kc := 0) (ks := 0) (wl := []) at_95 rfl (wd67 hw) (wd68 hw) (wd70 hw) (wd69 hw) (by decide) ⟨rfl, rfl⟩ A152 (lenOf pd_7 rfl) rfl rfl (Nat.le_of_ble_eq_true rfl) (Ok.pays (ok_ken hw b43) (wd71 hw) (wd28 hw) (by decide) (by decide)) (fun v h' q => q.2 ▸ Keep.refl _ _) all0 (by decide) (by decide) ?_
        rintro _ h151 ⟨rfl, eqh⟩
        subst h151
        refine Run.cast (st' := [(.int (0 : Int32))]) rfl ?_
        refine r_ifne (pc2 := 105) at_98 rfl rfl (fun cc => absurd rfl cc) (fun _ => ?_)
        refine r_iconst (v := 1) at_101 rfl rfl ?_
        refine r_goto (pc' := 106) at_102 rfl ?_
        exact r_ireturnN (t := .boolean) at_106 rfl (by simp) rfl (by simp) (by decide) (by decide)
    · refine r_iloadN at_39 rfl rfl ?_
      refine r_staticW (y := (⟨"com/example/nx1/nx1/HolderKeyEqualsPinLaw", "mk", "(I)Ljava/lang/String;"⟩ : MethodName)) (argsL := [(.int p2)]) (rest := []) (W := 0) (kc := 6) (ks := 12) (wl := []) rfl at_40 rfl (wd0 hw) (wd1 hw) (wd2 hw) (wd3 hw) (by decide) (lenOf pd_8 rfl) rfl rfl (Nat.le_of_ble_eq_true rfl) (Ok.paysW (ok_mk hw p2 SC nC) (wd3 hw) (wd2 hw) (by decide) (by decide)) (by simp) (fun v h' q => by obtain ⟨_, _, _, K, _⟩ := q; exact K) all0 (by decide) (by decide) ?_
      rintro _ h160 ⟨a153, t154, rfl, KK155, hge159, SS156, FH157, FZ158⟩
      refine Run.forget (My' := [a153, a22, a11, a1]) (by simp [refs]) ?_
      refine Run.cast (st' := [(.ref a153)]) rfl ?_
      have szh160 := KK155.1
      have lt161 : @LT.lt Nat instLTNat a153 (Array.size h160) := (Str.lt SS156)
      have lt162 : @LT.lt Nat instLTNat t154 (Array.size h160) := (Str.ltB SS156)
      have gga153 : n0 ≤ a153 := by omega
      refine r_goto (pc' := 50) at_43 rfl ?_
      refine r_astore (l' := #[.val (.int p1), .val (.int p2), .val (.int p3), .val (.int p4), .val (.int p5), .val (.ref a1), .val (.ref a11), .val (.ref a22), .val (.ref a153), .unset, .unset, .unset, .unset]) at_50 rfl rfl rfl rfl ?_
      refine r_new at_52 rfl (wd26 hw) (wd27 hw) (wd28 hw) (by decide) (by decide) ?_
      intro h164 b163 gb163 ltb163 E165 A166 D167 U168
      have szh164 := E165.1
      have geb163 : n0 ≤ b163 := by omega
      have F169 : Fld Z h164 b163 "com/example/nx1/nx1/HolderKey" "name" "Ljava/lang/String;" .null := D167 (Or.inr (wd34 hw)) (ty := (.object "java/lang/String")) (by decide)
      have F170 : Fld Z h164 b163 "com/example/nx1/nx1/HolderKey" "holder" "Ljava/lang/String;" .null := D167 (Or.inr (wd36 hw)) (ty := (.object "java/lang/String")) (by decide)
      have F171 : Fld Z h164 b163 "com/example/nx1/nx1/HolderKey" "hash" "I" (.int (0 : Int32)) := D167 (Or.inr (wd57 hw)) (ty := .int) (by decide)
      refine r_dup at_55 rfl rfl ?_
      refine r_aload at_56 rfl rfl rfl ?_
      refine r_aload at_58 rfl rfl rfl ?_
      have G172 : Str Z h164 a1 t2 (mkcs p1) := (Str.ext E165 (Str.keep (Str.keep (Str.keep SS4 KK13 nin0 nin0) KK24 nin0 nin0) KK155 nin0 nin0))
      have G173 : Str Z h164 a11 t12 (mkcs p2) := (Str.ext E165 (Str.keep (Str.keep SS14 KK24 nin0 nin0) KK155 nin0 nin0))
      have F174 : Fld Z h164 a1 "java/lang/String" "hash" "I" (.int (0 : Int32)) := (Fld.ext E165 (Fld.keep (Fld.keep (Fld.keep FH5 KK13 nin0) KK24 nin0) KK155 nin0))
      have F175 : Fld Z h164 a1 "java/lang/String" "hashIsZero" "Z" (.int (0 : Int32)) := (Fld.ext E165 (Fld.keep (Fld.keep (Fld.keep FZ6 KK13 nin0) KK24 nin0) KK155 nin0))
      have F176 : Fld Z h164 a11 "java/lang/String" "hash" "I" (.int (0 : Int32)) := (Fld.ext E165 (Fld.keep (Fld.keep FH15 KK24 nin0) KK155 nin0))
      have F177 : Fld Z h164 a11 "java/lang/String" "hashIsZero" "Z" (.int (0 : Int32)) := (Fld.ext E165 (Fld.keep (Fld.keep FZ16 KK24 nin0) KK155 nin0))
      have ne185 : @Ne Nat a1 a11 := by omega
      have A187 : Exa Z h164 a11 "java/lang/String" := (Exa.ext E165 (Exa.keep (Exa.keep (Str.exa SS14) KK24) KK155))
      have A188 : Exa Z h164 a1 "java/lang/String" := (Exa.ext E165 (Exa.keep (Exa.keep (Exa.keep (Str.exa SS4) KK13) KK24) KK155))
      refine r_special (y := (⟨"com/example/nx1/nx1/HolderKey", "<init>", "(Ljava/lang/String;Ljava/lang/String;)V"⟩ : MethodName)) (argsL := [(.ref a1), (.ref a11)]) (rest := [(.ref b163)]) (W := 1) (kc := 0) (ks := 0) (wl := [b163, a1, a11]) at_60 rfl rfl (wd29 hw) (wd30 hw) (wd31 hw) (by decide) (lenOf pd_9 rfl) rfl rfl (Nat.le_of_ble_eq_true rfl) (Ok.pays (ok_ki hw b163 a1 a11 t2 t12 (len_mk _) (len_mk _) SC nC geb163 gga1 gga11 ne185 A166 F169 F170 F171 G172 G173 F174 F175 F176 F177) (wd31 hw) (wd28 hw) (by decide) (by decide)) (fun v h' q => q.2.1) (allS ⟨geb163, (Sf.exa A166 (by decide) (by decide))⟩ (allS ⟨gga1, (Sf.my (by simp))⟩ (allS ⟨gga11, (Sf.my (by simp))⟩ all0))) (by decide) (by decide) ?_
      rintro _ h186 ⟨rfl, KK178, EE179, FN180, FO181, FK182, SS183, SS184⟩
      refine Run.cast (st' := [(.ref b163)]) rfl ?_
      have szh186 := KK178.1
      refine r_astore (l' := #[.val (.int p1), .val (.int p2), .val (.int p3), .val (.int p4), .val (.int p5), .val (.ref a1), .val (.ref a11), .val (.ref a22), .val (.ref a153), .val (.ref b163), .unset, .unset, .unset]) at_63 rfl rfl rfl rfl ?_
      refine r_new at_65 rfl (wd26 hw) (wd27 hw) (wd28 hw) (by decide) (by decide) ?_
      intro h190 b189 gb189 ltb189 E191 A192 D193 U194
      have szh190 := E191.1
      have geb189 : n0 ≤ b189 := by omega
      have F195 : Fld Z h190 b189 "com/example/nx1/nx1/HolderKey" "name" "Ljava/lang/String;" .null := D193 (Or.inr (wd34 hw)) (ty := (.object "java/lang/String")) (by decide)
      have F196 : Fld Z h190 b189 "com/example/nx1/nx1/HolderKey" "holder" "Ljava/lang/String;" .null := D193 (Or.inr (wd36 hw)) (ty := (.object "java/lang/String")) (by decide)
      have F197 : Fld Z h190 b189 "com/example/nx1/nx1/HolderKey" "hash" "I" (.int (0 : Int32)) := D193 (Or.inr (wd57 hw)) (ty := .int) (by decide)
      refine r_dup at_68 rfl rfl ?_
      refine r_aload at_69 rfl rfl rfl ?_
      refine r_aload at_71 rfl rfl rfl ?_
      have ne198 : t23 ≠ b163 := Str.neB (Str.ext E165 (Str.keep SS25 KK155 nin0 nin0)) A166 (wd27 hw)
      have ne199 : t23 ≠ a1 := Str.neB (Str.ext E165 (Str.keep SS25 KK155 nin0 nin0)) (Exa.ext E165 (Exa.keep (Exa.keep (Exa.keep (Str.exa SS4) KK13) KK24) KK155)) (wd5 hw)
      have ne200 : t23 ≠ a11 := Str.neB (Str.ext E165 (Str.keep SS25 KK155 nin0 nin0)) (Exa.ext E165 (Exa.keep (Exa.keep (Str.exa SS14) KK24) KK155)) (wd5 hw)
      have ne201 : @Ne Nat a22 a11 := by omega
      have ne202 : @Ne Nat a22 a1 := by omega
      have ne203 : @Ne Nat a22 b163 := by omega
      have G204 : Str Z h190 a22 t23 (mkcs p3) := (Str.ext E191 (Str.keep (Str.ext E165 (Str.keep SS25 KK155 nin0 nin0)) KK178 (ninS ne203 (ninS ne202 (ninS ne201 nin0))) (ninS ne198 (ninS ne199 (ninS ne200 nin0)))))
      have ne205 : t154 ≠ b163 := Str.neB (Str.ext E165 SS156) A166 (wd27 hw)
      have ne206 : t154 ≠ a1 := Str.neB (Str.ext E165 SS156) (Exa.ext E165 (Exa.keep (Exa.keep (Exa.keep (Str.exa SS4) KK13) KK24) KK155)) (wd5 hw)
      have ne207 : t154 ≠ a11 := Str.neB (Str.ext E165 SS156) (Exa.ext E165 (Exa.keep (Exa.keep (Str.exa SS14) KK24) KK155)) (wd5 hw)
      have ne208 : @Ne Nat a153 a11 := by omega
      have ne209 : @Ne Nat a153 a1 := by omega
      have ne210 : @Ne Nat a153 b163 := by omega
      have G211 : Str Z h190 a153 t154 (mkcs p2) := (Str.ext E191 (Str.keep (Str.ext E165 SS156) KK178 (ninS ne210 (ninS ne209 (ninS ne208 nin0))) (ninS ne205 (ninS ne206 (ninS ne207 nin0)))))
      have F212 : Fld Z h190 a22 "java/lang/String" "hash" "I" (.int (0 : Int32)) := (Fld.ext E191 (Fld.keep (Fld.ext E165 (Fld.keep FH26 KK155 nin0)) KK178 (ninS ne203 (ninS ne202 (ninS ne201 nin0)))))
      have F213 : Fld Z h190 a22 "java/lang/String" "hashIsZero" "Z" (.int (0 : Int32)) := (Fld.ext E191 (Fld.keep (Fld.ext E165 (Fld.keep FZ27 KK155 nin0)) KK178 (ninS ne203 (ninS ne202 (ninS ne201 nin0)))))
      have F214 : Fld Z h190 a153 "java/lang/String" "hash" "I" (.int (0 : Int32)) := (Fld.ext E191 (Fld.keep (Fld.ext E165 FH157) KK178 (ninS ne210 (ninS ne209 (ninS ne208 nin0)))))
      have F215 : Fld Z h190 a153 "java/lang/String" "hashIsZero" "Z" (.int (0 : Int32)) := (Fld.ext E191 (Fld.keep (Fld.ext E165 FZ158) KK178 (ninS ne210 (ninS ne209 (ninS ne208 nin0)))))
      have ne223 : @Ne Nat a22 a153 := by omega
      have A225 : Exa Z h190 a153 "java/lang/String" := (Exa.ext E191 (Exa.keep (Exa.ext E165 (Str.exa SS156)) KK178))
      have A226 : Exa Z h190 a22 "java/lang/String" := (Exa.ext E191 (Exa.keep (Exa.ext E165 (Exa.keep (Str.exa SS25) KK155)) KK178))
      refine r_special (y := (⟨"com/example/nx1/nx1/HolderKey", "<init>", "(Ljava/lang/String;Ljava/lang/String;)V"⟩ : MethodName)) (argsL := [(.ref a22), (.ref a153)]) (rest := [(.ref b189)]) (W := 1) (kc := 0) (ks := 0) (wl := [b189, a22, a153]) at_73 rfl rfl (wd29 hw) (wd30 hw) (wd31 hw) (by decide) (lenOf pd_9 rfl) rfl rfl (Nat.le_of_ble_eq_true rfl) (Ok.pays (ok_ki hw b189 a22 a153 t23 t154 (len_mk _) (len_mk _) SC nC geb189 gga22 gga153 ne223 A192 F195 F196 F197 G204 G211 F212 F213 F214 F215) (wd31 hw) (wd28 hw) (by decide) (by decide)) (fun v h' q => q.2.1) (allS ⟨geb189, (Sf.exa A192 (by decide) (by decide))⟩ (allS ⟨gga22, (Sf.my (by simp))⟩ (allS ⟨gga153, (Sf.my (by simp))⟩ all0))) (by decide) (by decide) ?_
      rintro _ h224 ⟨rfl, KK216, EE217, FN218, FO219, FK220, SS221, SS222⟩
      refine Run.cast (st' := [(.ref b189)]) rfl ?_
      have szh224 := KK216.1
      refine r_astore (l' := #[.val (.int p1), .val (.int p2), .val (.int p3), .val (.int p4), .val (.int p5), .val (.ref a1), .val (.ref a11), .val (.ref a22), .val (.ref a153), .val (.ref b163), .val (.ref b189), .unset, .unset]) at_76 rfl rfl rfl rfl ?_
      refine r_iload at_78 rfl rfl ?_
      refine r_iconst (v := 2) at_80 rfl rfl ?_
      refine r_iushr at_81 rfl ?_
      refine r_iconst (v := 3) at_82 rfl rfl ?_
      refine r_iand at_83 rfl ?_
      refine r_istore (l' := #[.val (.int p1), .val (.int p2), .val (.int p3), .val (.int p4), .val (.int p5), .val (.ref a1), .val (.ref a11), .val (.ref a22), .val (.ref a153), .val (.ref b163), .val (.ref b189), .val (.int (((p5.toUInt32 >>> ((2 : Int32) &&& 31).toUInt32).toInt32) &&& (3 : Int32))), .unset]) at_84 rfl rfl rfl ?_
      refine r_iload at_86 rfl rfl ?_
      refine r_iconst (v := 2) at_88 rfl rfl ?_
      refine r_icmpne (pc2 := 107) at_89 rfl rfl (fun c227 => ?_) (fun c227 => ?_)
      · refine r_iload at_107 rfl rfl ?_
        refine r_iconst (v := 3) at_109 rfl rfl ?_
        refine r_icmpne (pc2 := 129) at_110 rfl rfl (fun c228 => ?_) (fun c228 => ?_)
        · refine r_aload at_129 rfl rfl rfl ?_
          refine r_aload at_131 rfl rfl rfl ?_
          have ne229 : t2 ≠ b189 := Str.neB (Str.ext E191 SS183) A192 (wd27 hw)
          have ne230 : t2 ≠ a22 := Str.neB (Str.ext E191 SS183) (Exa.ext E191 (Exa.keep (Exa.ext E165 (Exa.keep (Str.exa SS25) KK155)) KK178)) (wd5 hw)
          have ne231 : t2 ≠ a153 := Str.neB (Str.ext E191 SS183) (Exa.ext E191 (Exa.keep (Exa.ext E165 (Str.exa SS156)) KK178)) (wd5 hw)
          have ne232 : @Ne Nat a1 b189 := by omega
          have G233 : Str Z h224 a1 t2 (mkcs p1) := (Str.keep (Str.ext E191 SS183) KK216 (ninS ne232 (ninS (Ne.symm ne202) (ninS (Ne.symm ne209) nin0))) (ninS ne229 (ninS ne230 (ninS ne231 nin0))))
          have A235 : Exa Z h224 a1 "java/lang/String" := (Exa.keep (Exa.ext E191 (Str.exa SS183)) KK216)
          refine r_virtual (y := (⟨"java/lang/String", "equals", "(Ljava/lang/Object;)Z"⟩ : MethodName)) (argsL := [(.ref a22)]) (rest := []) (W := 0) (kc := 0) (ks := 0) (wl := []) at_133 rfl (wd58 hw) (wd59 hw) (wd61 hw) (wd60 hw) (by decide) ⟨rfl, rfl⟩ A235 (lenOf pd_7 rfl) rfl rfl (Nat.le_of_ble_eq_true rfl) (pays_eq hw G233 SS221 (lat_mk p1) (lat_mk p3) (Nat.le_trans (len_mk _) (by decide)) (Nat.le_trans (len_mk _) (by decide)) SC nC (by decide) (by decide)) (fun v h' q => q.2 ▸ Keep.refl _ _) all0 (by decide) (by decide) ?_
          rintro _ h234 ⟨rfl, eqh⟩
          subst h234
          refine Run.cast (st' := [(.int (if (mkcs p1) = (mkcs p3) then 1 else 0))]) rfl ?_
          refine r_ifeq (pc2 := 153) at_136 rfl rfl (fun c236 => ?_) (fun c236 => ?_)
          · refine r_iconst (v := 0) at_153 rfl rfl ?_
            refine r_istore (l' := #[.val (.int p1), .val (.int p2), .val (.int p3), .val (.int p4), .val (.int p5), .val (.ref a1), .val (.ref a11), .val (.ref a22), .val (.ref a153), .val (.ref b163), .val (.ref b189), .val (.int (((p5.toUInt32 >>> ((2 : Int32) &&& 31).toUInt32).toInt32) &&& (3 : Int32))), .val (.int (0 : Int32))]) at_154 rfl rfl rfl ?_
            refine r_aload at_156 rfl rfl rfl ?_
            refine r_aload at_158 rfl rfl rfl ?_
            have A237 : Exa Z h224 b163 "com/example/nx1/nx1/HolderKey" := (Exa.keep (Exa.ext E191 EE179) KK216)
            have ne238 : @Ne Nat b163 b189 := by omega
            have F239 : Fld Z h224 b163 "com/example/nx1/nx1/HolderKey" "name" "Ljava/lang/String;" (.ref a1) := (Fld.keep (Fld.ext E191 FN180) KK216 (ninS ne238 (ninS (Ne.symm ne203) (ninS (Ne.symm ne210) nin0))))
            have F240 : Fld Z h224 b163 "com/example/nx1/nx1/HolderKey" "holder" "Ljava/lang/String;" (.ref a11) := (Fld.keep (Fld.ext E191 FO181) KK216 (ninS ne238 (ninS (Ne.symm ne203) (ninS (Ne.symm ne210) nin0))))
            have F241 : Fld Z h224 b163 "com/example/nx1/nx1/HolderKey" "hash" "I" (.int (hk (mkcs p1) (mkcs p2))) := (Fld.keep (Fld.ext E191 FK182) KK216 (ninS ne238 (ninS (Ne.symm ne203) (ninS (Ne.symm ne210) nin0))))
            have ne242 : t12 ≠ b189 := Str.neB (Str.ext E191 SS184) A192 (wd27 hw)
            have ne243 : t12 ≠ a22 := Str.neB (Str.ext E191 SS184) (Exa.ext E191 (Exa.keep (Exa.ext E165 (Exa.keep (Str.exa SS25) KK155)) KK178)) (wd5 hw)
            have ne244 : t12 ≠ a153 := Str.neB (Str.ext E191 SS184) (Exa.ext E191 (Exa.keep (Exa.ext E165 (Str.exa SS156)) KK178)) (wd5 hw)
            have ne245 : @Ne Nat a11 b189 := by omega
            have G246 : Str Z h224 a11 t12 (mkcs p2) := (Str.keep (Str.ext E191 SS184) KK216 (ninS ne245 (ninS (Ne.symm ne201) (ninS (Ne.symm ne208) nin0))) (ninS ne242 (ninS ne243 (ninS ne244 nin0))))
            refine r_virtual (y := (⟨"com/example/nx1/nx1/HolderKey", "equals", "(Ljava/lang/Object;)Z"⟩ : MethodName)) (argsL := [(.ref b189)]) (rest := []) (W := 0) (kc := 0) (ks := 0) (wl := []) at_160 rfl (wd67 hw) (wd68 hw) (wd70 hw) (wd69 hw) (by decide) ⟨rfl, rfl⟩ A237 (lenOf pd_7 rfl) rfl rfl (Nat.le_of_ble_eq_true rfl) (Ok.pays (ok_ke hw b163 b189 (lat_mk p1) (lat_mk p2) (lat_mk p3) (lat_mk p2) (len_mk _) (len_mk _) (len_mk _) (len_mk _) SC nC A237 F239 F240 F241 EE217 FN218 FO219 FK220 G233 G246 SS221 SS222) (wd71 hw) (wd28 hw) (by decide) (by decide)) (fun v h' q => q.2 ▸ Keep.refl _ _) all0 (by decide) (by decide) ?_
            rintro _ h247 ⟨rfl, eqh⟩
            subst h247
            refine Run.cast (st' := [(.int (if (mkcs p1) = (mkcs p3) ∧ (mkcs p2) = (mkcs p2) then 1 else 0))]) rfl ?_
            refine r_iload at_163 rfl rfl ?_
            refine r_icmpne (pc2 := 172) at_165 rfl rfl (fun cc => absurd (if_neg (fun z => by rw [if_pos z.1] at c236; exact absurd c236 (by decide))) cc) (fun _ => ?_)
            refine r_iconst (v := 1) at_168 rfl rfl ?_
            refine r_goto (pc' := 173) at_169 rfl ?_
            exact r_ireturnN (t := .boolean) at_173 rfl (by simp) rfl (by simp) (by decide) (by decide)
          · refine r_aload at_139 rfl rfl rfl ?_
            refine r_aload at_141 rfl rfl rfl ?_
            have ne248 : t12 ≠ b189 := Str.neB (Str.ext E191 SS184) A192 (wd27 hw)
            have ne249 : t12 ≠ a22 := Str.neB (Str.ext E191 SS184) (Exa.ext E191 (Exa.keep (Exa.ext E165 (Exa.keep (Str.exa SS25) KK155)) KK178)) (wd5 hw)
            have ne250 : t12 ≠ a153 := Str.neB (Str.ext E191 SS184) (Exa.ext E191 (Exa.keep (Exa.ext E165 (Str.exa SS156)) KK178)) (wd5 hw)
            have ne251 : @Ne Nat a11 b189 := by omega
            have G252 : Str Z h224 a11 t12 (mkcs p2) := (Str.keep (Str.ext E191 SS184) KK216 (ninS ne251 (ninS (Ne.symm ne201) (ninS (Ne.symm ne208) nin0))) (ninS ne248 (ninS ne249 (ninS ne250 nin0))))
            have A254 : Exa Z h224 a11 "java/lang/String" := (Exa.keep (Exa.ext E191 (Str.exa SS184)) KK216)
            refine r_virtual (y := (⟨"java/lang/String", "equals", "(Ljava/lang/Object;)Z"⟩ : MethodName)) (argsL := [(.ref a153)]) (rest := []) (W := 0) (kc := 0) (ks := 0) (wl := []) at_143 rfl (wd58 hw) (wd59 hw) (wd61 hw) (wd60 hw) (by decide) ⟨rfl, rfl⟩ A254 (lenOf pd_7 rfl) rfl rfl (Nat.le_of_ble_eq_true rfl) (pays_eq hw G252 SS222 (lat_mk p2) (lat_mk p2) (Nat.le_trans (len_mk _) (by decide)) (Nat.le_trans (len_mk _) (by decide)) SC nC (by decide) (by decide)) (fun v h' q => q.2 ▸ Keep.refl _ _) all0 (by decide) (by decide) ?_
            rintro _ h253 ⟨rfl, eqh⟩
            subst h253
            refine Run.cast (st' := [(.int (if (mkcs p2) = (mkcs p2) then 1 else 0))]) rfl ?_
            refine r_ifeq (pc2 := 153) at_146 rfl rfl (fun c255 => ?_) (fun c255 => ?_)
            · refine r_iconst (v := 0) at_153 rfl rfl ?_
              refine r_istore (l' := #[.val (.int p1), .val (.int p2), .val (.int p3), .val (.int p4), .val (.int p5), .val (.ref a1), .val (.ref a11), .val (.ref a22), .val (.ref a153), .val (.ref b163), .val (.ref b189), .val (.int (((p5.toUInt32 >>> ((2 : Int32) &&& 31).toUInt32).toInt32) &&& (3 : Int32))), .val (.int (0 : Int32))]) at_154 rfl rfl rfl ?_
              refine r_aload at_156 rfl rfl rfl ?_
              refine r_aload at_158 rfl rfl rfl ?_
              have A256 : Exa Z h224 b163 "com/example/nx1/nx1/HolderKey" := (Exa.keep (Exa.ext E191 EE179) KK216)
              have ne257 : @Ne Nat b163 b189 := by omega
              have F258 : Fld Z h224 b163 "com/example/nx1/nx1/HolderKey" "name" "Ljava/lang/String;" (.ref a1) := (Fld.keep (Fld.ext E191 FN180) KK216 (ninS ne257 (ninS (Ne.symm ne203) (ninS (Ne.symm ne210) nin0))))
              have F259 : Fld Z h224 b163 "com/example/nx1/nx1/HolderKey" "holder" "Ljava/lang/String;" (.ref a11) := (Fld.keep (Fld.ext E191 FO181) KK216 (ninS ne257 (ninS (Ne.symm ne203) (ninS (Ne.symm ne210) nin0))))
              have F260 : Fld Z h224 b163 "com/example/nx1/nx1/HolderKey" "hash" "I" (.int (hk (mkcs p1) (mkcs p2))) := (Fld.keep (Fld.ext E191 FK182) KK216 (ninS ne257 (ninS (Ne.symm ne203) (ninS (Ne.symm ne210) nin0))))
              refine r_virtual (y := (⟨"com/example/nx1/nx1/HolderKey", "equals", "(Ljava/lang/Object;)Z"⟩ : MethodName)) (argsL := [(.ref b189)]) (rest := []) (W := 0) (kc := 0) (ks := 0) (wl := []) at_160 rfl (wd67 hw) (wd68 hw) (wd70 hw) (wd69 hw) (by decide) ⟨rfl, rfl⟩ A256 (lenOf pd_7 rfl) rfl rfl (Nat.le_of_ble_eq_true rfl) (Ok.pays (ok_ke hw b163 b189 (lat_mk p1) (lat_mk p2) (lat_mk p3) (lat_mk p2) (len_mk _) (len_mk _) (len_mk _) (len_mk _) SC nC A256 F258 F259 F260 EE217 FN218 FO219 FK220 G233 G252 SS221 SS222) (wd71 hw) (wd28 hw) (by decide) (by decide)) (fun v h' q => q.2 ▸ Keep.refl _ _) all0 (by decide) (by decide) ?_
              rintro _ h261 ⟨rfl, eqh⟩
              subst h261
              refine Run.cast (st' := [(.int (if (mkcs p1) = (mkcs p3) ∧ (mkcs p2) = (mkcs p2) then 1 else 0))]) rfl ?_
              refine r_iload at_163 rfl rfl ?_
              refine r_icmpne (pc2 := 172) at_165 rfl rfl (fun cc => absurd (if_neg (fun z => by rw [if_pos z.2] at c255; exact absurd c255 (by decide))) cc) (fun _ => ?_)
              refine r_iconst (v := 1) at_168 rfl rfl ?_
              refine r_goto (pc' := 173) at_169 rfl ?_
              exact r_ireturnN (t := .boolean) at_173 rfl (by simp) rfl (by simp) (by decide) (by decide)
            · refine r_iconst (v := 1) at_149 rfl rfl ?_
              refine r_goto (pc' := 154) at_150 rfl ?_
              refine r_istore (l' := #[.val (.int p1), .val (.int p2), .val (.int p3), .val (.int p4), .val (.int p5), .val (.ref a1), .val (.ref a11), .val (.ref a22), .val (.ref a153), .val (.ref b163), .val (.ref b189), .val (.int (((p5.toUInt32 >>> ((2 : Int32) &&& 31).toUInt32).toInt32) &&& (3 : Int32))), .val (.int (1 : Int32))]) at_154 rfl rfl rfl ?_
              refine r_aload at_156 rfl rfl rfl ?_
              refine r_aload at_158 rfl rfl rfl ?_
              have A262 : Exa Z h224 b163 "com/example/nx1/nx1/HolderKey" := (Exa.keep (Exa.ext E191 EE179) KK216)
              have ne263 : @Ne Nat b163 b189 := by omega
              have F264 : Fld Z h224 b163 "com/example/nx1/nx1/HolderKey" "name" "Ljava/lang/String;" (.ref a1) := (Fld.keep (Fld.ext E191 FN180) KK216 (ninS ne263 (ninS (Ne.symm ne203) (ninS (Ne.symm ne210) nin0))))
              have F265 : Fld Z h224 b163 "com/example/nx1/nx1/HolderKey" "holder" "Ljava/lang/String;" (.ref a11) := (Fld.keep (Fld.ext E191 FO181) KK216 (ninS ne263 (ninS (Ne.symm ne203) (ninS (Ne.symm ne210) nin0))))
              have F266 : Fld Z h224 b163 "com/example/nx1/nx1/HolderKey" "hash" "I" (.int (hk (mkcs p1) (mkcs p2))) := (Fld.keep (Fld.ext E191 FK182) KK216 (ninS ne263 (ninS (Ne.symm ne203) (ninS (Ne.symm ne210) nin0))))
              refine r_virtual (y := (⟨"com/example/nx1/nx1/HolderKey", "equals", "(Ljava/lang/Object;)Z"⟩ : MethodName)) (argsL := [(.ref b189)]) (rest := []) (W := 0) (kc := 0) (ks := 0) (wl := []) at_160 rfl (wd67 hw) (wd68 hw) (wd70 hw) (wd69 hw) (by decide) ⟨rfl, rfl⟩ A262 (lenOf pd_7 rfl) rfl rfl (Nat.le_of_ble_eq_true rfl) (Ok.pays (ok_ke hw b163 b189 (lat_mk p1) (lat_mk p2) (lat_mk p3) (lat_mk p2) (len_mk _) (len_mk _) (len_mk _) (len_mk _) SC nC A262 F264 F265 F266 EE217 FN218 FO219 FK220 G233 G252 SS221 SS222) (wd71 hw) (wd28 hw) (by decide) (by decide)) (fun v h' q => q.2 ▸ Keep.refl _ _) all0 (by decide) (by decide) ?_
              rintro _ h267 ⟨rfl, eqh⟩
              subst h267
              refine Run.cast (st' := [(.int (if (mkcs p1) = (mkcs p3) ∧ (mkcs p2) = (mkcs p2) then 1 else 0))]) rfl ?_
              refine r_iload at_163 rfl rfl ?_
              refine r_icmpne (pc2 := 172) at_165 rfl rfl (fun cc => absurd (if_pos ⟨Classical.byContradiction fun z => c236 (by rw [if_neg z]), Classical.byContradiction fun z => c255 (by rw [if_neg z])⟩) cc) (fun _ => ?_)
              refine r_iconst (v := 1) at_168 rfl rfl ?_
              refine r_goto (pc' := 173) at_169 rfl ?_
              exact r_ireturnN (t := .boolean) at_173 rfl (by simp) rfl (by simp) (by decide) (by decide)
        · refine r_aload at_113 rfl rfl rfl ?_
          refine r_aload at_115 rfl rfl rfl ?_
          have A268 : Exa Z h224 a1 "java/lang/String" := (Exa.keep (Exa.ext E191 (Str.exa SS183)) KK216)
          have A270 : Exa Z h224 b163 "com/example/nx1/nx1/HolderKey" := (Exa.keep (Exa.ext E191 EE179) KK216)
          refine r_virtual (y := (⟨"com/example/nx1/nx1/HolderKey", "equals", "(Ljava/lang/Object;)Z"⟩ : MethodName)) (argsL := [(.ref a1)]) (rest := []) (W := 0) (kc := 0) (ks := 0) (wl := []) at_117 rfl (wd67 hw) (wd68 hw) (wd70 hw) (wd69 hw) (by decide) ⟨rfl, rfl⟩ A270 (lenOf pd_7 rfl) rfl rfl (Nat.le_of_ble_eq_true rfl) (Ok.pays (ok_kes hw b163 a1 A268) (wd71 hw) (wd28 hw) (by decide) (by decide)) (fun v h' q => q.2 ▸ Keep.refl _ _) all0 (by decide) (by decide) ?_
          rintro _ h269 ⟨rfl, eqh⟩
          subst h269
          refine Run.cast (st' := [(.int (0 : Int32))]) rfl ?_
          refine r_ifne (pc2 := 127) at_120 rfl rfl (fun cc => absurd rfl cc) (fun _ => ?_)
          refine r_iconst (v := 1) at_123 rfl rfl ?_
          refine r_goto (pc' := 128) at_124 rfl ?_
          exact r_ireturnN (t := .boolean) at_128 rfl (by simp) rfl (by simp) (by decide) (by decide)
      · refine r_aload at_92 rfl rfl rfl ?_
        refine r_aconst at_94 rfl ?_
        have A272 : Exa Z h224 b163 "com/example/nx1/nx1/HolderKey" := (Exa.keep (Exa.ext E191 EE179) KK216)
        refine r_virtual (y := (⟨"com/example/nx1/nx1/HolderKey", "equals", "(Ljava/lang/Object;)Z"⟩ : MethodName)) (argsL := [.null]) (rest := []) (W := 0) (kc := 0) (ks := 0) (wl := []) at_95 rfl (wd67 hw) (wd68 hw) (wd70 hw) (wd69 hw) (by decide) ⟨rfl, rfl⟩ A272 (lenOf pd_7 rfl) rfl rfl (Nat.le_of_ble_eq_true rfl) (Ok.pays (ok_ken hw b163) (wd71 hw) (wd28 hw) (by decide) (by decide)) (fun v h' q => q.2 ▸ Keep.refl _ _) all0 (by decide) (by decide) ?_
        rintro _ h271 ⟨rfl, eqh⟩
        subst h271
        refine Run.cast (st' := [(.int (0 : Int32))]) rfl ?_
        refine r_ifne (pc2 := 105) at_98 rfl rfl (fun cc => absurd rfl cc) (fun _ => ?_)
        refine r_iconst (v := 1) at_101 rfl rfl ?_
        refine r_goto (pc' := 106) at_102 rfl ?_
        exact r_ireturnN (t := .boolean) at_106 rfl (by simp) rfl (by simp) (by decide) (by decide)
  · refine r_iloadN at_19 rfl rfl ?_
    refine r_staticW (y := (⟨"com/example/nx1/nx1/HolderKeyEqualsPinLaw", "mk", "(I)Ljava/lang/String;"⟩ : MethodName)) (argsL := [(.int p1)]) (rest := []) (W := 0) (kc := 6) (ks := 12) (wl := []) rfl at_20 rfl (wd0 hw) (wd1 hw) (wd2 hw) (wd3 hw) (by decide) (lenOf pd_8 rfl) rfl rfl (Nat.le_of_ble_eq_true rfl) (Ok.paysW (ok_mk hw p1 SC nC) (wd3 hw) (wd2 hw) (by decide) (by decide)) (by simp) (fun v h' q => by obtain ⟨_, _, _, K, _⟩ := q; exact K) all0 (by decide) (by decide) ?_
    rintro _ h280 ⟨a273, t274, rfl, KK275, hge279, SS276, FH277, FZ278⟩
    refine Run.forget (My' := [a273, a11, a1]) (by simp [refs]) ?_
    refine Run.cast (st' := [(.ref a273)]) rfl ?_
    have szh280 := KK275.1
    have lt281 : @LT.lt Nat instLTNat a273 (Array.size h280) := (Str.lt SS276)
    have lt282 : @LT.lt Nat instLTNat t274 (Array.size h280) := (Str.ltB SS276)
    have gga273 : n0 ≤ a273 := by omega
    refine r_goto (pc' := 30) at_23 rfl ?_
    refine r_astore (l' := #[.val (.int p1), .val (.int p2), .val (.int p3), .val (.int p4), .val (.int p5), .val (.ref a1), .val (.ref a11), .val (.ref a273), .unset, .unset, .unset, .unset, .unset]) at_30 rfl rfl rfl rfl ?_
    refine r_iload at_32 rfl rfl ?_
    refine r_iconst (v := 2) at_34 rfl rfl ?_
    refine r_iand at_35 rfl ?_
    refine r_ifeq (pc2 := 46) at_36 rfl rfl (fun c283 => ?_) (fun c283 => ?_)
    · refine r_iloadN at_46 rfl rfl ?_
      refine r_staticW (y := (⟨"com/example/nx1/nx1/HolderKeyEqualsPinLaw", "mk", "(I)Ljava/lang/String;"⟩ : MethodName)) (argsL := [(.int p4)]) (rest := []) (W := 0) (kc := 6) (ks := 12) (wl := []) rfl at_47 rfl (wd0 hw) (wd1 hw) (wd2 hw) (wd3 hw) (by decide) (lenOf pd_8 rfl) rfl rfl (Nat.le_of_ble_eq_true rfl) (Ok.paysW (ok_mk hw p4 SC nC) (wd3 hw) (wd2 hw) (by decide) (by decide)) (by simp) (fun v h' q => by obtain ⟨_, _, _, K, _⟩ := q; exact K) all0 (by decide) (by decide) ?_
      rintro _ h291 ⟨a284, t285, rfl, KK286, hge290, SS287, FH288, FZ289⟩
      refine Run.forget (My' := [a284, a273, a11, a1]) (by simp [refs]) ?_
      refine Run.cast (st' := [(.ref a284)]) rfl ?_
      have szh291 := KK286.1
      have lt292 : @LT.lt Nat instLTNat a284 (Array.size h291) := (Str.lt SS287)
      have lt293 : @LT.lt Nat instLTNat t285 (Array.size h291) := (Str.ltB SS287)
      have gga284 : n0 ≤ a284 := by omega
      refine r_astore (l' := #[.val (.int p1), .val (.int p2), .val (.int p3), .val (.int p4), .val (.int p5), .val (.ref a1), .val (.ref a11), .val (.ref a273), .val (.ref a284), .unset, .unset, .unset, .unset]) at_50 rfl rfl rfl rfl ?_
      refine r_new at_52 rfl (wd26 hw) (wd27 hw) (wd28 hw) (by decide) (by decide) ?_
      intro h295 b294 gb294 ltb294 E296 A297 D298 U299
      have szh295 := E296.1
      have geb294 : n0 ≤ b294 := by omega
      have F300 : Fld Z h295 b294 "com/example/nx1/nx1/HolderKey" "name" "Ljava/lang/String;" .null := D298 (Or.inr (wd34 hw)) (ty := (.object "java/lang/String")) (by decide)
      have F301 : Fld Z h295 b294 "com/example/nx1/nx1/HolderKey" "holder" "Ljava/lang/String;" .null := D298 (Or.inr (wd36 hw)) (ty := (.object "java/lang/String")) (by decide)
      have F302 : Fld Z h295 b294 "com/example/nx1/nx1/HolderKey" "hash" "I" (.int (0 : Int32)) := D298 (Or.inr (wd57 hw)) (ty := .int) (by decide)
      refine r_dup at_55 rfl rfl ?_
      refine r_aload at_56 rfl rfl rfl ?_
      refine r_aload at_58 rfl rfl rfl ?_
      have G303 : Str Z h295 a1 t2 (mkcs p1) := (Str.ext E296 (Str.keep (Str.keep (Str.keep SS4 KK13 nin0 nin0) KK275 nin0 nin0) KK286 nin0 nin0))
      have G304 : Str Z h295 a11 t12 (mkcs p2) := (Str.ext E296 (Str.keep (Str.keep SS14 KK275 nin0 nin0) KK286 nin0 nin0))
      have F305 : Fld Z h295 a1 "java/lang/String" "hash" "I" (.int (0 : Int32)) := (Fld.ext E296 (Fld.keep (Fld.keep (Fld.keep FH5 KK13 nin0) KK275 nin0) KK286 nin0))
      have F306 : Fld Z h295 a1 "java/lang/String" "hashIsZero" "Z" (.int (0 : Int32)) := (Fld.ext E296 (Fld.keep (Fld.keep (Fld.keep FZ6 KK13 nin0) KK275 nin0) KK286 nin0))
      have F307 : Fld Z h295 a11 "java/lang/String" "hash" "I" (.int (0 : Int32)) := (Fld.ext E296 (Fld.keep (Fld.keep FH15 KK275 nin0) KK286 nin0))
      have F308 : Fld Z h295 a11 "java/lang/String" "hashIsZero" "Z" (.int (0 : Int32)) := (Fld.ext E296 (Fld.keep (Fld.keep FZ16 KK275 nin0) KK286 nin0))
      have ne316 : @Ne Nat a1 a11 := by omega
      have A318 : Exa Z h295 a11 "java/lang/String" := (Exa.ext E296 (Exa.keep (Exa.keep (Str.exa SS14) KK275) KK286))
      have A319 : Exa Z h295 a1 "java/lang/String" := (Exa.ext E296 (Exa.keep (Exa.keep (Exa.keep (Str.exa SS4) KK13) KK275) KK286))
      refine r_special (y := (⟨"com/example/nx1/nx1/HolderKey", "<init>", "(Ljava/lang/String;Ljava/lang/String;)V"⟩ : MethodName)) (argsL := [(.ref a1), (.ref a11)]) (rest := [(.ref b294)]) (W := 1) (kc := 0) (ks := 0) (wl := [b294, a1, a11]) at_60 rfl rfl (wd29 hw) (wd30 hw) (wd31 hw) (by decide) (lenOf pd_9 rfl) rfl rfl (Nat.le_of_ble_eq_true rfl) (Ok.pays (ok_ki hw b294 a1 a11 t2 t12 (len_mk _) (len_mk _) SC nC geb294 gga1 gga11 ne316 A297 F300 F301 F302 G303 G304 F305 F306 F307 F308) (wd31 hw) (wd28 hw) (by decide) (by decide)) (fun v h' q => q.2.1) (allS ⟨geb294, (Sf.exa A297 (by decide) (by decide))⟩ (allS ⟨gga1, (Sf.my (by simp))⟩ (allS ⟨gga11, (Sf.my (by simp))⟩ all0))) (by decide) (by decide) ?_
      rintro _ h317 ⟨rfl, KK309, EE310, FN311, FO312, FK313, SS314, SS315⟩
      refine Run.cast (st' := [(.ref b294)]) rfl ?_
      have szh317 := KK309.1
      refine r_astore (l' := #[.val (.int p1), .val (.int p2), .val (.int p3), .val (.int p4), .val (.int p5), .val (.ref a1), .val (.ref a11), .val (.ref a273), .val (.ref a284), .val (.ref b294), .unset, .unset, .unset]) at_63 rfl rfl rfl rfl ?_
      refine r_new at_65 rfl (wd26 hw) (wd27 hw) (wd28 hw) (by decide) (by decide) ?_
      intro h321 b320 gb320 ltb320 E322 A323 D324 U325
      have szh321 := E322.1
      have geb320 : n0 ≤ b320 := by omega
      have F326 : Fld Z h321 b320 "com/example/nx1/nx1/HolderKey" "name" "Ljava/lang/String;" .null := D324 (Or.inr (wd34 hw)) (ty := (.object "java/lang/String")) (by decide)
      have F327 : Fld Z h321 b320 "com/example/nx1/nx1/HolderKey" "holder" "Ljava/lang/String;" .null := D324 (Or.inr (wd36 hw)) (ty := (.object "java/lang/String")) (by decide)
      have F328 : Fld Z h321 b320 "com/example/nx1/nx1/HolderKey" "hash" "I" (.int (0 : Int32)) := D324 (Or.inr (wd57 hw)) (ty := .int) (by decide)
      refine r_dup at_68 rfl rfl ?_
      refine r_aload at_69 rfl rfl rfl ?_
      refine r_aload at_71 rfl rfl rfl ?_
      have ne329 : t274 ≠ b294 := Str.neB (Str.ext E296 (Str.keep SS276 KK286 nin0 nin0)) A297 (wd27 hw)
      have ne330 : t274 ≠ a1 := Str.neB (Str.ext E296 (Str.keep SS276 KK286 nin0 nin0)) (Exa.ext E296 (Exa.keep (Exa.keep (Exa.keep (Str.exa SS4) KK13) KK275) KK286)) (wd5 hw)
      have ne331 : t274 ≠ a11 := Str.neB (Str.ext E296 (Str.keep SS276 KK286 nin0 nin0)) (Exa.ext E296 (Exa.keep (Exa.keep (Str.exa SS14) KK275) KK286)) (wd5 hw)
      have ne332 : @Ne Nat a273 a11 := by omega
      have ne333 : @Ne Nat a273 a1 := by omega
      have ne334 : @Ne Nat a273 b294 := by omega
      have G335 : Str Z h321 a273 t274 (mkcs p1) := (Str.ext E322 (Str.keep (Str.ext E296 (Str.keep SS276 KK286 nin0 nin0)) KK309 (ninS ne334 (ninS ne333 (ninS ne332 nin0))) (ninS ne329 (ninS ne330 (ninS ne331 nin0)))))
      have ne336 : t285 ≠ b294 := Str.neB (Str.ext E296 SS287) A297 (wd27 hw)
      have ne337 : t285 ≠ a1 := Str.neB (Str.ext E296 SS287) (Exa.ext E296 (Exa.keep (Exa.keep (Exa.keep (Str.exa SS4) KK13) KK275) KK286)) (wd5 hw)
      have ne338 : t285 ≠ a11 := Str.neB (Str.ext E296 SS287) (Exa.ext E296 (Exa.keep (Exa.keep (Str.exa SS14) KK275) KK286)) (wd5 hw)
      have ne339 : @Ne Nat a284 a11 := by omega
      have ne340 : @Ne Nat a284 a1 := by omega
      have ne341 : @Ne Nat a284 b294 := by omega
      have G342 : Str Z h321 a284 t285 (mkcs p4) := (Str.ext E322 (Str.keep (Str.ext E296 SS287) KK309 (ninS ne341 (ninS ne340 (ninS ne339 nin0))) (ninS ne336 (ninS ne337 (ninS ne338 nin0)))))
      have F343 : Fld Z h321 a273 "java/lang/String" "hash" "I" (.int (0 : Int32)) := (Fld.ext E322 (Fld.keep (Fld.ext E296 (Fld.keep FH277 KK286 nin0)) KK309 (ninS ne334 (ninS ne333 (ninS ne332 nin0)))))
      have F344 : Fld Z h321 a273 "java/lang/String" "hashIsZero" "Z" (.int (0 : Int32)) := (Fld.ext E322 (Fld.keep (Fld.ext E296 (Fld.keep FZ278 KK286 nin0)) KK309 (ninS ne334 (ninS ne333 (ninS ne332 nin0)))))
      have F345 : Fld Z h321 a284 "java/lang/String" "hash" "I" (.int (0 : Int32)) := (Fld.ext E322 (Fld.keep (Fld.ext E296 FH288) KK309 (ninS ne341 (ninS ne340 (ninS ne339 nin0)))))
      have F346 : Fld Z h321 a284 "java/lang/String" "hashIsZero" "Z" (.int (0 : Int32)) := (Fld.ext E322 (Fld.keep (Fld.ext E296 FZ289) KK309 (ninS ne341 (ninS ne340 (ninS ne339 nin0)))))
      have ne354 : @Ne Nat a273 a284 := by omega
      have A356 : Exa Z h321 a284 "java/lang/String" := (Exa.ext E322 (Exa.keep (Exa.ext E296 (Str.exa SS287)) KK309))
      have A357 : Exa Z h321 a273 "java/lang/String" := (Exa.ext E322 (Exa.keep (Exa.ext E296 (Exa.keep (Str.exa SS276) KK286)) KK309))
      refine r_special (y := (⟨"com/example/nx1/nx1/HolderKey", "<init>", "(Ljava/lang/String;Ljava/lang/String;)V"⟩ : MethodName)) (argsL := [(.ref a273), (.ref a284)]) (rest := [(.ref b320)]) (W := 1) (kc := 0) (ks := 0) (wl := [b320, a273, a284]) at_73 rfl rfl (wd29 hw) (wd30 hw) (wd31 hw) (by decide) (lenOf pd_9 rfl) rfl rfl (Nat.le_of_ble_eq_true rfl) (Ok.pays (ok_ki hw b320 a273 a284 t274 t285 (len_mk _) (len_mk _) SC nC geb320 gga273 gga284 ne354 A323 F326 F327 F328 G335 G342 F343 F344 F345 F346) (wd31 hw) (wd28 hw) (by decide) (by decide)) (fun v h' q => q.2.1) (allS ⟨geb320, (Sf.exa A323 (by decide) (by decide))⟩ (allS ⟨gga273, (Sf.my (by simp))⟩ (allS ⟨gga284, (Sf.my (by simp))⟩ all0))) (by decide) (by decide) ?_
      rintro _ h355 ⟨rfl, KK347, EE348, FN349, FO350, FK351, SS352, SS353⟩
      refine Run.cast (st' := [(.ref b320)]) rfl ?_
      have szh355 := KK347.1
      refine r_astore (l' := #[.val (.int p1), .val (.int p2), .val (.int p3), .val (.int p4), .val (.int p5), .val (.ref a1), .val (.ref a11), .val (.ref a273), .val (.ref a284), .val (.ref b294), .val (.ref b320), .unset, .unset]) at_76 rfl rfl rfl rfl ?_
      refine r_iload at_78 rfl rfl ?_
      refine r_iconst (v := 2) at_80 rfl rfl ?_
      refine r_iushr at_81 rfl ?_
      refine r_iconst (v := 3) at_82 rfl rfl ?_
      refine r_iand at_83 rfl ?_
      refine r_istore (l' := #[.val (.int p1), .val (.int p2), .val (.int p3), .val (.int p4), .val (.int p5), .val (.ref a1), .val (.ref a11), .val (.ref a273), .val (.ref a284), .val (.ref b294), .val (.ref b320), .val (.int (((p5.toUInt32 >>> ((2 : Int32) &&& 31).toUInt32).toInt32) &&& (3 : Int32))), .unset]) at_84 rfl rfl rfl ?_
      refine r_iload at_86 rfl rfl ?_
      refine r_iconst (v := 2) at_88 rfl rfl ?_
      refine r_icmpne (pc2 := 107) at_89 rfl rfl (fun c358 => ?_) (fun c358 => ?_)
      · refine r_iload at_107 rfl rfl ?_
        refine r_iconst (v := 3) at_109 rfl rfl ?_
        refine r_icmpne (pc2 := 129) at_110 rfl rfl (fun c359 => ?_) (fun c359 => ?_)
        · refine r_aload at_129 rfl rfl rfl ?_
          refine r_aload at_131 rfl rfl rfl ?_
          have ne360 : t2 ≠ b320 := Str.neB (Str.ext E322 SS314) A323 (wd27 hw)
          have ne361 : t2 ≠ a273 := Str.neB (Str.ext E322 SS314) (Exa.ext E322 (Exa.keep (Exa.ext E296 (Exa.keep (Str.exa SS276) KK286)) KK309)) (wd5 hw)
          have ne362 : t2 ≠ a284 := Str.neB (Str.ext E322 SS314) (Exa.ext E322 (Exa.keep (Exa.ext E296 (Str.exa SS287)) KK309)) (wd5 hw)
          have ne363 : @Ne Nat a1 b320 := by omega
          have G364 : Str Z h355 a1 t2 (mkcs p1) := (Str.keep (Str.ext E322 SS314) KK347 (ninS ne363 (ninS (Ne.symm ne333) (ninS (Ne.symm ne340) nin0))) (ninS ne360 (ninS ne361 (ninS ne362 nin0))))
          have A366 : Exa Z h355 a1 "java/lang/String" := (Exa.keep (Exa.ext E322 (Str.exa SS314)) KK347)
          refine r_virtual (y := (⟨"java/lang/String", "equals", "(Ljava/lang/Object;)Z"⟩ : MethodName)) (argsL := [(.ref a273)]) (rest := []) (W := 0) (kc := 0) (ks := 0) (wl := []) at_133 rfl (wd58 hw) (wd59 hw) (wd61 hw) (wd60 hw) (by decide) ⟨rfl, rfl⟩ A366 (lenOf pd_7 rfl) rfl rfl (Nat.le_of_ble_eq_true rfl) (pays_eq hw G364 SS352 (lat_mk p1) (lat_mk p1) (Nat.le_trans (len_mk _) (by decide)) (Nat.le_trans (len_mk _) (by decide)) SC nC (by decide) (by decide)) (fun v h' q => q.2 ▸ Keep.refl _ _) all0 (by decide) (by decide) ?_
          rintro _ h365 ⟨rfl, eqh⟩
          subst h365
          refine Run.cast (st' := [(.int (if (mkcs p1) = (mkcs p1) then 1 else 0))]) rfl ?_
          refine r_ifeq (pc2 := 153) at_136 rfl rfl (fun c367 => ?_) (fun c367 => ?_)
          · refine r_iconst (v := 0) at_153 rfl rfl ?_
            refine r_istore (l' := #[.val (.int p1), .val (.int p2), .val (.int p3), .val (.int p4), .val (.int p5), .val (.ref a1), .val (.ref a11), .val (.ref a273), .val (.ref a284), .val (.ref b294), .val (.ref b320), .val (.int (((p5.toUInt32 >>> ((2 : Int32) &&& 31).toUInt32).toInt32) &&& (3 : Int32))), .val (.int (0 : Int32))]) at_154 rfl rfl rfl ?_
            refine r_aload at_156 rfl rfl rfl ?_
            refine r_aload at_158 rfl rfl rfl ?_
            have A368 : Exa Z h355 b294 "com/example/nx1/nx1/HolderKey" := (Exa.keep (Exa.ext E322 EE310) KK347)
            have ne369 : @Ne Nat b294 b320 := by omega
            have F370 : Fld Z h355 b294 "com/example/nx1/nx1/HolderKey" "name" "Ljava/lang/String;" (.ref a1) := (Fld.keep (Fld.ext E322 FN311) KK347 (ninS ne369 (ninS (Ne.symm ne334) (ninS (Ne.symm ne341) nin0))))
            have F371 : Fld Z h355 b294 "com/example/nx1/nx1/HolderKey" "holder" "Ljava/lang/String;" (.ref a11) := (Fld.keep (Fld.ext E322 FO312) KK347 (ninS ne369 (ninS (Ne.symm ne334) (ninS (Ne.symm ne341) nin0))))
            have F372 : Fld Z h355 b294 "com/example/nx1/nx1/HolderKey" "hash" "I" (.int (hk (mkcs p1) (mkcs p2))) := (Fld.keep (Fld.ext E322 FK313) KK347 (ninS ne369 (ninS (Ne.symm ne334) (ninS (Ne.symm ne341) nin0))))
            have ne373 : t12 ≠ b320 := Str.neB (Str.ext E322 SS315) A323 (wd27 hw)
            have ne374 : t12 ≠ a273 := Str.neB (Str.ext E322 SS315) (Exa.ext E322 (Exa.keep (Exa.ext E296 (Exa.keep (Str.exa SS276) KK286)) KK309)) (wd5 hw)
            have ne375 : t12 ≠ a284 := Str.neB (Str.ext E322 SS315) (Exa.ext E322 (Exa.keep (Exa.ext E296 (Str.exa SS287)) KK309)) (wd5 hw)
            have ne376 : @Ne Nat a11 b320 := by omega
            have G377 : Str Z h355 a11 t12 (mkcs p2) := (Str.keep (Str.ext E322 SS315) KK347 (ninS ne376 (ninS (Ne.symm ne332) (ninS (Ne.symm ne339) nin0))) (ninS ne373 (ninS ne374 (ninS ne375 nin0))))
            refine r_virtual (y := (⟨"com/example/nx1/nx1/HolderKey", "equals", "(Ljava/lang/Object;)Z"⟩ : MethodName)) (argsL := [(.ref b320)]) (rest := []) (W := 0) (kc := 0) (ks := 0) (wl := []) at_160 rfl (wd67 hw) (wd68 hw) (wd70 hw) (wd69 hw) (by decide) ⟨rfl, rfl⟩ A368 (lenOf pd_7 rfl) rfl rfl (Nat.le_of_ble_eq_true rfl) (Ok.pays (ok_ke hw b294 b320 (lat_mk p1) (lat_mk p2) (lat_mk p1) (lat_mk p4) (len_mk _) (len_mk _) (len_mk _) (len_mk _) SC nC A368 F370 F371 F372 EE348 FN349 FO350 FK351 G364 G377 SS352 SS353) (wd71 hw) (wd28 hw) (by decide) (by decide)) (fun v h' q => q.2 ▸ Keep.refl _ _) all0 (by decide) (by decide) ?_
            rintro _ h378 ⟨rfl, eqh⟩
            subst h378
            refine Run.cast (st' := [(.int (if (mkcs p1) = (mkcs p1) ∧ (mkcs p2) = (mkcs p4) then 1 else 0))]) rfl ?_
            refine r_iload at_163 rfl rfl ?_
            refine r_icmpne (pc2 := 172) at_165 rfl rfl (fun cc => absurd (if_neg (fun z => by rw [if_pos z.1] at c367; exact absurd c367 (by decide))) cc) (fun _ => ?_)
            refine r_iconst (v := 1) at_168 rfl rfl ?_
            refine r_goto (pc' := 173) at_169 rfl ?_
            exact r_ireturnN (t := .boolean) at_173 rfl (by simp) rfl (by simp) (by decide) (by decide)
          · refine r_aload at_139 rfl rfl rfl ?_
            refine r_aload at_141 rfl rfl rfl ?_
            have ne379 : t12 ≠ b320 := Str.neB (Str.ext E322 SS315) A323 (wd27 hw)
            have ne380 : t12 ≠ a273 := Str.neB (Str.ext E322 SS315) (Exa.ext E322 (Exa.keep (Exa.ext E296 (Exa.keep (Str.exa SS276) KK286)) KK309)) (wd5 hw)
            have ne381 : t12 ≠ a284 := Str.neB (Str.ext E322 SS315) (Exa.ext E322 (Exa.keep (Exa.ext E296 (Str.exa SS287)) KK309)) (wd5 hw)
            have ne382 : @Ne Nat a11 b320 := by omega
            have G383 : Str Z h355 a11 t12 (mkcs p2) := (Str.keep (Str.ext E322 SS315) KK347 (ninS ne382 (ninS (Ne.symm ne332) (ninS (Ne.symm ne339) nin0))) (ninS ne379 (ninS ne380 (ninS ne381 nin0))))
            have A385 : Exa Z h355 a11 "java/lang/String" := (Exa.keep (Exa.ext E322 (Str.exa SS315)) KK347)
            refine r_virtual (y := (⟨"java/lang/String", "equals", "(Ljava/lang/Object;)Z"⟩ : MethodName)) (argsL := [(.ref a284)]) (rest := []) (W := 0) (kc := 0) (ks := 0) (wl := []) at_143 rfl (wd58 hw) (wd59 hw) (wd61 hw) (wd60 hw) (by decide) ⟨rfl, rfl⟩ A385 (lenOf pd_7 rfl) rfl rfl (Nat.le_of_ble_eq_true rfl) (pays_eq hw G383 SS353 (lat_mk p2) (lat_mk p4) (Nat.le_trans (len_mk _) (by decide)) (Nat.le_trans (len_mk _) (by decide)) SC nC (by decide) (by decide)) (fun v h' q => q.2 ▸ Keep.refl _ _) all0 (by decide) (by decide) ?_
            rintro _ h384 ⟨rfl, eqh⟩
            subst h384
            refine Run.cast (st' := [(.int (if (mkcs p2) = (mkcs p4) then 1 else 0))]) rfl ?_
            refine r_ifeq (pc2 := 153) at_146 rfl rfl (fun c386 => ?_) (fun c386 => ?_)
            · refine r_iconst (v := 0) at_153 rfl rfl ?_
              refine r_istore (l' := #[.val (.int p1), .val (.int p2), .val (.int p3), .val (.int p4), .val (.int p5), .val (.ref a1), .val (.ref a11), .val (.ref a273), .val (.ref a284), .val (.ref b294), .val (.ref b320), .val (.int (((p5.toUInt32 >>> ((2 : Int32) &&& 31).toUInt32).toInt32) &&& (3 : Int32))), .val (.int (0 : Int32))]) at_154 rfl rfl rfl ?_
              refine r_aload at_156 rfl rfl rfl ?_
              refine r_aload at_158 rfl rfl rfl ?_
              have A387 : Exa Z h355 b294 "com/example/nx1/nx1/HolderKey" := (Exa.keep (Exa.ext E322 EE310) KK347)
              have ne388 : @Ne Nat b294 b320 := by omega
              have F389 : Fld Z h355 b294 "com/example/nx1/nx1/HolderKey" "name" "Ljava/lang/String;" (.ref a1) := (Fld.keep (Fld.ext E322 FN311) KK347 (ninS ne388 (ninS (Ne.symm ne334) (ninS (Ne.symm ne341) nin0))))
              have F390 : Fld Z h355 b294 "com/example/nx1/nx1/HolderKey" "holder" "Ljava/lang/String;" (.ref a11) := (Fld.keep (Fld.ext E322 FO312) KK347 (ninS ne388 (ninS (Ne.symm ne334) (ninS (Ne.symm ne341) nin0))))
              have F391 : Fld Z h355 b294 "com/example/nx1/nx1/HolderKey" "hash" "I" (.int (hk (mkcs p1) (mkcs p2))) := (Fld.keep (Fld.ext E322 FK313) KK347 (ninS ne388 (ninS (Ne.symm ne334) (ninS (Ne.symm ne341) nin0))))
              refine r_virtual (y := (⟨"com/example/nx1/nx1/HolderKey", "equals", "(Ljava/lang/Object;)Z"⟩ : MethodName)) (argsL := [(.ref b320)]) (rest := []) (W := 0) (kc := 0) (ks := 0) (wl := []) at_160 rfl (wd67 hw) (wd68 hw) (wd70 hw) (wd69 hw) (by decide) ⟨rfl, rfl⟩ A387 (lenOf pd_7 rfl) rfl rfl (Nat.le_of_ble_eq_true rfl) (Ok.pays (ok_ke hw b294 b320 (lat_mk p1) (lat_mk p2) (lat_mk p1) (lat_mk p4) (len_mk _) (len_mk _) (len_mk _) (len_mk _) SC nC A387 F389 F390 F391 EE348 FN349 FO350 FK351 G364 G383 SS352 SS353) (wd71 hw) (wd28 hw) (by decide) (by decide)) (fun v h' q => q.2 ▸ Keep.refl _ _) all0 (by decide) (by decide) ?_
              rintro _ h392 ⟨rfl, eqh⟩
              subst h392
              refine Run.cast (st' := [(.int (if (mkcs p1) = (mkcs p1) ∧ (mkcs p2) = (mkcs p4) then 1 else 0))]) rfl ?_
              refine r_iload at_163 rfl rfl ?_
              refine r_icmpne (pc2 := 172) at_165 rfl rfl (fun cc => absurd (if_neg (fun z => by rw [if_pos z.2] at c386; exact absurd c386 (by decide))) cc) (fun _ => ?_)
              refine r_iconst (v := 1) at_168 rfl rfl ?_
              refine r_goto (pc' := 173) at_169 rfl ?_
              exact r_ireturnN (t := .boolean) at_173 rfl (by simp) rfl (by simp) (by decide) (by decide)
            · refine r_iconst (v := 1) at_149 rfl rfl ?_
              refine r_goto (pc' := 154) at_150 rfl ?_
              refine r_istore (l' := #[.val (.int p1), .val (.int p2), .val (.int p3), .val (.int p4), .val (.int p5), .val (.ref a1), .val (.ref a11), .val (.ref a273), .val (.ref a284), .val (.ref b294), .val (.ref b320), .val (.int (((p5.toUInt32 >>> ((2 : Int32) &&& 31).toUInt32).toInt32) &&& (3 : Int32))), .val (.int (1 : Int32))]) at_154 rfl rfl rfl ?_
              refine r_aload at_156 rfl rfl rfl ?_
              refine r_aload at_158 rfl rfl rfl ?_
              have A393 : Exa Z h355 b294 "com/example/nx1/nx1/HolderKey" := (Exa.keep (Exa.ext E322 EE310) KK347)
              have ne394 : @Ne Nat b294 b320 := by omega
              have F395 : Fld Z h355 b294 "com/example/nx1/nx1/HolderKey" "name" "Ljava/lang/String;" (.ref a1) := (Fld.keep (Fld.ext E322 FN311) KK347 (ninS ne394 (ninS (Ne.symm ne334) (ninS (Ne.symm ne341) nin0))))
              have F396 : Fld Z h355 b294 "com/example/nx1/nx1/HolderKey" "holder" "Ljava/lang/String;" (.ref a11) := (Fld.keep (Fld.ext E322 FO312) KK347 (ninS ne394 (ninS (Ne.symm ne334) (ninS (Ne.symm ne341) nin0))))
              have F397 : Fld Z h355 b294 "com/example/nx1/nx1/HolderKey" "hash" "I" (.int (hk (mkcs p1) (mkcs p2))) := (Fld.keep (Fld.ext E322 FK313) KK347 (ninS ne394 (ninS (Ne.symm ne334) (ninS (Ne.symm ne341) nin0))))
              refine r_virtual (y := (⟨"com/example/nx1/nx1/HolderKey", "equals", "(Ljava/lang/Object;)Z"⟩ : MethodName)) (argsL := [(.ref b320)]) (rest := []) (W := 0) (kc := 0) (ks := 0) (wl := []) at_160 rfl (wd67 hw) (wd68 hw) (wd70 hw) (wd69 hw) (by decide) ⟨rfl, rfl⟩ A393 (lenOf pd_7 rfl) rfl rfl (Nat.le_of_ble_eq_true rfl) (Ok.pays (ok_ke hw b294 b320 (lat_mk p1) (lat_mk p2) (lat_mk p1) (lat_mk p4) (len_mk _) (len_mk _) (len_mk _) (len_mk _) SC nC A393 F395 F396 F397 EE348 FN349 FO350 FK351 G364 G383 SS352 SS353) (wd71 hw) (wd28 hw) (by decide) (by decide)) (fun v h' q => q.2 ▸ Keep.refl _ _) all0 (by decide) (by decide) ?_
              rintro _ h398 ⟨rfl, eqh⟩
              subst h398
              refine Run.cast (st' := [(.int (if (mkcs p1) = (mkcs p1) ∧ (mkcs p2) = (mkcs p4) then 1 else 0))]) rfl ?_
              refine r_iload at_163 rfl rfl ?_
              refine r_icmpne (pc2 := 172) at_165 rfl rfl (fun cc => absurd (if_pos ⟨Classical.byContradiction fun z => c367 (by rw [if_neg z]), Classical.byContradiction fun z => c386 (by rw [if_neg z])⟩) cc) (fun _ => ?_)
              refine r_iconst (v := 1) at_168 rfl rfl ?_
              refine r_goto (pc' := 173) at_169 rfl ?_
              exact r_ireturnN (t := .boolean) at_173 rfl (by simp) rfl (by simp) (by decide) (by decide)
        · refine r_aload at_113 rfl rfl rfl ?_
          refine r_aload at_115 rfl rfl rfl ?_
          have A399 : Exa Z h355 a1 "java/lang/String" := (Exa.keep (Exa.ext E322 (Str.exa SS314)) KK347)
          have A401 : Exa Z h355 b294 "com/example/nx1/nx1/HolderKey" := (Exa.keep (Exa.ext E322 EE310) KK347)
          refine r_virtual (y := (⟨"com/example/nx1/nx1/HolderKey", "equals", "(Ljava/lang/Object;)Z"⟩ : MethodName)) (argsL := [(.ref a1)]) (rest := []) (W := 0) (kc := 0) (ks := 0) (wl := []) at_117 rfl (wd67 hw) (wd68 hw) (wd70 hw) (wd69 hw) (by decide) ⟨rfl, rfl⟩ A401 (lenOf pd_7 rfl) rfl rfl (Nat.le_of_ble_eq_true rfl) (Ok.pays (ok_kes hw b294 a1 A399) (wd71 hw) (wd28 hw) (by decide) (by decide)) (fun v h' q => q.2 ▸ Keep.refl _ _) all0 (by decide) (by decide) ?_
          rintro _ h400 ⟨rfl, eqh⟩
          subst h400
          refine Run.cast (st' := [(.int (0 : Int32))]) rfl ?_
          refine r_ifne (pc2 := 127) at_120 rfl rfl (fun cc => absurd rfl cc) (fun _ => ?_)
          refine r_iconst (v := 1) at_123 rfl rfl ?_
          refine r_goto (pc' := 128) at_124 rfl ?_
          exact r_ireturnN (t := .boolean) at_128 rfl (by simp) rfl (by simp) (by decide) (by decide)
      · refine r_aload at_92 rfl rfl rfl ?_
        refine r_aconst at_94 rfl ?_
        have A403 : Exa Z h355 b294 "com/example/nx1/nx1/HolderKey" := (Exa.keep (Exa.ext E322 EE310) KK347)
        refine r_virtual (y := (⟨"com/example/nx1/nx1/HolderKey", "equals", "(Ljava/lang/Object;)Z"⟩ : MethodName)) (argsL := [.null]) (rest := []) (W := 0) (kc := 0) (ks := 0) (wl := []) at_95 rfl (wd67 hw) (wd68 hw) (wd70 hw) (wd69 hw) (by decide) ⟨rfl, rfl⟩ A403 (lenOf pd_7 rfl) rfl rfl (Nat.le_of_ble_eq_true rfl) (Ok.pays (ok_ken hw b294) (wd71 hw) (wd28 hw) (by decide) (by decide)) (fun v h' q => q.2 ▸ Keep.refl _ _) all0 (by decide) (by decide) ?_
        rintro _ h402 ⟨rfl, eqh⟩
        subst h402
        refine Run.cast (st' := [(.int (0 : Int32))]) rfl ?_
        refine r_ifne (pc2 := 105) at_98 rfl rfl (fun cc => absurd rfl cc) (fun _ => ?_)
        refine r_iconst (v := 1) at_101 rfl rfl ?_
        refine r_goto (pc' := 106) at_102 rfl ?_
        exact r_ireturnN (t := .boolean) at_106 rfl (by simp) rfl (by simp) (by decide) (by decide)
    · refine r_iloadN at_39 rfl rfl ?_
      refine r_staticW (y := (⟨"com/example/nx1/nx1/HolderKeyEqualsPinLaw", "mk", "(I)Ljava/lang/String;"⟩ : MethodName)) (argsL := [(.int p2)]) (rest := []) (W := 0) (kc := 6) (ks := 12) (wl := []) rfl at_40 rfl (wd0 hw) (wd1 hw) (wd2 hw) (wd3 hw) (by decide) (lenOf pd_8 rfl) rfl rfl (Nat.le_of_ble_eq_true rfl) (Ok.paysW (ok_mk hw p2 SC nC) (wd3 hw) (wd2 hw) (by decide) (by decide)) (by simp) (fun v h' q => by obtain ⟨_, _, _, K, _⟩ := q; exact K) all0 (by decide) (by decide) ?_
      rintro _ h411 ⟨a404, t405, rfl, KK406, hge410, SS407, FH408, FZ409⟩
      refine Run.forget (My' := [a404, a273, a11, a1]) (by simp [refs]) ?_
      refine Run.cast (st' := [(.ref a404)]) rfl ?_
      have szh411 := KK406.1
      have lt412 : @LT.lt Nat instLTNat a404 (Array.size h411) := (Str.lt SS407)
      have lt413 : @LT.lt Nat instLTNat t405 (Array.size h411) := (Str.ltB SS407)
      have gga404 : n0 ≤ a404 := by omega
      refine r_goto (pc' := 50) at_43 rfl ?_
      refine r_astore (l' := #[.val (.int p1), .val (.int p2), .val (.int p3), .val (.int p4), .val (.int p5), .val (.ref a1), .val (.ref a11), .val (.ref a273), .val (.ref a404), .unset, .unset, .unset, .unset]) at_50 rfl rfl rfl rfl ?_
      refine r_new at_52 rfl (wd26 hw) (wd27 hw) (wd28 hw) (by decide) (by decide) ?_
      intro h415 b414 gb414 ltb414 E416 A417 D418 U419
      have szh415 := E416.1
      have geb414 : n0 ≤ b414 := by omega
      have F420 : Fld Z h415 b414 "com/example/nx1/nx1/HolderKey" "name" "Ljava/lang/String;" .null := D418 (Or.inr (wd34 hw)) (ty := (.object "java/lang/String")) (by decide)
      have F421 : Fld Z h415 b414 "com/example/nx1/nx1/HolderKey" "holder" "Ljava/lang/String;" .null := D418 (Or.inr (wd36 hw)) (ty := (.object "java/lang/String")) (by decide)
      have F422 : Fld Z h415 b414 "com/example/nx1/nx1/HolderKey" "hash" "I" (.int (0 : Int32)) := D418 (Or.inr (wd57 hw)) (ty := .int) (by decide)
      refine r_dup at_55 rfl rfl ?_
      refine r_aload at_56 rfl rfl rfl ?_
      refine r_aload at_58 rfl rfl rfl ?_
      have G423 : Str Z h415 a1 t2 (mkcs p1) := (Str.ext E416 (Str.keep (Str.keep (Str.keep SS4 KK13 nin0 nin0) KK275 nin0 nin0) KK406 nin0 nin0))
      have G424 : Str Z h415 a11 t12 (mkcs p2) := (Str.ext E416 (Str.keep (Str.keep SS14 KK275 nin0 nin0) KK406 nin0 nin0))
      have F425 : Fld Z h415 a1 "java/lang/String" "hash" "I" (.int (0 : Int32)) := (Fld.ext E416 (Fld.keep (Fld.keep (Fld.keep FH5 KK13 nin0) KK275 nin0) KK406 nin0))
      have F426 : Fld Z h415 a1 "java/lang/String" "hashIsZero" "Z" (.int (0 : Int32)) := (Fld.ext E416 (Fld.keep (Fld.keep (Fld.keep FZ6 KK13 nin0) KK275 nin0) KK406 nin0))
      have F427 : Fld Z h415 a11 "java/lang/String" "hash" "I" (.int (0 : Int32)) := (Fld.ext E416 (Fld.keep (Fld.keep FH15 KK275 nin0) KK406 nin0))
      have F428 : Fld Z h415 a11 "java/lang/String" "hashIsZero" "Z" (.int (0 : Int32)) := (Fld.ext E416 (Fld.keep (Fld.keep FZ16 KK275 nin0) KK406 nin0))
      have ne436 : @Ne Nat a1 a11 := by omega
      have A438 : Exa Z h415 a11 "java/lang/String" := (Exa.ext E416 (Exa.keep (Exa.keep (Str.exa SS14) KK275) KK406))
      have A439 : Exa Z h415 a1 "java/lang/String" := (Exa.ext E416 (Exa.keep (Exa.keep (Exa.keep (Str.exa SS4) KK13) KK275) KK406))
      refine r_special (y := (⟨"com/example/nx1/nx1/HolderKey", "<init>", "(Ljava/lang/String;Ljava/lang/String;)V"⟩ : MethodName)) (argsL := [(.ref a1), (.ref a11)]) (rest := [(.ref b414)]) (W := 1) (kc := 0) (ks := 0) (wl := [b414, a1, a11]) at_60 rfl rfl (wd29 hw) (wd30 hw) (wd31 hw) (by decide) (lenOf pd_9 rfl) rfl rfl (Nat.le_of_ble_eq_true rfl) (Ok.pays (ok_ki hw b414 a1 a11 t2 t12 (len_mk _) (len_mk _) SC nC geb414 gga1 gga11 ne436 A417 F420 F421 F422 G423 G424 F425 F426 F427 F428) (wd31 hw) (wd28 hw) (by decide) (by decide)) (fun v h' q => q.2.1) (allS ⟨geb414, (Sf.exa A417 (by decide) (by decide))⟩ (allS ⟨gga1, (Sf.my (by simp))⟩ (allS ⟨gga11, (Sf.my (by simp))⟩ all0))) (by decide) (by decide) ?_
      rintro _ h437 ⟨rfl, KK429, EE430, FN431, FO432, FK433, SS434, SS435⟩
      refine Run.cast (st' := [(.ref b414)]) rfl ?_
      have szh437 := KK429.1
      refine r_astore (l' := #[.val (.int p1), .val (.int p2), .val (.int p3), .val (.int p4), .val (.int p5), .val (.ref a1), .val (.ref a11), .val (.ref a273), .val (.ref a404), .val (.ref b414), .unset, .unset, .unset]) at_63 rfl rfl rfl rfl ?_
      refine r_new at_65 rfl (wd26 hw) (wd27 hw) (wd28 hw) (by decide) (by decide) ?_
      intro h441 b440 gb440 ltb440 E442 A443 D444 U445
      have szh441 := E442.1
      have geb440 : n0 ≤ b440 := by omega
      have F446 : Fld Z h441 b440 "com/example/nx1/nx1/HolderKey" "name" "Ljava/lang/String;" .null := D444 (Or.inr (wd34 hw)) (ty := (.object "java/lang/String")) (by decide)
      have F447 : Fld Z h441 b440 "com/example/nx1/nx1/HolderKey" "holder" "Ljava/lang/String;" .null := D444 (Or.inr (wd36 hw)) (ty := (.object "java/lang/String")) (by decide)
      have F448 : Fld Z h441 b440 "com/example/nx1/nx1/HolderKey" "hash" "I" (.int (0 : Int32)) := D444 (Or.inr (wd57 hw)) (ty := .int) (by decide)
      refine r_dup at_68 rfl rfl ?_
      refine r_aload at_69 rfl rfl rfl ?_
      refine r_aload at_71 rfl rfl rfl ?_
      have ne449 : t274 ≠ b414 := Str.neB (Str.ext E416 (Str.keep SS276 KK406 nin0 nin0)) A417 (wd27 hw)
      have ne450 : t274 ≠ a1 := Str.neB (Str.ext E416 (Str.keep SS276 KK406 nin0 nin0)) (Exa.ext E416 (Exa.keep (Exa.keep (Exa.keep (Str.exa SS4) KK13) KK275) KK406)) (wd5 hw)
      have ne451 : t274 ≠ a11 := Str.neB (Str.ext E416 (Str.keep SS276 KK406 nin0 nin0)) (Exa.ext E416 (Exa.keep (Exa.keep (Str.exa SS14) KK275) KK406)) (wd5 hw)
      have ne452 : @Ne Nat a273 a11 := by omega
      have ne453 : @Ne Nat a273 a1 := by omega
      have ne454 : @Ne Nat a273 b414 := by omega
      have G455 : Str Z h441 a273 t274 (mkcs p1) := (Str.ext E442 (Str.keep (Str.ext E416 (Str.keep SS276 KK406 nin0 nin0)) KK429 (ninS ne454 (ninS ne453 (ninS ne452 nin0))) (ninS ne449 (ninS ne450 (ninS ne451 nin0)))))
      have ne456 : t405 ≠ b414 := Str.neB (Str.ext E416 SS407) A417 (wd27 hw)
      have ne457 : t405 ≠ a1 := Str.neB (Str.ext E416 SS407) (Exa.ext E416 (Exa.keep (Exa.keep (Exa.keep (Str.exa SS4) KK13) KK275) KK406)) (wd5 hw)
      have ne458 : t405 ≠ a11 := Str.neB (Str.ext E416 SS407) (Exa.ext E416 (Exa.keep (Exa.keep (Str.exa SS14) KK275) KK406)) (wd5 hw)
      have ne459 : @Ne Nat a404 a11 := by omega
      have ne460 : @Ne Nat a404 a1 := by omega
      have ne461 : @Ne Nat a404 b414 := by omega
      have G462 : Str Z h441 a404 t405 (mkcs p2) := (Str.ext E442 (Str.keep (Str.ext E416 SS407) KK429 (ninS ne461 (ninS ne460 (ninS ne459 nin0))) (ninS ne456 (ninS ne457 (ninS ne458 nin0)))))
      have F463 : Fld Z h441 a273 "java/lang/String" "hash" "I" (.int (0 : Int32)) := (Fld.ext E442 (Fld.keep (Fld.ext E416 (Fld.keep FH277 KK406 nin0)) KK429 (ninS ne454 (ninS ne453 (ninS ne452 nin0)))))
      have F464 : Fld Z h441 a273 "java/lang/String" "hashIsZero" "Z" (.int (0 : Int32)) := (Fld.ext E442 (Fld.keep (Fld.ext E416 (Fld.keep FZ278 KK406 nin0)) KK429 (ninS ne454 (ninS ne453 (ninS ne452 nin0)))))
      have F465 : Fld Z h441 a404 "java/lang/String" "hash" "I" (.int (0 : Int32)) := (Fld.ext E442 (Fld.keep (Fld.ext E416 FH408) KK429 (ninS ne461 (ninS ne460 (ninS ne459 nin0)))))
      have F466 : Fld Z h441 a404 "java/lang/String" "hashIsZero" "Z" (.int (0 : Int32)) := (Fld.ext E442 (Fld.keep (Fld.ext E416 FZ409) KK429 (ninS ne461 (ninS ne460 (ninS ne459 nin0)))))
      have ne474 : @Ne Nat a273 a404 := by omega
      have A476 : Exa Z h441 a404 "java/lang/String" := (Exa.ext E442 (Exa.keep (Exa.ext E416 (Str.exa SS407)) KK429))
      have A477 : Exa Z h441 a273 "java/lang/String" := (Exa.ext E442 (Exa.keep (Exa.ext E416 (Exa.keep (Str.exa SS276) KK406)) KK429))
      refine r_special (y := (⟨"com/example/nx1/nx1/HolderKey", "<init>", "(Ljava/lang/String;Ljava/lang/String;)V"⟩ : MethodName)) (argsL := [(.ref a273), (.ref a404)]) (rest := [(.ref b440)]) (W := 1) (kc := 0) (ks := 0) (wl := [b440, a273, a404]) at_73 rfl rfl (wd29 hw) (wd30 hw) (wd31 hw) (by decide) (lenOf pd_9 rfl) rfl rfl (Nat.le_of_ble_eq_true rfl) (Ok.pays (ok_ki hw b440 a273 a404 t274 t405 (len_mk _) (len_mk _) SC nC geb440 gga273 gga404 ne474 A443 F446 F447 F448 G455 G462 F463 F464 F465 F466) (wd31 hw) (wd28 hw) (by decide) (by decide)) (fun v h' q => q.2.1) (allS ⟨geb440, (Sf.exa A443 (by decide) (by decide))⟩ (allS ⟨gga273, (Sf.my (by simp))⟩ (allS ⟨gga404, (Sf.my (by simp))⟩ all0))) (by decide) (by decide) ?_
      rintro _ h475 ⟨rfl, KK467, EE468, FN469, FO470, FK471, SS472, SS473⟩
      refine Run.cast (st' := [(.ref b440)]) rfl ?_
      have szh475 := KK467.1
      refine r_astore (l' := #[.val (.int p1), .val (.int p2), .val (.int p3), .val (.int p4), .val (.int p5), .val (.ref a1), .val (.ref a11), .val (.ref a273), .val (.ref a404), .val (.ref b414), .val (.ref b440), .unset, .unset]) at_76 rfl rfl rfl rfl ?_
      refine r_iload at_78 rfl rfl ?_
      refine r_iconst (v := 2) at_80 rfl rfl ?_
      refine r_iushr at_81 rfl ?_
      refine r_iconst (v := 3) at_82 rfl rfl ?_
      refine r_iand at_83 rfl ?_
      refine r_istore (l' := #[.val (.int p1), .val (.int p2), .val (.int p3), .val (.int p4), .val (.int p5), .val (.ref a1), .val (.ref a11), .val (.ref a273), .val (.ref a404), .val (.ref b414), .val (.ref b440), .val (.int (((p5.toUInt32 >>> ((2 : Int32) &&& 31).toUInt32).toInt32) &&& (3 : Int32))), .unset]) at_84 rfl rfl rfl ?_
      refine r_iload at_86 rfl rfl ?_
      refine r_iconst (v := 2) at_88 rfl rfl ?_
      refine r_icmpne (pc2 := 107) at_89 rfl rfl (fun c478 => ?_) (fun c478 => ?_)
      · refine r_iload at_107 rfl rfl ?_
        refine r_iconst (v := 3) at_109 rfl rfl ?_
        refine r_icmpne (pc2 := 129) at_110 rfl rfl (fun c479 => ?_) (fun c479 => ?_)
        · refine r_aload at_129 rfl rfl rfl ?_
          refine r_aload at_131 rfl rfl rfl ?_
          have ne480 : t2 ≠ b440 := Str.neB (Str.ext E442 SS434) A443 (wd27 hw)
          have ne481 : t2 ≠ a273 := Str.neB (Str.ext E442 SS434) (Exa.ext E442 (Exa.keep (Exa.ext E416 (Exa.keep (Str.exa SS276) KK406)) KK429)) (wd5 hw)
          have ne482 : t2 ≠ a404 := Str.neB (Str.ext E442 SS434) (Exa.ext E442 (Exa.keep (Exa.ext E416 (Str.exa SS407)) KK429)) (wd5 hw)
          have ne483 : @Ne Nat a1 b440 := by omega
          have G484 : Str Z h475 a1 t2 (mkcs p1) := (Str.keep (Str.ext E442 SS434) KK467 (ninS ne483 (ninS (Ne.symm ne453) (ninS (Ne.symm ne460) nin0))) (ninS ne480 (ninS ne481 (ninS ne482 nin0))))
          have A486 : Exa Z h475 a1 "java/lang/String" := (Exa.keep (Exa.ext E442 (Str.exa SS434)) KK467)
          refine r_virtual (y := (⟨"java/lang/String", "equals", "(Ljava/lang/Object;)Z"⟩ : MethodName)) (argsL := [(.ref a273)]) (rest := []) (W := 0) (kc := 0) (ks := 0) (wl := []) at_133 rfl (wd58 hw) (wd59 hw) (wd61 hw) (wd60 hw) (by decide) ⟨rfl, rfl⟩ A486 (lenOf pd_7 rfl) rfl rfl (Nat.le_of_ble_eq_true rfl) (pays_eq hw G484 SS472 (lat_mk p1) (lat_mk p1) (Nat.le_trans (len_mk _) (by decide)) (Nat.le_trans (len_mk _) (by decide)) SC nC (by decide) (by decide)) (fun v h' q => q.2 ▸ Keep.refl _ _) all0 (by decide) (by decide) ?_
          rintro _ h485 ⟨rfl, eqh⟩
          subst h485
          refine Run.cast (st' := [(.int (if (mkcs p1) = (mkcs p1) then 1 else 0))]) rfl ?_
          refine r_ifeq (pc2 := 153) at_136 rfl rfl (fun c487 => ?_) (fun c487 => ?_)
          · refine r_iconst (v := 0) at_153 rfl rfl ?_
            refine r_istore (l' := #[.val (.int p1), .val (.int p2), .val (.int p3), .val (.int p4), .val (.int p5), .val (.ref a1), .val (.ref a11), .val (.ref a273), .val (.ref a404), .val (.ref b414), .val (.ref b440), .val (.int (((p5.toUInt32 >>> ((2 : Int32) &&& 31).toUInt32).toInt32) &&& (3 : Int32))), .val (.int (0 : Int32))]) at_154 rfl rfl rfl ?_
            refine r_aload at_156 rfl rfl rfl ?_
            refine r_aload at_158 rfl rfl rfl ?_
            have A488 : Exa Z h475 b414 "com/example/nx1/nx1/HolderKey" := (Exa.keep (Exa.ext E442 EE430) KK467)
            have ne489 : @Ne Nat b414 b440 := by omega
            have F490 : Fld Z h475 b414 "com/example/nx1/nx1/HolderKey" "name" "Ljava/lang/String;" (.ref a1) := (Fld.keep (Fld.ext E442 FN431) KK467 (ninS ne489 (ninS (Ne.symm ne454) (ninS (Ne.symm ne461) nin0))))
            have F491 : Fld Z h475 b414 "com/example/nx1/nx1/HolderKey" "holder" "Ljava/lang/String;" (.ref a11) := (Fld.keep (Fld.ext E442 FO432) KK467 (ninS ne489 (ninS (Ne.symm ne454) (ninS (Ne.symm ne461) nin0))))
            have F492 : Fld Z h475 b414 "com/example/nx1/nx1/HolderKey" "hash" "I" (.int (hk (mkcs p1) (mkcs p2))) := (Fld.keep (Fld.ext E442 FK433) KK467 (ninS ne489 (ninS (Ne.symm ne454) (ninS (Ne.symm ne461) nin0))))
            have ne493 : t12 ≠ b440 := Str.neB (Str.ext E442 SS435) A443 (wd27 hw)
            have ne494 : t12 ≠ a273 := Str.neB (Str.ext E442 SS435) (Exa.ext E442 (Exa.keep (Exa.ext E416 (Exa.keep (Str.exa SS276) KK406)) KK429)) (wd5 hw)
            have ne495 : t12 ≠ a404 := Str.neB (Str.ext E442 SS435) (Exa.ext E442 (Exa.keep (Exa.ext E416 (Str.exa SS407)) KK429)) (wd5 hw)
            have ne496 : @Ne Nat a11 b440 := by omega
            have G497 : Str Z h475 a11 t12 (mkcs p2) := (Str.keep (Str.ext E442 SS435) KK467 (ninS ne496 (ninS (Ne.symm ne452) (ninS (Ne.symm ne459) nin0))) (ninS ne493 (ninS ne494 (ninS ne495 nin0))))
            refine r_virtual (y := (⟨"com/example/nx1/nx1/HolderKey", "equals", "(Ljava/lang/Object;)Z"⟩ : MethodName)) (argsL := [(.ref b440)]) (rest := []) (W := 0) (kc := 0) (ks := 0) (wl := []) at_160 rfl (wd67 hw) (wd68 hw) (wd70 hw) (wd69 hw) (by decide) ⟨rfl, rfl⟩ A488 (lenOf pd_7 rfl) rfl rfl (Nat.le_of_ble_eq_true rfl) (Ok.pays (ok_ke hw b414 b440 (lat_mk p1) (lat_mk p2) (lat_mk p1) (lat_mk p2) (len_mk _) (len_mk _) (len_mk _) (len_mk _) SC nC A488 F490 F491 F492 EE468 FN469 FO470 FK471 G484 G497 SS472 SS473) (wd71 hw) (wd28 hw) (by decide) (by decide)) (fun v h' q => q.2 ▸ Keep.refl _ _) all0 (by decide) (by decide) ?_
            rintro _ h498 ⟨rfl, eqh⟩
            subst h498
            refine Run.cast (st' := [(.int (if (mkcs p1) = (mkcs p1) ∧ (mkcs p2) = (mkcs p2) then 1 else 0))]) rfl ?_
            refine r_iload at_163 rfl rfl ?_
            refine r_icmpne (pc2 := 172) at_165 rfl rfl (fun cc => absurd (if_neg (fun z => by rw [if_pos z.1] at c487; exact absurd c487 (by decide))) cc) (fun _ => ?_)
            refine r_iconst (v := 1) at_168 rfl rfl ?_
            refine r_goto (pc' := 173) at_169 rfl ?_
            exact r_ireturnN (t := .boolean) at_173 rfl (by simp) rfl (by simp) (by decide) (by decide)
          · refine r_aload at_139 rfl rfl rfl ?_
            refine r_aload at_141 rfl rfl rfl ?_
            have ne499 : t12 ≠ b440 := Str.neB (Str.ext E442 SS435) A443 (wd27 hw)
            have ne500 : t12 ≠ a273 := Str.neB (Str.ext E442 SS435) (Exa.ext E442 (Exa.keep (Exa.ext E416 (Exa.keep (Str.exa SS276) KK406)) KK429)) (wd5 hw)
            have ne501 : t12 ≠ a404 := Str.neB (Str.ext E442 SS435) (Exa.ext E442 (Exa.keep (Exa.ext E416 (Str.exa SS407)) KK429)) (wd5 hw)
            have ne502 : @Ne Nat a11 b440 := by omega
            have G503 : Str Z h475 a11 t12 (mkcs p2) := (Str.keep (Str.ext E442 SS435) KK467 (ninS ne502 (ninS (Ne.symm ne452) (ninS (Ne.symm ne459) nin0))) (ninS ne499 (ninS ne500 (ninS ne501 nin0))))
            have A505 : Exa Z h475 a11 "java/lang/String" := (Exa.keep (Exa.ext E442 (Str.exa SS435)) KK467)
            refine r_virtual (y := (⟨"java/lang/String", "equals", "(Ljava/lang/Object;)Z"⟩ : MethodName)) (argsL := [(.ref a404)]) (rest := []) (W := 0) (kc := 0) (ks := 0) (wl := []) at_143 rfl (wd58 hw) (wd59 hw) (wd61 hw) (wd60 hw) (by decide) ⟨rfl, rfl⟩ A505 (lenOf pd_7 rfl) rfl rfl (Nat.le_of_ble_eq_true rfl) (pays_eq hw G503 SS473 (lat_mk p2) (lat_mk p2) (Nat.le_trans (len_mk _) (by decide)) (Nat.le_trans (len_mk _) (by decide)) SC nC (by decide) (by decide)) (fun v h' q => q.2 ▸ Keep.refl _ _) all0 (by decide) (by decide) ?_
            rintro _ h504 ⟨rfl, eqh⟩
            subst h504
            refine Run.cast (st' := [(.int (if (mkcs p2) = (mkcs p2) then 1 else 0))]) rfl ?_
            refine r_ifeq (pc2 := 153) at_146 rfl rfl (fun c506 => ?_) (fun c506 => ?_)
            · refine r_iconst (v := 0) at_153 rfl rfl ?_
              refine r_istore (l' := #[.val (.int p1), .val (.int p2), .val (.int p3), .val (.int p4), .val (.int p5), .val (.ref a1), .val (.ref a11), .val (.ref a273), .val (.ref a404), .val (.ref b414), .val (.ref b440), .val (.int (((p5.toUInt32 >>> ((2 : Int32) &&& 31).toUInt32).toInt32) &&& (3 : Int32))), .val (.int (0 : Int32))]) at_154 rfl rfl rfl ?_
              refine r_aload at_156 rfl rfl rfl ?_
              refine r_aload at_158 rfl rfl rfl ?_
              have A507 : Exa Z h475 b414 "com/example/nx1/nx1/HolderKey" := (Exa.keep (Exa.ext E442 EE430) KK467)
              have ne508 : @Ne Nat b414 b440 := by omega
              have F509 : Fld Z h475 b414 "com/example/nx1/nx1/HolderKey" "name" "Ljava/lang/String;" (.ref a1) := (Fld.keep (Fld.ext E442 FN431) KK467 (ninS ne508 (ninS (Ne.symm ne454) (ninS (Ne.symm ne461) nin0))))
              have F510 : Fld Z h475 b414 "com/example/nx1/nx1/HolderKey" "holder" "Ljava/lang/String;" (.ref a11) := (Fld.keep (Fld.ext E442 FO432) KK467 (ninS ne508 (ninS (Ne.symm ne454) (ninS (Ne.symm ne461) nin0))))
              have F511 : Fld Z h475 b414 "com/example/nx1/nx1/HolderKey" "hash" "I" (.int (hk (mkcs p1) (mkcs p2))) := (Fld.keep (Fld.ext E442 FK433) KK467 (ninS ne508 (ninS (Ne.symm ne454) (ninS (Ne.symm ne461) nin0))))
              refine r_virtual (y := (⟨"com/example/nx1/nx1/HolderKey", "equals", "(Ljava/lang/Object;)Z"⟩ : MethodName)) (argsL := [(.ref b440)]) (rest := []) (W := 0) (kc := 0) (ks := 0) (wl := []) at_160 rfl (wd67 hw) (wd68 hw) (wd70 hw) (wd69 hw) (by decide) ⟨rfl, rfl⟩ A507 (lenOf pd_7 rfl) rfl rfl (Nat.le_of_ble_eq_true rfl) (Ok.pays (ok_ke hw b414 b440 (lat_mk p1) (lat_mk p2) (lat_mk p1) (lat_mk p2) (len_mk _) (len_mk _) (len_mk _) (len_mk _) SC nC A507 F509 F510 F511 EE468 FN469 FO470 FK471 G484 G503 SS472 SS473) (wd71 hw) (wd28 hw) (by decide) (by decide)) (fun v h' q => q.2 ▸ Keep.refl _ _) all0 (by decide) (by decide) ?_
              rintro _ h512 ⟨rfl, eqh⟩
              subst h512
              refine Run.cast (st' := [(.int (if (mkcs p1) = (mkcs p1) ∧ (mkcs p2) = (mkcs p2) then 1 else 0))]) rfl ?_
              refine r_iload at_163 rfl rfl ?_
              refine r_icmpne (pc2 := 172) at_165 rfl rfl (fun cc => absurd (if_neg (fun z => by rw [if_pos z.2] at c506; exact absurd c506 (by decide))) cc) (fun _ => ?_)
              refine r_iconst (v := 1) at_168 rfl rfl ?_
              refine r_goto (pc' := 173) at_169 rfl ?_
              exact r_ireturnN (t := .boolean) at_173 rfl (by simp) rfl (by simp) (by decide) (by decide)
            · refine r_iconst (v := 1) at_149 rfl rfl ?_
              refine r_goto (pc' := 154) at_150 rfl ?_
              refine r_istore (l' := #[.val (.int p1), .val (.int p2), .val (.int p3), .val (.int p4), .val (.int p5), .val (.ref a1), .val (.ref a11), .val (.ref a273), .val (.ref a404), .val (.ref b414), .val (.ref b440), .val (.int (((p5.toUInt32 >>> ((2 : Int32) &&& 31).toUInt32).toInt32) &&& (3 : Int32))), .val (.int (1 : Int32))]) at_154 rfl rfl rfl ?_
              refine r_aload at_156 rfl rfl rfl ?_
              refine r_aload at_158 rfl rfl rfl ?_
              have A513 : Exa Z h475 b414 "com/example/nx1/nx1/HolderKey" := (Exa.keep (Exa.ext E442 EE430) KK467)
              have ne514 : @Ne Nat b414 b440 := by omega
              have F515 : Fld Z h475 b414 "com/example/nx1/nx1/HolderKey" "name" "Ljava/lang/String;" (.ref a1) := (Fld.keep (Fld.ext E442 FN431) KK467 (ninS ne514 (ninS (Ne.symm ne454) (ninS (Ne.symm ne461) nin0))))
              have F516 : Fld Z h475 b414 "com/example/nx1/nx1/HolderKey" "holder" "Ljava/lang/String;" (.ref a11) := (Fld.keep (Fld.ext E442 FO432) KK467 (ninS ne514 (ninS (Ne.symm ne454) (ninS (Ne.symm ne461) nin0))))
              have F517 : Fld Z h475 b414 "com/example/nx1/nx1/HolderKey" "hash" "I" (.int (hk (mkcs p1) (mkcs p2))) := (Fld.keep (Fld.ext E442 FK433) KK467 (ninS ne514 (ninS (Ne.symm ne454) (ninS (Ne.symm ne461) nin0))))
              refine r_virtual (y := (⟨"com/example/nx1/nx1/HolderKey", "equals", "(Ljava/lang/Object;)Z"⟩ : MethodName)) (argsL := [(.ref b440)]) (rest := []) (W := 0) (kc := 0) (ks := 0) (wl := []) at_160 rfl (wd67 hw) (wd68 hw) (wd70 hw) (wd69 hw) (by decide) ⟨rfl, rfl⟩ A513 (lenOf pd_7 rfl) rfl rfl (Nat.le_of_ble_eq_true rfl) (Ok.pays (ok_ke hw b414 b440 (lat_mk p1) (lat_mk p2) (lat_mk p1) (lat_mk p2) (len_mk _) (len_mk _) (len_mk _) (len_mk _) SC nC A513 F515 F516 F517 EE468 FN469 FO470 FK471 G484 G503 SS472 SS473) (wd71 hw) (wd28 hw) (by decide) (by decide)) (fun v h' q => q.2 ▸ Keep.refl _ _) all0 (by decide) (by decide) ?_
              rintro _ h518 ⟨rfl, eqh⟩
              subst h518
              refine Run.cast (st' := [(.int (if (mkcs p1) = (mkcs p1) ∧ (mkcs p2) = (mkcs p2) then 1 else 0))]) rfl ?_
              refine r_iload at_163 rfl rfl ?_
              refine r_icmpne (pc2 := 172) at_165 rfl rfl (fun cc => absurd (if_pos ⟨Classical.byContradiction fun z => c487 (by rw [if_neg z]), Classical.byContradiction fun z => c506 (by rw [if_neg z])⟩) cc) (fun _ => ?_)
              refine r_iconst (v := 1) at_168 rfl rfl ?_
              refine r_goto (pc' := 173) at_169 rfl ?_
              exact r_ireturnN (t := .boolean) at_173 rfl (by simp) rfl (by simp) (by decide) (by decide)
        · refine r_aload at_113 rfl rfl rfl ?_
          refine r_aload at_115 rfl rfl rfl ?_
          have A519 : Exa Z h475 a1 "java/lang/String" := (Exa.keep (Exa.ext E442 (Str.exa SS434)) KK467)
          have A521 : Exa Z h475 b414 "com/example/nx1/nx1/HolderKey" := (Exa.keep (Exa.ext E442 EE430) KK467)
          refine r_virtual (y := (⟨"com/example/nx1/nx1/HolderKey", "equals", "(Ljava/lang/Object;)Z"⟩ : MethodName)) (argsL := [(.ref a1)]) (rest := []) (W := 0) (kc := 0) (ks := 0) (wl := []) at_117 rfl (wd67 hw) (wd68 hw) (wd70 hw) (wd69 hw) (by decide) ⟨rfl, rfl⟩ A521 (lenOf pd_7 rfl) rfl rfl (Nat.le_of_ble_eq_true rfl) (Ok.pays (ok_kes hw b414 a1 A519) (wd71 hw) (wd28 hw) (by decide) (by decide)) (fun v h' q => q.2 ▸ Keep.refl _ _) all0 (by decide) (by decide) ?_
          rintro _ h520 ⟨rfl, eqh⟩
          subst h520
          refine Run.cast (st' := [(.int (0 : Int32))]) rfl ?_
          refine r_ifne (pc2 := 127) at_120 rfl rfl (fun cc => absurd rfl cc) (fun _ => ?_)
          refine r_iconst (v := 1) at_123 rfl rfl ?_
          refine r_goto (pc' := 128) at_124 rfl ?_
          exact r_ireturnN (t := .boolean) at_128 rfl (by simp) rfl (by simp) (by decide) (by decide)
      · refine r_aload at_92 rfl rfl rfl ?_
        refine r_aconst at_94 rfl ?_
        have A523 : Exa Z h475 b414 "com/example/nx1/nx1/HolderKey" := (Exa.keep (Exa.ext E442 EE430) KK467)
        refine r_virtual (y := (⟨"com/example/nx1/nx1/HolderKey", "equals", "(Ljava/lang/Object;)Z"⟩ : MethodName)) (argsL := [.null]) (rest := []) (W := 0) (kc := 0) (ks := 0) (wl := []) at_95 rfl (wd67 hw) (wd68 hw) (wd70 hw) (wd69 hw) (by decide) ⟨rfl, rfl⟩ A523 (lenOf pd_7 rfl) rfl rfl (Nat.le_of_ble_eq_true rfl) (Ok.pays (ok_ken hw b414) (wd71 hw) (wd28 hw) (by decide) (by decide)) (fun v h' q => q.2 ▸ Keep.refl _ _) all0 (by decide) (by decide) ?_
        rintro _ h522 ⟨rfl, eqh⟩
        subst h522
        refine Run.cast (st' := [(.int (0 : Int32))]) rfl ?_
        refine r_ifne (pc2 := 105) at_98 rfl rfl (fun cc => absurd rfl cc) (fun _ => ?_)
        refine r_iconst (v := 1) at_101 rfl rfl ?_
        refine r_goto (pc' := 106) at_102 rfl ?_
        exact r_ireturnN (t := .boolean) at_106 rfl (by simp) rfl (by simp) (by decide) (by decide)
set_option maxRecDepth 65536 in
set_option maxHeartbeats 40000000 in
theorem comes_1 {Post : Tables → Env → Array Value → State → Outcome → State → Prop} (hpost : ∀ tb e args s v u, (limb_1_1.after args s (.returned v) u = true ∧ limb_1_2.after args s (.returned v) u = true ∧ True) → Jvm.D.FramedW s (.returned v) u (Jvm.fieldLocs frame_1_writes args s ++ Jvm.arrayLocs frame_1_arrays args s ++ Jvm.staticLocs frame_1_statics s) 40 1216 → Post tb e args s (.returned v) u) :
    ArmFor flags0 classFile x code maxLocals ret World_1 tables_1 room_1 Calls_1 rest_1 Pre_1 Post := by
  intro l hfl _ _ p e ha hc hk s m args below hf hA hF happ hP
  obtain ⟨hcalls, hrest, hpre⟩ := hP
  obtain ⟨-, -, -, hnamed, -, -, -, hat⟩ := (Spec.applies_iff hf).mp happ
  obtain ⟨hg, hn⟩ := and_e (Cond.before_iff.mp (show (Jvm.Cond.and given_1 narrow_1).before args s = true from hpre))
  obtain ⟨gc, gr0⟩ := and_e hg
  obtain ⟨ga0, gr1⟩ := and_e gr0
  obtain ⟨ga1, gr2⟩ := and_e gr1
  obtain ⟨ga2, gr3⟩ := and_e gr2
  obtain ⟨ga3, gr4⟩ := and_e gr3
  obtain ⟨w0, w1, w2, w3, w4, rfl⟩ : ∃ w0 w1 w2 w3 w4 : Value, args = #[w0, w1, w2, w3, w4] := by
    have hs : args.size = 5 := by simpa [Cond.value, given_1] using gc
    obtain ⟨L⟩ := args
    match L, hs with
    | [w0, w1, w2, w3, w4], _ => exact ⟨w0, w1, w2, w3, w4, rfl⟩
  have hw := fun d (hd : d ∈ tables_1) => atoms_spec (ws := Jvm.Cond.code x code maxLocals ret :: tables_1) hat d (List.mem_cons_of_mem _ hd)
  have hfit : Fit s := fun {y c} hc i hi => by
    obtain ⟨ha, rfl⟩ := Array.getElem?_eq_some_iff.mp hc
    have q := List.all_eq_true.mp ((Array.all_eq_true_iff_forall_mem.mp hF) _ (Array.getElem_mem ha)) i (List.mem_range.mpr hi)
    simpa [Array.getElem?_eq_getElem hi] using q
  obtain ⟨hsets, hown0⟩ := atoms_of _ (rest_1_c_eq ▸ (show rest_1_c.before _ s = true from hrest))
  obtain ⟨i0, ei0⟩ := is_v ga0
  obtain rfl : w0 = (.int i0) := Option.some.inj ei0
  obtain ⟨i1, ei1⟩ := is_v ga1
  obtain rfl : w1 = (.int i1) := Option.some.inj ei1
  obtain ⟨i2, ei2⟩ := is_v ga2
  obtain rfl : w2 = (.int i2) := Option.some.inj ei2
  obtain ⟨i3, ei3⟩ := is_v ga3
  obtain rfl : w3 = (.int i3) := Option.some.inj ei3
  obtain ⟨i4, ei4⟩ := is_v gr4
  obtain rfl : w4 = (.int i4) := Option.some.inj ei4
  have n5 := not_v (Cond.before_iff.mp (hsets _ (List.mem_of_getElem? (i := 2) rfl)))
  obtain ⟨zC, eC⟩ := is_v (Cond.before_iff.mp (hsets _ (List.mem_of_getElem? (i := 1) rfl)))
  have SC : Sta s s.heap "java/lang/String" "COMPACT_STRINGS" "Z" (.int zC) := Sta.start eC (Or.inl (hsets _ (List.mem_of_getElem? (i := 0) rfl)))
  have nC : ¬ (zC = (0 : Int32)) := gotF (Cond.eq_ints eC (Term.int_eval (0))) n5
  obtain ⟨n, o, h1, h2, h3, v, L, rfl, rfl, N, hE⟩ := (ok_law hw i0 i1 i2 i3 i4 SC nC) tables_1 p e ha hc hk s m _ below hf ((Spec.applies_iff_loose hf).mp happ).1 ⟨rfl, State.Warmed39.refl s, rfl, Old.start s, fun _ => by
    have hEW : EW s _ consts_1 := (EW.cons (wd18 hw) (by decide) EW.nil)
    exact ⟨⟨_, hEW⟩, CHv.start hEW (fun p hp => hcalls.1 p hp) (hsets _ (List.mem_of_getElem? (i := 2) rfl)) (wd19 hw) (wd5 hw), fun x hx => nomatch hx⟩⟩ trivial
  have hq := (hE.2 rfl).1
  exact ⟨n, _, h1, h2, h3, hpost _ _ _ _ _ _ ⟨Cond.after_iff.mpr rfl, Cond.after_iff.mpr (eq_i res_at (Term.int_eval (1)) rfl), trivial⟩ ⟨hq.1, hq.2.1, hq.2.2.1, (hq.2.2.2.sift fun y hy => Or.inr (N y hy)).mono (by decide) (by decide)⟩⟩
theorem main_1_1 : Claimed_1_1 := comes_1 fun _ _ _ _ _ _ h hF => ⟨h.1, hF⟩
theorem main_1_2 : Claimed_1_2 := comes_1 fun _ _ _ _ _ _ h hF => ⟨h.2.1, hF⟩
end Jvm.Pilot.@@N@@
namespace Jvm.Pilot.@@N@@
open Jvm Jvm.ClassFile Sem Op Lib Jvm.Free Jvm.Stand Jvm.Pilot.@@N@@.Jvm.D
/-! MADE BY PROGRAM (witnessworld.py) out of the Statement's table words and the real class files: 20 classes; the members and pool entries that the words name. The judged class is class 1, her method 2. -/
namespace start1
open Jvm.ClassFile
def u (s : String) : CpInfo := .utf8 (stringToUtf16 s)
/-- a pool by its gaps: so many unusable entries, then the entry; so many at the end -/
def gap : Nat → List CpInfo → List CpInfo
  | 0, r => r
  | n + 1, r => .unusable :: gap n r
def poolList (es : List (Nat × CpInfo)) (last : Nat) : List CpInfo := es.foldr (fun e r => gap e.1 (e.2 :: r)) (gap last [])
def pool (es : List (Nat × CpInfo)) (last : Nat) : Array CpInfo := ⟨poolList es last⟩
def fileOf (pool : Array CpInfo) (this : Nat) (attrs : Array Attribute := #[]) (ms : Array MethodInfo := #[]) (fl : Nat := 33) (sup : Nat := 0) (ifs : Array Nat := #[]) (fds : Array FieldInfo := #[]) : ClassFile where
  minorVersion := 0
  majorVersion := 65
  constantPool := pool
  accessFlags := fl
  thisClass := this
  superClass := sup
  interfaces := ifs
  fields := fds
  methods := ms
  attributes := attrs
def plain (name : String) (sup : Option ClassId) : Class where
  name := name
  kind := .ordinary
  loader := none
  accessFlags := 33
  super := sup
  interfaces := #[]
  cf := none
  fields := #[]
  methods := #[]
  instanceTypes := #[]
  staticTypes := #[]
  resolved := #[]
  callSites := []
  init := .initialized
  statics := none
  mirror := none

def pool0 : Array CpInfo := pool [(5, u "<init>"), (0, u "()V"), (1, .class_ 10), (1, u "java/lang/Object")] 113

def k0c0 : Code := { maxStack := 0, maxLocals := 1, code := object_method_1_code, exceptionTable := #[], attributes := #[] }
def k0m0 : Method := { name := "<init>", desc := "()V", sig := { parameters := [], returnType := none }, accessFlags := 1, code := some k0c0 }
/-- java/lang/Object -/
def k0 : Class := { plain "java/lang/Object" none with
  accessFlags := 33
  interfaces := #[]
  cf := some (fileOf pool0 8 #[] #[{ accessFlags := 1, nameIndex := 5, descriptorIndex := 6, attributes := #[] }] 33 0 #[] #[])
  fields := #[]
  methods := #[k0m0]
  instanceTypes := #[]
  staticTypes := #[]
  resolved := Array.replicate 124 none
  statics := none }

def pool1 : Array CpInfo := pool [(2, .class_ 4), (1, u "java/lang/Object"), (0, u "<init>"), (0, u "()V"), (0, .class_ 8), (0, u "java/lang/String"), (0, .methodref 7 10), (0, .nameAndType 5 11), (0, u "([C)V"), (0, .methodref 13 14), (0, .class_ 15), (0, .nameAndType 16 17), (0, u "com/example/nx1/nx1/HolderKeyEqualsPinLaw"), (0, u "mk"), (0, u "(I)Ljava/lang/String;"), (0, .class_ 19), (0, u "com/example/nx1/nx1/HolderKey"), (0, .methodref 18 21), (0, .nameAndType 5 22), (0, u "(Ljava/lang/String;Ljava/lang/String;)V"), (0, .methodref 18 24), (0, .nameAndType 25 26), (0, u "equals"), (0, u "(Ljava/lang/Object;)Z"), (0, .methodref 7 24), (3, u "law"), (0, u "(IIIII)Z")] 2

def k1m0 : Method := { name := "<init>", desc := "()V", sig := { parameters := [], returnType := none }, accessFlags := 1, code := none }
def k1c1 : Code := { maxStack := 6, maxLocals := 5, code := method_2_code, exceptionTable := #[], attributes := #[] }
def k1m1 : Method := { name := "mk", desc := "(I)Ljava/lang/String;", sig := { parameters := [.int], returnType := some (.object "java/lang/String") }, accessFlags := 10, code := some k1c1 }
def k1c2 : Code := { maxStack := 4, maxLocals := 13, code := code, exceptionTable := #[], attributes := #[] }
def k1m2 : Method := { name := "law", desc := "(IIIII)Z", sig := { parameters := [.int, .int, .int, .int, .int], returnType := some .boolean }, accessFlags := 9, code := some k1c2 }
/-- com/example/nx1/nx1/HolderKeyEqualsPinLaw -/
def k1 : Class := { plain "com/example/nx1/nx1/HolderKeyEqualsPinLaw" (some 0) with
  accessFlags := 49
  interfaces := #[]
  cf := some (fileOf pool1 13 #[] #[{ accessFlags := 1, nameIndex := 5, descriptorIndex := 6, attributes := #[] }, { accessFlags := 10, nameIndex := 16, descriptorIndex := 17, attributes := #[] }, { accessFlags := 9, nameIndex := 31, descriptorIndex := 32, attributes := #[] }] 49 2 #[] #[])
  fields := #[]
  methods := #[k1m0, k1m1, k1m2]
  instanceTypes := #[]
  staticTypes := #[]
  resolved := Array.replicate 35 none
  statics := none }

def pool2 : Array CpInfo := pool [(1, .class_ 2), (0, u "java/io/Serializable"), (0, .class_ 4), (0, u "java/lang/Object")] 2

/-- java/io/Serializable -/
def k2 : Class := { plain "java/io/Serializable" (some 0) with
  accessFlags := 1537
  interfaces := #[]
  cf := some (fileOf pool2 1 #[] #[] 1537 3 #[] #[])
  fields := #[]
  methods := #[]
  instanceTypes := #[]
  staticTypes := #[]
  resolved := Array.replicate 7 none
  statics := none }

def pool3 : Array CpInfo := pool [(1, .class_ 2), (0, u "java/lang/Comparable"), (0, .class_ 4), (0, u "java/lang/Object")] 7

/-- java/lang/Comparable -/
def k3 : Class := { plain "java/lang/Comparable" (some 0) with
  accessFlags := 1537
  interfaces := #[]
  cf := some (fileOf pool3 1 #[] #[] 1537 3 #[] #[])
  fields := #[]
  methods := #[]
  instanceTypes := #[]
  staticTypes := #[]
  resolved := Array.replicate 12 none
  statics := none }

def pool4 : Array CpInfo := pool [(2, .class_ 4), (1, u "java/lang/CharSequence"), (42, .class_ 48), (0, u "java/lang/CharSequence$1CodePointIterator"), (10, .class_ 60), (0, u "java/lang/CharSequence$1CharIterator"), (5, .class_ 67), (0, u "java/lang/Object")] 63

/-- java/lang/CharSequence -/
def k4 : Class := { plain "java/lang/CharSequence" (some 0) with
  accessFlags := 1537
  interfaces := #[]
  cf := some (fileOf pool4 2 #[.nestMembers #[47, 59]] #[] 1537 66 #[] #[])
  fields := #[]
  methods := #[]
  instanceTypes := #[]
  staticTypes := #[]
  resolved := Array.replicate 131 none
  statics := none }

def pool5 : Array CpInfo := pool [(1, .class_ 2), (0, u "java/lang/constant/Constable"), (0, .class_ 4), (0, u "java/lang/Object")] 6

/-- java/lang/constant/Constable -/
def k5 : Class := { plain "java/lang/constant/Constable" (some 0) with
  accessFlags := 1537
  interfaces := #[]
  cf := some (fileOf pool5 1 #[] #[] 1537 3 #[] #[])
  fields := #[]
  methods := #[]
  instanceTypes := #[]
  staticTypes := #[]
  resolved := Array.replicate 11 none
  statics := none }

def pool6 : Array CpInfo := pool [(1, .class_ 2), (0, u "java/lang/constant/ConstantDesc"), (0, .class_ 4), (0, u "java/lang/Object")] 32

/-- java/lang/constant/ConstantDesc -/
def k6 : Class := { plain "java/lang/constant/ConstantDesc" (some 0) with
  accessFlags := 1537
  interfaces := #[]
  cf := some (fileOf pool6 1 #[] #[] 1537 3 #[] #[])
  fields := #[]
  methods := #[]
  instanceTypes := #[]
  staticTypes := #[]
  resolved := Array.replicate 37 none
  statics := none }

def pool7 : Array CpInfo := pool [(1, .methodref 2 3), (0, .class_ 4), (0, .nameAndType 5 6), (0, u "java/lang/Object"), (0, u "<init>"), (0, u "()V"), (0, .string 8), (0, u ""), (0, .fieldref 10 11), (0, .class_ 12), (0, .nameAndType 13 14), (0, u "java/lang/String"), (0, u "value"), (0, u "[B"), (0, .fieldref 10 16), (0, .nameAndType 17 18), (0, u "coder"), (0, u "B"), (0, .fieldref 10 20), (0, .nameAndType 21 22), (0, u "hash"), (0, u "I"), (0, .fieldref 10 24), (0, .nameAndType 25 26), (0, u "hashIsZero"), (0, u "Z"), (0, .methodref 10 28), (0, .nameAndType 5 29), (0, u "([CIILjava/lang/Void;)V"), (8, .fieldref 10 39), (0, .nameAndType 40 26), (0, u "COMPACT_STRINGS"), (1, .class_ 44), (1, u "java/lang/StringUTF16"), (0, u "compress"), (1, .methodref 42 48), (0, .nameAndType 49 50), (0, u "coderFromArrayLen"), (0, u "([BI)B"), (56, .class_ 109), (1, u "java/lang/StringLatin1"), (32, u "()Z"), (34, .methodref 42 178), (0, .nameAndType 45 179), (0, u "([CII)[B"), (154, u "()I"), (157, .methodref 10 493), (0, .nameAndType 494 142), (0, u "isLatin1"), (46, .methodref 107 542), (0, .nameAndType 543 544), (0, u "equals"), (0, u "([B[B)Z"), (28, u "(Ljava/lang/Object;)Z"), (1, .class_ 576), (0, u "java/lang/CharSequence"), (22, u "CASE_INSENSITIVE_ORDER"), (0, u "Ljava/util/Comparator;"), (27, .methodref 107 629), (0, .nameAndType 630 631), (0, u "hashCode"), (0, u "([B)I"), (378, u "([C)V"), (90, u "serialPersistentFields"), (0, u "[Ljava/io/ObjectStreamField;"), (0, .class_ 1104), (0, u "java/lang/String$CaseInsensitiveComparator"), (1, .class_ 1107), (0, u "java/io/Serializable"), (0, .class_ 1109), (0, u "java/lang/Comparable"), (0, .class_ 1111), (0, u "java/lang/constant/Constable"), (0, .class_ 1113), (0, u "java/lang/constant/ConstantDesc"), (2, u "serialVersionUID"), (0, u "J"), (3, u "REPL"), (0, u "C"), (2, u "LATIN1"), (1, u "UTF16")] 323

def k7m0 : Method := { name := "<init>", desc := "()V", sig := { parameters := [], returnType := none }, accessFlags := 1, code := none }
def k7c1 : Code := { maxStack := 5, maxLocals := 2, code := jdk_42_method_3_code, exceptionTable := #[], attributes := #[] }
def k7m1 : Method := { name := "<init>", desc := "([C)V", sig := { parameters := [(.array .char)], returnType := none }, accessFlags := 1, code := some k7c1 }
def k7c2 : Code := { maxStack := 2, maxLocals := 3, code := jdk_42_method_66_code, exceptionTable := #[], attributes := #[] }
def k7m2 : Method := { name := "equals", desc := "(Ljava/lang/Object;)Z", sig := { parameters := [(.object "java/lang/Object")], returnType := some .boolean }, accessFlags := 1, code := some k7c2 }
def k7c3 : Code := { maxStack := 2, maxLocals := 2, code := jdk_42_method_78_code, exceptionTable := #[], attributes := #[] }
def k7m3 : Method := { name := "hashCode", desc := "()I", sig := { parameters := [], returnType := some .int }, accessFlags := 1, code := some k7c3 }
def k7c4 : Code := { maxStack := 4, maxLocals := 6, code := jdk_42_method_149_code, exceptionTable := #[], attributes := #[] }
def k7m4 : Method := { name := "<init>", desc := "([CIILjava/lang/Void;)V", sig := { parameters := [(.array .char), .int, .int, (.object "java/lang/Void")], returnType := none }, accessFlags := 2, code := some k7c4 }
def k7c5 : Code := { maxStack := 1, maxLocals := 1, code := jdk_42_method_154_code, exceptionTable := #[], attributes := #[] }
def k7m5 : Method := { name := "isLatin1", desc := "()Z", sig := { parameters := [], returnType := some .boolean }, accessFlags := 0, code := some k7c5 }
/-- java/lang/String -/
def k7 : Class := { plain "java/lang/String" (some 0) with
  accessFlags := 49
  interfaces := #[2, 3, 4, 5, 6]
  cf := some (fileOf pool7 10 #[.nestMembers #[1103]] #[{ accessFlags := 1, nameIndex := 5, descriptorIndex := 6, attributes := #[] }, { accessFlags := 1, nameIndex := 5, descriptorIndex := 1010, attributes := #[] }, { accessFlags := 1, nameIndex := 543, descriptorIndex := 573, attributes := #[] }, { accessFlags := 1, nameIndex := 630, descriptorIndex := 334, attributes := #[] }, { accessFlags := 2, nameIndex := 5, descriptorIndex := 29, attributes := #[] }, { accessFlags := 0, nameIndex := 494, descriptorIndex := 142, attributes := #[] }] 49 2 #[1106, 1108, 575, 1110, 1112] #[{ accessFlags := 18, nameIndex := 13, descriptorIndex := 14, attributes := #[] }, { accessFlags := 18, nameIndex := 17, descriptorIndex := 18, attributes := #[] }, { accessFlags := 2, nameIndex := 21, descriptorIndex := 22, attributes := #[] }, { accessFlags := 2, nameIndex := 25, descriptorIndex := 26, attributes := #[] }, { accessFlags := 26, nameIndex := 1116, descriptorIndex := 1117, attributes := #[] }, { accessFlags := 24, nameIndex := 40, descriptorIndex := 26, attributes := #[] }, { accessFlags := 26, nameIndex := 1101, descriptorIndex := 1102, attributes := #[] }, { accessFlags := 26, nameIndex := 1121, descriptorIndex := 1122, attributes := #[] }, { accessFlags := 25, nameIndex := 599, descriptorIndex := 600, attributes := #[] }, { accessFlags := 24, nameIndex := 1125, descriptorIndex := 18, attributes := #[] }, { accessFlags := 24, nameIndex := 1127, descriptorIndex := 18, attributes := #[] }])
  fields := #[{ name := "value", type := (.array .byte), accessFlags := 18, slot := 0, constantValue := 0 }, { name := "coder", type := .byte, accessFlags := 18, slot := 1, constantValue := 0 }, { name := "hash", type := .int, accessFlags := 2, slot := 2, constantValue := 0 }, { name := "hashIsZero", type := .boolean, accessFlags := 2, slot := 3, constantValue := 0 }, { name := "serialVersionUID", type := .long, accessFlags := 26, slot := 0, constantValue := 0 }, { name := "COMPACT_STRINGS", type := .boolean, accessFlags := 24, slot := 1, constantValue := 0 }, { name := "serialPersistentFields", type := (.array (.object "java/io/ObjectStreamField")), accessFlags := 26, slot := 2, constantValue := 0 }, { name := "REPL", type := .char, accessFlags := 26, slot := 3, constantValue := 0 }, { name := "CASE_INSENSITIVE_ORDER", type := (.object "java/util/Comparator"), accessFlags := 25, slot := 4, constantValue := 0 }, { name := "LATIN1", type := .byte, accessFlags := 24, slot := 5, constantValue := 0 }, { name := "UTF16", type := .byte, accessFlags := 24, slot := 6, constantValue := 0 }]
  methods := #[k7m0, k7m1, k7m2, k7m3, k7m4, k7m5]
  instanceTypes := #[(.array .byte), .byte, .int, .boolean]
  staticTypes := #[.long, .boolean, (.array (.object "java/io/ObjectStreamField")), .char, (.object "java/util/Comparator"), .byte, .byte]
  resolved := Array.replicate 1451 none
  statics := some 0 }

def pool8 : Array CpInfo := pool [(1, .methodref 2 3), (0, .class_ 4), (0, .nameAndType 5 6), (0, u "java/lang/Object"), (0, u "<init>"), (0, u "()V"), (0, .fieldref 8 9), (0, .class_ 10), (0, .nameAndType 11 12), (0, u "com/example/nx1/nx1/HolderKey"), (0, u "name"), (0, u "Ljava/lang/String;"), (0, .fieldref 8 14), (0, .nameAndType 15 12), (0, u "holder"), (0, .methodref 17 18), (0, .class_ 19), (0, .nameAndType 20 21), (0, u "java/lang/String"), (0, u "hashCode"), (0, u "()I"), (0, .fieldref 8 23), (0, .nameAndType 24 25), (0, u "hash"), (0, u "I"), (0, .methodref 17 27), (0, .nameAndType 28 29), (0, u "equals"), (0, u "(Ljava/lang/Object;)Z"), (0, u "(Ljava/lang/String;Ljava/lang/String;)V")] 7

def k8c0 : Code := { maxStack := 3, maxLocals := 3, code := prog_4_method_1_code, exceptionTable := #[], attributes := #[] }
def k8m0 : Method := { name := "<init>", desc := "(Ljava/lang/String;Ljava/lang/String;)V", sig := { parameters := [(.object "java/lang/String"), (.object "java/lang/String")], returnType := none }, accessFlags := 0, code := some k8c0 }
def k8c1 : Code := { maxStack := 2, maxLocals := 3, code := prog_4_method_3_code, exceptionTable := #[], attributes := #[] }
def k8m1 : Method := { name := "equals", desc := "(Ljava/lang/Object;)Z", sig := { parameters := [(.object "java/lang/Object")], returnType := some .boolean }, accessFlags := 1, code := some k8c1 }
/-- com/example/nx1/nx1/HolderKey -/
def k8 : Class := { plain "com/example/nx1/nx1/HolderKey" (some 0) with
  accessFlags := 32
  interfaces := #[]
  cf := some (fileOf pool8 8 #[] #[{ accessFlags := 0, nameIndex := 5, descriptorIndex := 30, attributes := #[] }, { accessFlags := 1, nameIndex := 28, descriptorIndex := 29, attributes := #[] }] 32 2 #[] #[{ accessFlags := 18, nameIndex := 11, descriptorIndex := 12, attributes := #[] }, { accessFlags := 18, nameIndex := 15, descriptorIndex := 12, attributes := #[] }, { accessFlags := 18, nameIndex := 24, descriptorIndex := 25, attributes := #[] }])
  fields := #[{ name := "name", type := (.object "java/lang/String"), accessFlags := 18, slot := 0, constantValue := 0 }, { name := "holder", type := (.object "java/lang/String"), accessFlags := 18, slot := 1, constantValue := 0 }, { name := "hash", type := .int, accessFlags := 18, slot := 2, constantValue := 0 }]
  methods := #[k8m0, k8m1]
  instanceTypes := #[(.object "java/lang/String"), (.object "java/lang/String"), .int]
  staticTypes := #[]
  resolved := Array.replicate 38 none
  statics := none }

def pool9 : Array CpInfo := pool [(4, .class_ 6), (1, u "java/lang/Object"), (0, u "<init>"), (0, u "()V"), (5, .class_ 16), (1, u "java/lang/StringLatin1"), (28, .class_ 47), (1, u "jdk/internal/util/ArraysSupport"), (9, u "([B)I"), (26, .methodref 45 85), (0, .nameAndType 86 87), (0, u "vectorizedHashCode"), (0, u "(Ljava/lang/Object;IIII)I"), (33, u "$assertionsDisabled"), (0, u "Z"), (98, .class_ 223), (1, u "java/lang/StringLatin1$LinesSpliterator"), (57, u "equals"), (0, u "([B[B)Z"), (15, u "hashCode"), (91, .class_ 391), (0, u "java/lang/StringLatin1$CharsSpliterator")] 3

def k9m0 : Method := { name := "<init>", desc := "()V", sig := { parameters := [], returnType := none }, accessFlags := 0, code := none }
def k9c1 : Code := { maxStack := 3, maxLocals := 3, code := jdk_43_method_13_code, exceptionTable := #[], attributes := #[] }
def k9m1 : Method := { name := "equals", desc := "([B[B)Z", sig := { parameters := [(.array .byte), (.array .byte)], returnType := some .boolean }, accessFlags := 9, code := some k9c1 }
def k9c2 : Code := { maxStack := 5, maxLocals := 1, code := jdk_43_method_21_code, exceptionTable := #[], attributes := #[] }
def k9m2 : Method := { name := "hashCode", desc := "([B)I", sig := { parameters := [(.array .byte)], returnType := some .int }, accessFlags := 9, code := some k9c2 }
/-- java/lang/StringLatin1 -/
def k9 : Class := { plain "java/lang/StringLatin1" (some 0) with
  accessFlags := 48
  interfaces := #[]
  cf := some (fileOf pool9 14 #[.nestMembers #[390, 221]] #[{ accessFlags := 0, nameIndex := 7, descriptorIndex := 8, attributes := #[] }, { accessFlags := 9, nameIndex := 281, descriptorIndex := 282, attributes := #[] }, { accessFlags := 9, nameIndex := 298, descriptorIndex := 57, attributes := #[] }] 48 4 #[] #[{ accessFlags := 4120, nameIndex := 121, descriptorIndex := 122, attributes := #[] }])
  fields := #[{ name := "$assertionsDisabled", type := .boolean, accessFlags := 4120, slot := 0, constantValue := 0 }]
  methods := #[k9m0, k9m1, k9m2]
  instanceTypes := #[]
  staticTypes := #[.boolean]
  resolved := Array.replicate 395 none
  statics := none }

def pool10 : Array CpInfo := pool [(6, .class_ 8), (1, u "java/lang/Object"), (0, u "<init>"), (0, u "()V"), (1, .class_ 14), (1, u "java/lang/StringUTF16"), (31, u "$assertionsDisabled"), (0, u "Z"), (13, u "HI_BYTE_SHIFT"), (0, u "I"), (2, u "LO_BYTE_SHIFT"), (49, .methodref 12 116), (0, .nameAndType 117 118), (0, u "compress"), (0, u "([CI[BII)I"), (3, u "([CII)[B"), (138, u "coderFromArrayLen"), (0, u "([BI)B"), (106, .class_ 371), (1, u "java/lang/StringUTF16$LinesSpliterator"), (58, u "MAX_LENGTH"), (196, .class_ 628), (0, u "java/lang/StringUTF16$CodePointsSpliterator"), (0, .class_ 630), (0, u "java/lang/StringUTF16$CharsSpliterator")] 4

def k10m0 : Method := { name := "<init>", desc := "()V", sig := { parameters := [], returnType := none }, accessFlags := 0, code := none }
def k10c1 : Code := { maxStack := 2, maxLocals := 2, code := jdk_52_method_15_code, exceptionTable := #[], attributes := #[] }
def k10m1 : Method := { name := "coderFromArrayLen", desc := "([BI)B", sig := { parameters := [(.array .byte), .int], returnType := some .byte }, accessFlags := 8, code := some k10c1 }
def k10c2 : Code := { maxStack := 5, maxLocals := 6, code := jdk_52_method_16_code, exceptionTable := #[], attributes := #[] }
def k10m2 : Method := { name := "compress", desc := "([CII)[B", sig := { parameters := [(.array .char), .int, .int], returnType := some (.array .byte) }, accessFlags := 9, code := some k10c2 }
def k10c3 : Code := { maxStack := 3, maxLocals := 7, code := jdk_52_method_21_code, exceptionTable := #[], attributes := #[] }
def k10m3 : Method := { name := "compress", desc := "([CI[BII)I", sig := { parameters := [(.array .char), .int, (.array .byte), .int, .int], returnType := some .int }, accessFlags := 9, code := some k10c3 }
/-- java/lang/StringUTF16 -/
def k10 : Class := { plain "java/lang/StringUTF16" (some 0) with
  accessFlags := 48
  interfaces := #[]
  cf := some (fileOf pool10 12 #[.nestMembers #[627, 629, 369]] #[{ accessFlags := 0, nameIndex := 9, descriptorIndex := 10, attributes := #[] }, { accessFlags := 8, nameIndex := 261, descriptorIndex := 262, attributes := #[] }, { accessFlags := 9, nameIndex := 117, descriptorIndex := 122, attributes := #[] }, { accessFlags := 9, nameIndex := 117, descriptorIndex := 118, attributes := #[] }] 48 6 #[] #[{ accessFlags := 26, nameIndex := 61, descriptorIndex := 62, attributes := #[] }, { accessFlags := 26, nameIndex := 65, descriptorIndex := 62, attributes := #[] }, { accessFlags := 24, nameIndex := 430, descriptorIndex := 62, attributes := #[] }, { accessFlags := 4120, nameIndex := 46, descriptorIndex := 47, attributes := #[] }])
  fields := #[{ name := "HI_BYTE_SHIFT", type := .int, accessFlags := 26, slot := 0, constantValue := 0 }, { name := "LO_BYTE_SHIFT", type := .int, accessFlags := 26, slot := 1, constantValue := 0 }, { name := "MAX_LENGTH", type := .int, accessFlags := 24, slot := 2, constantValue := 0 }, { name := "$assertionsDisabled", type := .boolean, accessFlags := 4120, slot := 3, constantValue := 0 }]
  methods := #[k10m0, k10m1, k10m2, k10m3]
  instanceTypes := #[]
  staticTypes := #[.int, .int, .int, .boolean]
  resolved := Array.replicate 635 none
  statics := none }

def pool11 : Array CpInfo := pool [(9, u "<init>"), (6, .class_ 18), (1, u "java/lang/Object"), (0, u "()V"), (1, .class_ 23), (1, u "jdk/internal/util/ArraysSupport"), (0, u "LOG2_ARRAY_LONG_INDEX_SCALE"), (0, u "I"), (2, u "U"), (0, u "Ljdk/internal/misc/Unsafe;"), (8, u "BIG_ENDIAN"), (0, u "Z"), (8, u "LOG2_BYTE_BIT_SIZE"), (4, u "LOG2_ARRAY_INT_INDEX_SCALE"), (6, .class_ 61), (0, u "[B"), (0, .methodref 21 63), (0, .nameAndType 64 65), (0, u "signedHashCode"), (0, u "(I[BII)I"), (42, u "JLA"), (0, u "Ljdk/internal/access/JavaLangAccess;"), (11, u "LOG2_ARRAY_BOOLEAN_INDEX_SCALE"), (9, u "LOG2_ARRAY_BYTE_INDEX_SCALE"), (5, u "LOG2_ARRAY_CHAR_INDEX_SCALE"), (5, u "LOG2_ARRAY_SHORT_INDEX_SCALE"), (18, u "LOG2_ARRAY_FLOAT_INDEX_SCALE"), (24, u "LOG2_ARRAY_DOUBLE_INDEX_SCALE"), (89, u "T_BOOLEAN"), (2, u "T_CHAR"), (1, u "T_FLOAT"), (1, u "T_DOUBLE"), (1, u "T_BYTE"), (1, u "T_SHORT"), (1, u "T_INT"), (1, u "T_LONG"), (1, u "SOFT_MAX_ARRAY_LENGTH"), (26, u "vectorizedHashCode"), (0, u "(Ljava/lang/Object;IIII)I")] 55

def k11m0 : Method := { name := "<init>", desc := "()V", sig := { parameters := [], returnType := none }, accessFlags := 2, code := none }
def k11c1 : Code := { maxStack := 4, maxLocals := 5, code := jdk_48_method_4_code, exceptionTable := #[], attributes := #[] }
def k11m1 : Method := { name := "vectorizedHashCode", desc := "(Ljava/lang/Object;IIII)I", sig := { parameters := [(.object "java/lang/Object"), .int, .int, .int, .int], returnType := some .int }, accessFlags := 9, code := some k11c1 }
def k11c2 : Code := { maxStack := 3, maxLocals := 6, code := jdk_48_method_5_code, exceptionTable := #[], attributes := #[] }
def k11m2 : Method := { name := "signedHashCode", desc := "(I[BII)I", sig := { parameters := [.int, (.array .byte), .int, .int], returnType := some .int }, accessFlags := 10, code := some k11c2 }
/-- jdk/internal/util/ArraysSupport -/
def k11 : Class := { plain "jdk/internal/util/ArraysSupport" (some 0) with
  accessFlags := 33
  interfaces := #[]
  cf := some (fileOf pool11 21 #[] #[{ accessFlags := 2, nameIndex := 9, descriptorIndex := 19, attributes := #[] }, { accessFlags := 9, nameIndex := 321, descriptorIndex := 322, attributes := #[] }, { accessFlags := 10, nameIndex := 64, descriptorIndex := 65, attributes := #[] }] 33 16 #[] #[{ accessFlags := 24, nameIndex := 28, descriptorIndex := 29, attributes := #[] }, { accessFlags := 26, nameIndex := 38, descriptorIndex := 39, attributes := #[] }, { accessFlags := 25, nameIndex := 121, descriptorIndex := 25, attributes := #[] }, { accessFlags := 25, nameIndex := 131, descriptorIndex := 25, attributes := #[] }, { accessFlags := 25, nameIndex := 137, descriptorIndex := 25, attributes := #[] }, { accessFlags := 25, nameIndex := 143, descriptorIndex := 25, attributes := #[] }, { accessFlags := 25, nameIndex := 53, descriptorIndex := 25, attributes := #[] }, { accessFlags := 25, nameIndex := 24, descriptorIndex := 25, attributes := #[] }, { accessFlags := 25, nameIndex := 162, descriptorIndex := 25, attributes := #[] }, { accessFlags := 25, nameIndex := 187, descriptorIndex := 25, attributes := #[] }, { accessFlags := 26, nameIndex := 48, descriptorIndex := 25, attributes := #[] }, { accessFlags := 25, nameIndex := 277, descriptorIndex := 25, attributes := #[] }, { accessFlags := 25, nameIndex := 280, descriptorIndex := 25, attributes := #[] }, { accessFlags := 25, nameIndex := 282, descriptorIndex := 25, attributes := #[] }, { accessFlags := 25, nameIndex := 284, descriptorIndex := 25, attributes := #[] }, { accessFlags := 25, nameIndex := 286, descriptorIndex := 25, attributes := #[] }, { accessFlags := 25, nameIndex := 288, descriptorIndex := 25, attributes := #[] }, { accessFlags := 25, nameIndex := 290, descriptorIndex := 25, attributes := #[] }, { accessFlags := 25, nameIndex := 292, descriptorIndex := 25, attributes := #[] }, { accessFlags := 26, nameIndex := 108, descriptorIndex := 109, attributes := #[] }, { accessFlags := 25, nameIndex := 294, descriptorIndex := 25, attributes := #[] }])
  fields := #[{ name := "U", type := (.object "jdk/internal/misc/Unsafe"), accessFlags := 24, slot := 0, constantValue := 0 }, { name := "BIG_ENDIAN", type := .boolean, accessFlags := 26, slot := 1, constantValue := 0 }, { name := "LOG2_ARRAY_BOOLEAN_INDEX_SCALE", type := .int, accessFlags := 25, slot := 2, constantValue := 0 }, { name := "LOG2_ARRAY_BYTE_INDEX_SCALE", type := .int, accessFlags := 25, slot := 3, constantValue := 0 }, { name := "LOG2_ARRAY_CHAR_INDEX_SCALE", type := .int, accessFlags := 25, slot := 4, constantValue := 0 }, { name := "LOG2_ARRAY_SHORT_INDEX_SCALE", type := .int, accessFlags := 25, slot := 5, constantValue := 0 }, { name := "LOG2_ARRAY_INT_INDEX_SCALE", type := .int, accessFlags := 25, slot := 6, constantValue := 0 }, { name := "LOG2_ARRAY_LONG_INDEX_SCALE", type := .int, accessFlags := 25, slot := 7, constantValue := 0 }, { name := "LOG2_ARRAY_FLOAT_INDEX_SCALE", type := .int, accessFlags := 25, slot := 8, constantValue := 0 }, { name := "LOG2_ARRAY_DOUBLE_INDEX_SCALE", type := .int, accessFlags := 25, slot := 9, constantValue := 0 }, { name := "LOG2_BYTE_BIT_SIZE", type := .int, accessFlags := 26, slot := 10, constantValue := 0 }, { name := "T_BOOLEAN", type := .int, accessFlags := 25, slot := 11, constantValue := 0 }, { name := "T_CHAR", type := .int, accessFlags := 25, slot := 12, constantValue := 0 }, { name := "T_FLOAT", type := .int, accessFlags := 25, slot := 13, constantValue := 0 }, { name := "T_DOUBLE", type := .int, accessFlags := 25, slot := 14, constantValue := 0 }, { name := "T_BYTE", type := .int, accessFlags := 25, slot := 15, constantValue := 0 }, { name := "T_SHORT", type := .int, accessFlags := 25, slot := 16, constantValue := 0 }, { name := "T_INT", type := .int, accessFlags := 25, slot := 17, constantValue := 0 }, { name := "T_LONG", type := .int, accessFlags := 25, slot := 18, constantValue := 0 }, { name := "JLA", type := (.object "jdk/internal/access/JavaLangAccess"), accessFlags := 26, slot := 19, constantValue := 0 }, { name := "SOFT_MAX_ARRAY_LENGTH", type := .int, accessFlags := 25, slot := 20, constantValue := 0 }]
  methods := #[k11m0, k11m1, k11m2]
  instanceTypes := #[]
  staticTypes := #[(.object "jdk/internal/misc/Unsafe"), .boolean, .int, .int, .int, .int, .int, .int, .int, .int, .int, .int, .int, .int, .int, .int, .int, .int, .int, (.object "jdk/internal/access/JavaLangAccess"), .int]
  resolved := Array.replicate 378 none
  statics := none }

def pool12 : Array CpInfo := pool [(2, .class_ 4), (1, u "java/lang/Object"), (0, u "<init>"), (0, u "()V"), (17, .class_ 26), (1, u "jdk/internal/util/Preconditions"), (28, .class_ 56), (0, u "jdk/internal/util/Preconditions$4"), (57, .class_ 115), (0, u "jdk/internal/util/Preconditions$1"), (7, u "SIOOBE_FORMATTER"), (0, u "Ljava/util/function/BiFunction;"), (0, .class_ 126), (0, u "jdk/internal/util/Preconditions$2"), (3, u "AIOOBE_FORMATTER"), (0, .class_ 132), (0, u "jdk/internal/util/Preconditions$3"), (3, u "IOOBE_FORMATTER")] 57

def k12m0 : Method := { name := "<init>", desc := "()V", sig := { parameters := [], returnType := none }, accessFlags := 1, code := none }
/-- jdk/internal/util/Preconditions -/
def k12 : Class := { plain "jdk/internal/util/Preconditions" (some 0) with
  accessFlags := 33
  interfaces := #[]
  cf := some (fileOf pool12 24 #[.nestMembers #[55, 131, 125, 114]] #[{ accessFlags := 1, nameIndex := 5, descriptorIndex := 6, attributes := #[] }] 33 2 #[] #[{ accessFlags := 25, nameIndex := 123, descriptorIndex := 124, attributes := #[] }, { accessFlags := 25, nameIndex := 130, descriptorIndex := 124, attributes := #[] }, { accessFlags := 25, nameIndex := 136, descriptorIndex := 124, attributes := #[] }])
  fields := #[{ name := "SIOOBE_FORMATTER", type := (.object "java/util/function/BiFunction"), accessFlags := 25, slot := 0, constantValue := 0 }, { name := "AIOOBE_FORMATTER", type := (.object "java/util/function/BiFunction"), accessFlags := 25, slot := 1, constantValue := 0 }, { name := "IOOBE_FORMATTER", type := (.object "java/util/function/BiFunction"), accessFlags := 25, slot := 2, constantValue := 0 }]
  methods := #[k12m0]
  instanceTypes := #[]
  staticTypes := #[(.object "java/util/function/BiFunction"), (.object "java/util/function/BiFunction"), (.object "java/util/function/BiFunction")]
  resolved := Array.replicate 194 none
  statics := some 1 }

def pool13 : Array CpInfo := pool [(1, u "java/lang/Cloneable"), (0, .class_ 1), (0, u "java/lang/Object"), (0, .class_ 3)] 3

/-- java/lang/Cloneable -/
def k13 : Class := { plain "java/lang/Cloneable" (some 0) with
  accessFlags := 1537
  interfaces := #[]
  cf := some (fileOf pool13 2 #[] #[] 1537 4 #[] #[])
  fields := #[]
  methods := #[]
  instanceTypes := #[]
  staticTypes := #[]
  resolved := Array.replicate 8 none
  statics := none }

/-- the primitive byte -/
def k14 : Class := { plain "byte" none with kind := .primitive 'B', accessFlags := 0x411 }
/-- [B -/
def k15 : Class := { plain "[B" (some 0) with kind := .array 14 .byte, interfaces := #[13, 2], accessFlags := 1041 }

/-- the primitive char -/
def k16 : Class := { plain "char" none with kind := .primitive 'C', accessFlags := 0x411 }
/-- [C -/
def k17 : Class := { plain "[C" (some 0) with kind := .array 16 .char, interfaces := #[13, 2], accessFlags := 1041 }

/-- the primitive int -/
def k18 : Class := { plain "int" none with kind := .primitive 'I', accessFlags := 0x411 }
/-- [I -/
def k19 : Class := { plain "[I" (some 0) with kind := .array 18 .int, interfaces := #[13, 2], accessFlags := 1041 }

def heap : Heap := #[{ cls := 7, slots := #[.long 0, .int 1, .null, .int 0, .null, .int 0, .int 0], vm := .statics 7 },
  { cls := 12, slots := #[.null, .null, .null], vm := .statics 12 }]
def classes : Array Class := #[k0, k1, k2, k3, k4, k5, k6, k7, k8, k9, k10, k11, k12, k13, k14, k15, k16, k17, k18, k19]
def interned : List (Array UInt16 × Addr) := []
def slotsUsed : Nat := 10
def theMethod : MethodId := ⟨1, 2⟩
def args0 : Array Value := #[.int 5, .int 7, .int 5, .int 1, .int 0]
def aboutOver (below : List Frame) : State where
  vm := { classes := classes, interned := interned.toArray }
  heap := heap
  slotsUsed := slotsUsed
  threads := #[{ frames := .invoking theMethod args0 :: below }]
def below0 : List Frame := [.native { method := ⟨0, 0⟩, args := #[] }]
def about1 : State := aboutOver below0
def p0 : Program := .bare "" "" ""
def e0 : Env := launch0.env 0 0 0
theorem w_frames : about1.frames = Frame.invoking theMethod args0 :: below0 := rfl
set_option maxRecDepth 65536 in
theorem w_args : argsFit about1.vm theMethod args0 = true := by decide +kernel
set_option maxRecDepth 65536 in
theorem w_heap : heapFits about1 = true := by decide +kernel
set_option maxRecDepth 65536 in
theorem w_runnable : about1.curStatus? = some .runnable := by decide +kernel
set_option maxRecDepth 65536 in
theorem w_alone : about1.alone = true := by decide +kernel
set_option maxRecDepth 65536 in
theorem w_named : about1.methodNamed? x = some theMethod := by decide +kernel
set_option maxRecDepth 65536 in
theorem w_hears : about1.hears theMethod below0 = true := by decide +kernel
set_option maxRecDepth 65536 in
theorem w_ripe : about1.ripe theMethod args0 below0 = true := by decide +kernel
theorem w_running : about1.status = .running := rfl
set_option maxRecDepth 65536 in
theorem w_room : about1.hasRoom e0.platform room_1 = true :=
  launch0.hasRoom_least _ room_1 (by decide +kernel) (by decide +kernel) (by decide +kernel) (by decide +kernel) (by decide +kernel) (by decide +kernel)
theorem allAtoms_all (ts : List Jvm.Cond) (a : Array Jvm.Value) (st : Jvm.State) : (allAtoms ts).before a st = ts.all (fun c => c.before a st) := by
  induction ts with
  | nil => rfl
  | cons c t ih =>
    show (Jvm.Cond.and c (allAtoms t)).before a st = _
    rw [Jvm.Cond.before_and, ih, List.all_cons]
def words1 : List Jvm.Cond := Jvm.Cond.code x code maxLocals ret :: tables_1
/-- a 'code' word, met by the world's own term for the bytes: nothing is compared byte by byte -/
theorem code_word {y : MethodName} {bytes : ByteArray} {mx : Nat} {rt : Option FieldType} {a : Array Value} {s : State} {m : MethodId} {meth : Method} {c : Code} (h1 : s.methodNamed? y = some m) (h2 : s.vm.method? m = some meth) (h3 : meth.code = some c) (h4 : c.code = bytes)
    (h5 : (c.maxLocals == mx && c.exceptionTable.isEmpty && decide (c.maxStack ≤ mostOperands) && decide (meth.sig.returnType = rt) && !meth.locks && decide (parseMethodDescriptor y.desc = some meth.sig)) = true) : (Jvm.Cond.code y bytes mx rt).before a s = true := by
  simp only [Bool.and_eq_true, beq_iff_eq, Bool.not_eq_true', decide_eq_true_eq] at h5
  obtain ⟨⟨⟨⟨⟨g1, g2⟩, g3⟩, g4⟩, g5⟩, g6⟩ := h5
  simp [Cond.before, Cond.holds, Cond.value, h1, h2, h3, h4, g1, g2, g3, g4, g5, g6]
def isCode : Jvm.Cond → Bool
  | .code _ _ _ _ => true
  | _ => false
theorem all_split {L : List Jvm.Cond} {P : Jvm.Cond → Bool} (h1 : L.all (fun c => isCode c || P c) = true) (h2 : ∀ c ∈ L.filter isCode, P c = true) : L.all P = true := by
  refine List.all_eq_true.mpr fun c hc => ?_
  have h := List.all_eq_true.mp h1 c hc
  rcases Bool.eq_false_or_eq_true (isCode c) with hi | hi
  · exact h2 c (List.mem_filter.mpr ⟨hc, hi⟩)
  · simpa [hi] using h
set_option maxRecDepth 65536 in
theorem w_c0 : (Jvm.Cond.code x code maxLocals ret).before args0 about1 = true := code_word (m := ⟨1, 2⟩) (meth := k1m2) (c := k1c2) (by decide +kernel) rfl rfl rfl (by decide +kernel)
set_option maxRecDepth 65536 in
theorem w_c1 : (Jvm.Cond.code ({ cls := "com/example/nx1/nx1/HolderKeyEqualsPinLaw", name := "mk", desc := "(I)Ljava/lang/String;" } : Jvm.MethodName) method_2_code (5 : Nat) (Option.some (Jvm.ClassFile.FieldType.object "java/lang/String"))).before args0 about1 = true := code_word (m := ⟨1, 1⟩) (meth := k1m1) (c := k1c1) (by decide +kernel) rfl rfl rfl (by decide +kernel)
set_option maxRecDepth 65536 in
theorem w_c2 : (Jvm.Cond.code ({ cls := "java/lang/String", name := "<init>", desc := "([C)V" } : Jvm.MethodName) jdk_42_method_3_code (2 : Nat) (Option.none : Option Jvm.ClassFile.FieldType)).before args0 about1 = true := code_word (m := ⟨7, 1⟩) (meth := k7m1) (c := k7c1) (by decide +kernel) rfl rfl rfl (by decide +kernel)
set_option maxRecDepth 65536 in
theorem w_c3 : (Jvm.Cond.code ({ cls := "java/lang/String", name := "<init>", desc := "([CIILjava/lang/Void;)V" } : Jvm.MethodName) jdk_42_method_149_code (6 : Nat) (Option.none : Option Jvm.ClassFile.FieldType)).before args0 about1 = true := code_word (m := ⟨7, 4⟩) (meth := k7m4) (c := k7c4) (by decide +kernel) rfl rfl rfl (by decide +kernel)
set_option maxRecDepth 65536 in
theorem w_c4 : (Jvm.Cond.code ({ cls := "java/lang/Object", name := "<init>", desc := "()V" } : Jvm.MethodName) object_method_1_code (1 : Nat) (Option.none : Option Jvm.ClassFile.FieldType)).before args0 about1 = true := code_word (m := ⟨0, 0⟩) (meth := k0m0) (c := k0c0) (by decide +kernel) rfl rfl rfl (by decide +kernel)
set_option maxRecDepth 65536 in
theorem w_c5 : (Jvm.Cond.code ({ cls := "com/example/nx1/nx1/HolderKey", name := "<init>", desc := "(Ljava/lang/String;Ljava/lang/String;)V" } : Jvm.MethodName) prog_4_method_1_code (3 : Nat) (Option.none : Option Jvm.ClassFile.FieldType)).before args0 about1 = true := code_word (m := ⟨8, 0⟩) (meth := k8m0) (c := k8c0) (by decide +kernel) rfl rfl rfl (by decide +kernel)
set_option maxRecDepth 65536 in
theorem w_c6 : (Jvm.Cond.code ({ cls := "java/lang/String", name := "hashCode", desc := "()I" } : Jvm.MethodName) jdk_42_method_78_code (2 : Nat) (Option.some Jvm.ClassFile.FieldType.int)).before args0 about1 = true := code_word (m := ⟨7, 3⟩) (meth := k7m3) (c := k7c3) (by decide +kernel) rfl rfl rfl (by decide +kernel)
set_option maxRecDepth 65536 in
theorem w_c7 : (Jvm.Cond.code ({ cls := "java/lang/String", name := "isLatin1", desc := "()Z" } : Jvm.MethodName) jdk_42_method_154_code (1 : Nat) (Option.some Jvm.ClassFile.FieldType.boolean)).before args0 about1 = true := code_word (m := ⟨7, 5⟩) (meth := k7m5) (c := k7c5) (by decide +kernel) rfl rfl rfl (by decide +kernel)
set_option maxRecDepth 65536 in
theorem w_c8 : (Jvm.Cond.code ({ cls := "java/lang/StringLatin1", name := "hashCode", desc := "([B)I" } : Jvm.MethodName) jdk_43_method_21_code (1 : Nat) (Option.some Jvm.ClassFile.FieldType.int)).before args0 about1 = true := code_word (m := ⟨9, 2⟩) (meth := k9m2) (c := k9c2) (by decide +kernel) rfl rfl rfl (by decide +kernel)
set_option maxRecDepth 65536 in
theorem w_c9 : (Jvm.Cond.code ({ cls := "java/lang/String", name := "equals", desc := "(Ljava/lang/Object;)Z" } : Jvm.MethodName) jdk_42_method_66_code (3 : Nat) (Option.some Jvm.ClassFile.FieldType.boolean)).before args0 about1 = true := code_word (m := ⟨7, 2⟩) (meth := k7m2) (c := k7c2) (by decide +kernel) rfl rfl rfl (by decide +kernel)
set_option maxRecDepth 65536 in
theorem w_c10 : (Jvm.Cond.code ({ cls := "java/lang/StringLatin1", name := "equals", desc := "([B[B)Z" } : Jvm.MethodName) jdk_43_method_13_code (3 : Nat) (Option.some Jvm.ClassFile.FieldType.boolean)).before args0 about1 = true := code_word (m := ⟨9, 1⟩) (meth := k9m1) (c := k9c1) (by decide +kernel) rfl rfl rfl (by decide +kernel)
set_option maxRecDepth 65536 in
theorem w_c11 : (Jvm.Cond.code ({ cls := "com/example/nx1/nx1/HolderKey", name := "equals", desc := "(Ljava/lang/Object;)Z" } : Jvm.MethodName) prog_4_method_3_code (3 : Nat) (Option.some Jvm.ClassFile.FieldType.boolean)).before args0 about1 = true := code_word (m := ⟨8, 1⟩) (meth := k8m1) (c := k8c1) (by decide +kernel) rfl rfl rfl (by decide +kernel)
set_option maxRecDepth 65536 in
theorem w_c12 : (Jvm.Cond.code ({ cls := "java/lang/StringUTF16", name := "compress", desc := "([CII)[B" } : Jvm.MethodName) jdk_52_method_16_code (6 : Nat) (Option.some (Jvm.ClassFile.FieldType.array Jvm.ClassFile.FieldType.byte))).before args0 about1 = true := code_word (m := ⟨10, 2⟩) (meth := k10m2) (c := k10c2) (by decide +kernel) rfl rfl rfl (by decide +kernel)
set_option maxRecDepth 65536 in
theorem w_c13 : (Jvm.Cond.code ({ cls := "java/lang/StringUTF16", name := "compress", desc := "([CI[BII)I" } : Jvm.MethodName) jdk_52_method_21_code (7 : Nat) (Option.some Jvm.ClassFile.FieldType.int)).before args0 about1 = true := code_word (m := ⟨10, 3⟩) (meth := k10m3) (c := k10c3) (by decide +kernel) rfl rfl rfl (by decide +kernel)
set_option maxRecDepth 65536 in
theorem w_c14 : (Jvm.Cond.code ({ cls := "java/lang/StringUTF16", name := "coderFromArrayLen", desc := "([BI)B" } : Jvm.MethodName) jdk_52_method_15_code (2 : Nat) (Option.some Jvm.ClassFile.FieldType.byte)).before args0 about1 = true := code_word (m := ⟨10, 1⟩) (meth := k10m1) (c := k10c1) (by decide +kernel) rfl rfl rfl (by decide +kernel)
set_option maxRecDepth 65536 in
theorem w_c15 : (Jvm.Cond.code ({ cls := "jdk/internal/util/ArraysSupport", name := "vectorizedHashCode", desc := "(Ljava/lang/Object;IIII)I" } : Jvm.MethodName) jdk_48_method_4_code (5 : Nat) (Option.some Jvm.ClassFile.FieldType.int)).before args0 about1 = true := code_word (m := ⟨11, 1⟩) (meth := k11m1) (c := k11c1) (by decide +kernel) rfl rfl rfl (by decide +kernel)
set_option maxRecDepth 65536 in
theorem w_c16 : (Jvm.Cond.code ({ cls := "jdk/internal/util/ArraysSupport", name := "signedHashCode", desc := "(I[BII)I" } : Jvm.MethodName) jdk_48_method_5_code (6 : Nat) (Option.some Jvm.ClassFile.FieldType.int)).before args0 about1 = true := code_word (m := ⟨11, 2⟩) (meth := k11m2) (c := k11c2) (by decide +kernel) rfl rfl rfl (by decide +kernel)
def codes1 : List Jvm.Cond := [Jvm.Cond.code x code maxLocals ret, Jvm.Cond.code ({ cls := "com/example/nx1/nx1/HolderKeyEqualsPinLaw", name := "mk", desc := "(I)Ljava/lang/String;" } : Jvm.MethodName) method_2_code (5 : Nat) (Option.some (Jvm.ClassFile.FieldType.object "java/lang/String")), Jvm.Cond.code ({ cls := "java/lang/String", name := "<init>", desc := "([C)V" } : Jvm.MethodName) jdk_42_method_3_code (2 : Nat) (Option.none : Option Jvm.ClassFile.FieldType), Jvm.Cond.code ({ cls := "java/lang/String", name := "<init>", desc := "([CIILjava/lang/Void;)V" } : Jvm.MethodName) jdk_42_method_149_code (6 : Nat) (Option.none : Option Jvm.ClassFile.FieldType), Jvm.Cond.code ({ cls := "java/lang/Object", name := "<init>", desc := "()V" } : Jvm.MethodName) object_method_1_code (1 : Nat) (Option.none : Option Jvm.ClassFile.FieldType), Jvm.Cond.code ({ cls := "com/example/nx1/nx1/HolderKey", name := "<init>", desc := "(Ljava/lang/String;Ljava/lang/String;)V" } : Jvm.MethodName) prog_4_method_1_code (3 : Nat) (Option.none : Option Jvm.ClassFile.FieldType), Jvm.Cond.code ({ cls := "java/lang/String", name := "hashCode", desc := "()I" } : Jvm.MethodName) jdk_42_method_78_code (2 : Nat) (Option.some Jvm.ClassFile.FieldType.int), Jvm.Cond.code ({ cls := "java/lang/String", name := "isLatin1", desc := "()Z" } : Jvm.MethodName) jdk_42_method_154_code (1 : Nat) (Option.some Jvm.ClassFile.FieldType.boolean), Jvm.Cond.code ({ cls := "java/lang/StringLatin1", name := "hashCode", desc := "([B)I" } : Jvm.MethodName) jdk_43_method_21_code (1 : Nat) (Option.some Jvm.ClassFile.FieldType.int), Jvm.Cond.code ({ cls := "java/lang/String", name := "equals", desc := "(Ljava/lang/Object;)Z" } : Jvm.MethodName) jdk_42_method_66_code (3 : Nat) (Option.some Jvm.ClassFile.FieldType.boolean), Jvm.Cond.code ({ cls := "java/lang/StringLatin1", name := "equals", desc := "([B[B)Z" } : Jvm.MethodName) jdk_43_method_13_code (3 : Nat) (Option.some Jvm.ClassFile.FieldType.boolean), Jvm.Cond.code ({ cls := "com/example/nx1/nx1/HolderKey", name := "equals", desc := "(Ljava/lang/Object;)Z" } : Jvm.MethodName) prog_4_method_3_code (3 : Nat) (Option.some Jvm.ClassFile.FieldType.boolean), Jvm.Cond.code ({ cls := "java/lang/StringUTF16", name := "compress", desc := "([CII)[B" } : Jvm.MethodName) jdk_52_method_16_code (6 : Nat) (Option.some (Jvm.ClassFile.FieldType.array Jvm.ClassFile.FieldType.byte)), Jvm.Cond.code ({ cls := "java/lang/StringUTF16", name := "compress", desc := "([CI[BII)I" } : Jvm.MethodName) jdk_52_method_21_code (7 : Nat) (Option.some Jvm.ClassFile.FieldType.int), Jvm.Cond.code ({ cls := "java/lang/StringUTF16", name := "coderFromArrayLen", desc := "([BI)B" } : Jvm.MethodName) jdk_52_method_15_code (2 : Nat) (Option.some Jvm.ClassFile.FieldType.byte), Jvm.Cond.code ({ cls := "jdk/internal/util/ArraysSupport", name := "vectorizedHashCode", desc := "(Ljava/lang/Object;IIII)I" } : Jvm.MethodName) jdk_48_method_4_code (5 : Nat) (Option.some Jvm.ClassFile.FieldType.int), Jvm.Cond.code ({ cls := "jdk/internal/util/ArraysSupport", name := "signedHashCode", desc := "(I[BII)I" } : Jvm.MethodName) jdk_48_method_5_code (6 : Nat) (Option.some Jvm.ClassFile.FieldType.int)]
set_option maxRecDepth 65536 in
theorem codes_eq : words1.filter isCode = codes1 := rfl
theorem w_codes : ∀ c ∈ words1.filter isCode, c.before args0 about1 = true := by
  rw [codes_eq]
  intro c hc
  simp only [codes1, List.mem_cons, List.not_mem_nil, or_false] at hc
  rcases hc with rfl | rfl | rfl | rfl | rfl | rfl | rfl | rfl | rfl | rfl | rfl | rfl | rfl | rfl | rfl | rfl | rfl
  · exact w_c0
  · exact w_c1
  · exact w_c2
  · exact w_c3
  · exact w_c4
  · exact w_c5
  · exact w_c6
  · exact w_c7
  · exact w_c8
  · exact w_c9
  · exact w_c10
  · exact w_c11
  · exact w_c12
  · exact w_c13
  · exact w_c14
  · exact w_c15
  · exact w_c16
set_option maxRecDepth 65536 in
theorem w_t1 : (words1.take 24).all (fun c => isCode c || c.before args0 about1) = true := by decide +kernel
set_option maxRecDepth 65536 in
theorem w_t2 : ((words1.drop 24).take 24).all (fun c => isCode c || c.before args0 about1) = true := by decide +kernel
set_option maxRecDepth 65536 in
theorem w_t3 : (((words1.drop 24).drop 24).take 24).all (fun c => isCode c || c.before args0 about1) = true := by decide +kernel
set_option maxRecDepth 65536 in
theorem w_t4 : ((((words1.drop 24).drop 24).drop 24).take 24).all (fun c => isCode c || c.before args0 about1) = true := by decide +kernel
set_option maxRecDepth 65536 in
theorem w_t5 : ((((words1.drop 24).drop 24).drop 24).drop 24).all (fun c => isCode c || c.before args0 about1) = true := by decide +kernel
theorem w_tables : (allAtoms (Jvm.Cond.code x code maxLocals ret :: tables_1)).before args0 about1 = true := by
  rw [allAtoms_all]
  show words1.all (fun c => c.before args0 about1) = true
  refine all_split ?_ w_codes
  rw [← List.take_append_drop 24 words1, List.all_append, w_t1, ← List.take_append_drop 24 (words1.drop 24), List.all_append, w_t2, ← List.take_append_drop 24 ((words1.drop 24).drop 24), List.all_append, w_t3, ← List.take_append_drop 24 (((words1.drop 24).drop 24).drop 24), List.all_append, w_t4, w_t5]
  rfl
set_option maxRecDepth 65536 in
theorem w_rest : rest_1_c.before args0 about1 = true := by decide +kernel
set_option maxRecDepth 65536 in
theorem w_case : (Jvm.Cond.and given_1 narrow_1).before args0 about1 = true := by decide +kernel
set_option maxRecDepth 65536 in
theorem w_consts : constsHeld consts_1 about1 := Jvm.Lit.constsHeldB_iff.mp (by decide +kernel)
theorem w_applies : (headSpec (Jvm.Cond.code x code maxLocals ret :: tables_1) room_1).applies x e0.platform about1 = true :=
  (Spec.applies_iff w_frames).mpr ⟨w_running, w_runnable, w_alone, w_named, w_hears, w_ripe, w_room, w_tables⟩
theorem atStart : AtStart classFile x code maxLocals ret World_1 tables_1 room_1 Calls_1 rest_1 Pre_1 launch0 p0 e0 about1 theMethod args0 below0 :=
  ⟨lists_1, trivial, launch0.admits_env _ _ _, launch0.least_env, fairChoices_fair.cas, fairChoices_fair.clock, w_frames, w_args, w_heap, w_applies, ⟨w_consts, trivial⟩, w_rest, w_case⟩
end start1
theorem witness_1 : WitnessClaimed_1 := ⟨start1.p0, start1.e0, start1.about1, start1.theMethod, start1.args0, start1.below0, start1.atStart⟩
end Jvm.Pilot.@@N@@
