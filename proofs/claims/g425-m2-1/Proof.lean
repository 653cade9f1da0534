import JvmDerived
import JvmDerived.Pilot.@@N@@Statement
import JvmDerived.Pilot.@@N@@Code
set_option linter.unusedVariables false
set_option linter.unusedSimpArgs false
namespace Jvm.OwnKit
open Jvm Jvm.ClassFile Sem Op Lib Jvm.Free Jvm.Stand Jvm.LawKit Jvm.RoadKit Bundle
/-- what a walk keeps hidden: the old cells stand; narrow (w = false): the tables of the start; wide: since when, what is booked, and which cells are surely not booked -/
def Hid (w : Bool) (Z : State) (EL : List (String × Nat)) (n0 : Nat) (My : List Addr) (s : State) (vm : Vm) (h : Heap) : Prop :=
  Old Z n0 h ∧ (w = false → vm = s.vm) ∧ (w = true → (∃ a0, EW Z a0 EL) ∧ (∃ k0, s.Since vm k0 ∧ k0 ≤ h.size) ∧ CHr Z EL s.vm s.heap vm h ∧ ∀ x ∈ My, x < h.size ∧ Safe Z EL vm h x)
def EndW (w : Bool) (Z : State) (EL : List (String × Nat)) (Ny : List Addr) (R : Room) (s : State) (o : Outcome) (t : State) (L : List Loc) : Prop :=
  (w = false → FrameEnd s o t L R.cells R.slots) ∧ (w = true → ReturnedEndW s o t L R.cells R.slots ∧ CHr Z EL s.vm s.heap t.vm t.heap ∧ ∀ x ∈ Ny, x < t.heap.size ∧ Safe Z EL t.vm t.heap x)
/-- from here the method returns, with Q -/
def Run (w : Bool) (l : Launch) (Z : State) (EL : List (String × Nat)) (n0 : Nat) (own nm : String) (B : ByteArray) (ret : Option FieldType) (R : Room) (Q : Option Value → Heap → Prop) (Ny : Option Value → List Addr)
    (My : List Addr) (h : Heap) (cells slots pc : Nat) (ls : Array Slot) (st : List Value) : Prop :=
  ∀ (p : Program) (e : Env) (s : State) (m : MethodId) (args : Array Value) (below : List Frame) (meth : Method) (c : Code) (T : State) (locs : List Loc) (vm : Vm),
    p.tables.exec = Jvm.exec → c.code = B → c.maxLocals = ls.size → meth.sig.returnType = ret → meth.name = nm → meth.locks = false → Z.Warmed39 vm → vm.findClass own = some m.cls →
    Stand p l e R (s.setVm vm) m args below meth c T locs cells slots → T.heap = h → Fr n0 locs → Hid w Z EL n0 My s vm h →
    ∃ t o, Steps p.tables e below (T.setTop (mkF m pc ls st)) t ∧ t.status = .running ∧ Ended t below o ∧ ∃ v L, o = .returned v ∧ Q v t.heap ∧ Fr n0 L ∧ EndW w Z EL (Ny v) R s o t L
/-- the contract of a method at one start -/
def Ok (w : Bool) (l : Launch) (Z : State) (EL : List (String × Nat)) (n0 : Nat) (My : List Addr) (y : MethodName) (B : ByteArray) (maxL : Nat) (ret : Option FieldType) (rm : Room) (as : Array Value) (h : Heap) (Q : Option Value → Heap → Prop) (Ny : Option Value → List Addr) : Prop :=
  ∀ ws : List Jvm.Cond, MetFree l y (head1 (Jvm.Cond.code y B maxL ret :: ws) rm) (fun a U => a = as ∧ Z.Warmed39 U.vm ∧ U.heap = h ∧ Old Z n0 h ∧ (w = true → (∃ a0, EW Z a0 EL) ∧ CHv Z EL U.vm h ∧ ∀ x ∈ My, x < h.size ∧ Safe Z EL U.vm h x)) (fun _ _ _ _ _ => True)
    (fun _ U o U' => ∃ v L, o = .returned v ∧ Q v U'.heap ∧ Fr n0 L ∧ EndW w Z EL (Ny v) rm U o U' L)
/-- this cell may be written: it is no booked String and no booked String's array -/
def Sf (w : Bool) (Z : State) (h : Heap) (My : List Addr) (x : Addr) : Prop := w = false ∨ x ∈ My ∨ (∃ C, Exa Z h x C ∧ C ≠ "java/lang/String" ∧ C ≠ "[B") ∨ ∃ c ty, Arr Z h x c ty ∧ ty ≠ .byte
section Rules
variable {w : Bool} {l : Launch} {Z : State} {EL : List (String × Nat)} {n0 : Nat} {own nm : String} {B : ByteArray} {ret : Option FieldType} {R : Room} {Q : Option Value → Heap → Prop} {Ny : Option Value → List Addr} {My : List Addr} {h : Heap} {cells slots pc : Nat} {ls : Array Slot} {st : List Value} {a0 : Array Value}
theorem Run.cast {st' : List Value} (e : st = st') (r : Run w l Z EL n0 own nm B ret R Q Ny My h cells slots pc ls st') : Run w l Z EL n0 own nm B ret R Q Ny My h cells slots pc ls st := e ▸ r
theorem Run.castL {ls' : Array Slot} (e : ls = ls') (r : Run w l Z EL n0 own nm B ret R Q Ny My h cells slots pc ls' st) : Run w l Z EL n0 own nm B ret R Q Ny My h cells slots pc ls st := e ▸ r
theorem Run.old (r : Old Z n0 h → Run w l Z EL n0 own nm B ret R Q Ny My h cells slots pc ls st) : Run w l Z EL n0 own nm B ret R Q Ny My h cells slots pc ls st :=
  fun p e s m args below meth c T locs vm hx hby hml hret hnm hlk hZ hown X eT N hH => r hH.1 p e s m args below meth c T locs vm hx hby hml hret hnm hlk hZ hown X eT N hH
theorem Run.pure {pc' : Nat} {ls' : Array Slot} {st' : List Value} (H : ∀ (p : Program) (e : Env) (below : List Frame) (T : State) (m : MethodId) (c : Code) (target : State), At T m c below → p.tables.exec = Jvm.exec → c.code = B → Steps p.tables e below (T.setTop (mkF m pc' ls' st')) target → Steps p.tables e below (T.setTop (mkF m pc ls st)) target)
    (hsz : ls'.size = ls.size) (hr : Run w l Z EL n0 own nm B ret R Q Ny My h cells slots pc' ls' st') : Run w l Z EL n0 own nm B ret R Q Ny My h cells slots pc ls st := by
  intro p e s m args below meth c T locs vm hx hby hml hret hnm hlk hZ hown X eT N hH
  obtain ⟨t, o, hs, r⟩ := hr p e s m args below meth c T locs vm hx hby (hml.trans hsz.symm) hret hnm hlk hZ hown X eT N hH
  exact ⟨t, o, H p e below T m c t X.here hx hby hs, r⟩
/-- a step that may warm the tables, over one heap -/
theorem Run.warm {pc' : Nat} {st' : List Value} (H : ∀ (p : Program) (e : Env) (s : State) (m : MethodId) (args : Array Value) (below : List Frame) (meth : Method) (c : Code) (T : State) (locs : List Loc), p.tables.exec = Jvm.exec → c.code = B → c.maxLocals = ls.size → meth.name = nm → Z.Warmed39 s.vm → s.vm.findClass own = some m.cls → Stand p l e R s m args below meth c T locs cells slots → T.heap = h → Old Z n0 h →
      ∃ T', Stand p l e R s m args below meth c T' locs cells slots ∧ T'.heap = h ∧ ∀ target, Steps p.tables e below (T'.setTop (mkF m pc' ls st')) target → Steps p.tables e below (T.setTop (mkF m pc ls st)) target)
    (hr : Run w l Z EL n0 own nm B ret R Q Ny My h cells slots pc' ls st') : Run w l Z EL n0 own nm B ret R Q Ny My h cells slots pc ls st := by
  intro p e s m args below meth c T locs vm hx hby hml hret hnm hlk hZ hown X eT N hH
  obtain ⟨T', X', e', stp⟩ := H p e (s.setVm vm) m args below meth c T locs hx hby hml hnm hZ hown X eT hH.1
  obtain ⟨t, o, hs, r⟩ := hr p e s m args below meth c T' locs vm hx hby hml hret hnm hlk hZ hown X' e' N hH
  exact ⟨t, o, stp t hs, r⟩
theorem Hid.ext {s : State} {vm : Vm} {h' : Heap} (H : Hid w Z EL n0 My s vm h) (E : Ext h h') : Hid w Z EL n0 My s vm h' :=
  ⟨H.1.ext E, H.2.1, fun q => by
    obtain ⟨hEW, ⟨k0, a, b⟩, c, d⟩ := H.2.2 q
    exact ⟨hEW, ⟨k0, a, Nat.le_trans b E.1⟩, c.trans (CHr.ext E c.1), fun x hx => ⟨Nat.lt_of_lt_of_le (d x hx).1 E.1, (d x hx).2.ext E c.1⟩⟩⟩
/-- what was just made is not booked -/
theorem Hid.extNew {s : State} {vm : Vm} {h' : Heap} (H : Hid w Z EL n0 My s vm h) (E : Ext h h') (hlt : h.size < h'.size) : Hid w Z EL n0 (h.size :: My) s vm h' :=
  ⟨H.1.ext E, H.2.1, fun q => by
    obtain ⟨hEW, ⟨k0, a, b⟩, c, d⟩ := H.2.2 q
    refine ⟨hEW, ⟨k0, a, Nat.le_trans b E.1⟩, c.trans (CHr.ext E c.1), fun x hx => ?_⟩
    rcases List.mem_cons.mp hx with rfl | hx
    · exact ⟨hlt, (Safe.new (Nat.le_refl _)).ext E c.1⟩
    · exact ⟨Nat.lt_of_lt_of_le (d x hx).1 E.1, (d x hx).2.ext E c.1⟩⟩
theorem Sf.safe {vm : Vm} {x : Addr} (S : Sf w Z h My x) (q : w = true) (hal : Z.vm.Alike vm) (d : ∀ x ∈ My, x < h.size ∧ Safe Z EL vm h x) : Safe Z EL vm h x := by
  rcases S with e | e | ⟨C, e, h1, h2⟩ | ⟨c, ty, e, h1⟩
  · rw [q] at e; cases e
  · exact (d x e).2
  · exact Safe.exa hal e h1 h2
  · exact Safe.arr hal e h1
theorem Hid.keep {s : State} {vm : Vm} {h' : Heap} {ws : List Addr} (H : Hid w Z EL n0 My s vm h) (hZ : Z.Warmed39 vm) (K : Keep h h' ws) (hs : ∀ x ∈ ws, n0 ≤ x ∧ Sf w Z h My x) : Hid w Z EL n0 My s vm h' :=
  ⟨H.1.keep K fun x hx => (hs x hx).1, H.2.1, fun q => by
    obtain ⟨hEW, ⟨k0, a, b⟩, c, d⟩ := H.2.2 q
    have sf : ∀ x ∈ ws, Safe Z EL vm h x := fun x hx => (hs x hx).2.safe q hZ.alike d
    exact ⟨hEW, ⟨k0, a, Nat.le_trans b K.1⟩, c.trans (CHr.keep K sf c.1), fun x hx => ⟨Nat.lt_of_lt_of_le (d x hx).1 K.1, (d x hx).2.keep K sf c.1⟩⟩⟩
theorem Run.forget {My' : List Addr} (hsub : ∀ x ∈ My', x ∈ My) (r : Run w l Z EL n0 own nm B ret R Q Ny My' h cells slots pc ls st) : Run w l Z EL n0 own nm B ret R Q Ny My h cells slots pc ls st :=
  fun p e s m args below meth c T locs vm hx hby hml hret hnm hlk hZ hown X eT N hH => r p e s m args below meth c T locs vm hx hby hml hret hnm hlk hZ hown X eT N ⟨hH.1, hH.2.1, fun q => ⟨(hH.2.2 q).1, (hH.2.2 q).2.1, (hH.2.2 q).2.2.1, fun x hx => (hH.2.2 q).2.2.2 x (hsub x hx)⟩⟩
/-- more room used than told -/
theorem Run.spend {cells' slots' : Nat} (h1 : cells ≤ cells') (h2 : slots ≤ slots') (r : Run w l Z EL n0 own nm B ret R Q Ny My h cells' slots' pc ls st) : Run w l Z EL n0 own nm B ret R Q Ny My h cells slots pc ls st :=
  fun p e s m args below meth c T locs vm hx hby hml hret hnm hlk hZ hown X eT N hH => r p e s m args below meth c T locs vm hx hby hml hret hnm hlk hZ hown (X.mono h1 h2) eT N hH
theorem Run.post {Q' : Option Value → Heap → Prop} {Ny' : Option Value → List Addr} (hQ : ∀ v h', Q' v h' → Q v h') (hN : ∀ v, ∀ x ∈ Ny v, x ∈ Ny' v) (r : Run w l Z EL n0 own nm B ret R Q' Ny' My h cells slots pc ls st) : Run w l Z EL n0 own nm B ret R Q Ny My h cells slots pc ls st := by
  intro p e s m args below meth c T locs vm hx hby hml hret hnm hlk hZ hown X eT N hH
  obtain ⟨t, o, hs, h1, h2, v, L, h3, h4, h5, h6, h7⟩ := r p e s m args below meth c T locs vm hx hby hml hret hnm hlk hZ hown X eT N hH
  exact ⟨t, o, hs, h1, h2, v, L, h3, hQ _ _ h4, h5, h6, fun q => ⟨(h7 q).1, (h7 q).2.1, fun x hx => (h7 q).2.2 x (hN v x hx)⟩⟩
theorem r_aloadN {pc' : Nat} {k : Fin 4} {v : Value} (hd : decode B pc = .ok (.aload_n k, 1)) (hp : pc + 1 = pc') (hl : ls[k.val]? = some (.val v)) (hv : v.isRef = true) (hr : Run w l Z EL n0 own nm B ret R Q Ny My h cells slots pc' ls (v :: st)) : Run w l Z EL n0 own nm B ret R Q Ny My h cells slots pc ls (st) :=
  Run.pure (fun p e below T m c target hA hx hby hs => XS.aloadN hA hx rfl (hb hby hd) hl hv (by subst hp; exact hs)) rfl hr
theorem r_aload {pc' : Nat} {k : Nat} {v : Value} (hd : decode B pc = .ok (.aload k, 2)) (hp : pc + 2 = pc') (hl : ls[k]? = some (.val v)) (hv : v.isRef = true) (hr : Run w l Z EL n0 own nm B ret R Q Ny My h cells slots pc' ls (v :: st)) : Run w l Z EL n0 own nm B ret R Q Ny My h cells slots pc ls (st) :=
  Run.pure (fun p e below T m c target hA hx hby hs => XS.aload hA hx rfl (hb hby hd) hl hv (by subst hp; exact hs)) rfl hr
theorem r_iloadN {pc' : Nat} {k : Fin 4} {v : Int32} (hd : decode B pc = .ok (.iload_n k, 1)) (hp : pc + 1 = pc') (hl : ls[k.val]? = some (.val (.int v))) (hr : Run w l Z EL n0 own nm B ret R Q Ny My h cells slots pc' ls (.int v :: st)) : Run w l Z EL n0 own nm B ret R Q Ny My h cells slots pc ls (st) :=
  Run.pure (fun p e below T m c target hA hx hby hs => XS.iloadN hA hx rfl (hb hby hd) hl (by subst hp; exact hs)) rfl hr
theorem r_iload {pc' : Nat} {k : Nat} {v : Int32} (hd : decode B pc = .ok (.iload k, 2)) (hp : pc + 2 = pc') (hl : ls[k]? = some (.val (.int v))) (hr : Run w l Z EL n0 own nm B ret R Q Ny My h cells slots pc' ls (.int v :: st)) : Run w l Z EL n0 own nm B ret R Q Ny My h cells slots pc ls (st) :=
  Run.pure (fun p e below T m c target hA hx hby hs => XS.iload hA hx rfl (hb hby hd) hl (by subst hp; exact hs)) rfl hr
theorem r_lloadN {pc' : Nat} {k : Fin 4} {v : Int64} (hd : decode B pc = .ok (.lload_n k, 1)) (hp : pc + 1 = pc') (hl : ls[k.val]? = some (.val (.long v))) (hr : Run w l Z EL n0 own nm B ret R Q Ny My h cells slots pc' ls (.long v :: st)) : Run w l Z EL n0 own nm B ret R Q Ny My h cells slots pc ls (st) :=
  Run.pure (fun p e below T m c target hA hx hby hs => XS.lloadN hA hx rfl (hb hby hd) hl (by subst hp; exact hs)) rfl hr
theorem r_lload {pc' : Nat} {k : Nat} {v : Int64} (hd : decode B pc = .ok (.lload k, 2)) (hp : pc + 2 = pc') (hl : ls[k]? = some (.val (.long v))) (hr : Run w l Z EL n0 own nm B ret R Q Ny My h cells slots pc' ls (.long v :: st)) : Run w l Z EL n0 own nm B ret R Q Ny My h cells slots pc ls (st) :=
  Run.pure (fun p e below T m c target hA hx hby hs => XS.lload hA hx rfl (hb hby hd) hl (by subst hp; exact hs)) rfl hr
theorem r_iconst {pc' : Nat} {i : Int} {v : Int32} (hd : decode B pc = .ok (.iconst i, 1)) (hp : pc + 1 = pc') (hv : Int32.ofInt i = v) (hr : Run w l Z EL n0 own nm B ret R Q Ny My h cells slots pc' ls (.int v :: st)) : Run w l Z EL n0 own nm B ret R Q Ny My h cells slots pc ls st :=
  Run.pure (fun p e below T m c target hA hx hby hs => XS.iconst hA hx rfl (hb hby hd) (by subst hp hv; exact hs)) rfl hr
theorem r_bipush {pc' : Nat} {i : Int} {v : Int32} (hd : decode B pc = .ok (.bipush i, 2)) (hp : pc + 2 = pc') (hv : (Int8.ofInt i).toInt32 = v) (hr : Run w l Z EL n0 own nm B ret R Q Ny My h cells slots pc' ls (.int v :: st)) : Run w l Z EL n0 own nm B ret R Q Ny My h cells slots pc ls st :=
  Run.pure (fun p e below T m c target hA hx hby hs => XS.bipush hA hx rfl (hb hby hd) (by subst hp hv; exact hs)) rfl hr
theorem r_sipush {pc' : Nat} {i : Int} {v : Int32} (hd : decode B pc = .ok (.sipush i, 3)) (hp : pc + 3 = pc') (hv : (Int16.ofInt i).toInt32 = v) (hr : Run w l Z EL n0 own nm B ret R Q Ny My h cells slots pc' ls (.int v :: st)) : Run w l Z EL n0 own nm B ret R Q Ny My h cells slots pc ls st :=
  Run.pure (fun p e below T m c target hA hx hby hs => XS.sipush hA hx rfl (hb hby hd) (by subst hp hv; exact hs)) rfl hr
theorem r_lconst {pc' : Nat} {k : Fin 2} {v : Int64} (hd : decode B pc = .ok (.lconst k, 1)) (hp : pc + 1 = pc') (hv : Int64.ofNat k = v) (hr : Run w l Z EL n0 own nm B ret R Q Ny My h cells slots pc' ls (.long v :: st)) : Run w l Z EL n0 own nm B ret R Q Ny My h cells slots pc ls st :=
  Run.pure (fun p e below T m c target hA hx hby hs => XS.lconst hA hx rfl (hb hby hd) (by subst hp hv; exact hs)) rfl hr
theorem r_aconst {pc' : Nat} (hd : decode B pc = .ok (.aconst_null, 1)) (hp : pc + 1 = pc') (hr : Run w l Z EL n0 own nm B ret R Q Ny My h cells slots pc' ls (.null :: st)) : Run w l Z EL n0 own nm B ret R Q Ny My h cells slots pc ls (st) :=
  Run.pure (fun p e below T m c target hA hx hby hs => XS.aconstNull hA hx rfl (hb hby hd) (by subst hp; exact hs)) rfl hr
theorem r_iadd {pc' : Nat} {x y : Int32} (hd : decode B pc = .ok (.iadd, 1)) (hp : pc + 1 = pc') (hr : Run w l Z EL n0 own nm B ret R Q Ny My h cells slots pc' ls (.int (x + y) :: st)) : Run w l Z EL n0 own nm B ret R Q Ny My h cells slots pc ls (.int y :: .int x :: st) :=
  Run.pure (fun p e below T m c target hA hx hby hs => XS.iadd hA hx rfl (hb hby hd) rfl (by subst hp; exact hs)) rfl hr
theorem r_isub {pc' : Nat} {x y : Int32} (hd : decode B pc = .ok (.isub, 1)) (hp : pc + 1 = pc') (hr : Run w l Z EL n0 own nm B ret R Q Ny My h cells slots pc' ls (.int (x - y) :: st)) : Run w l Z EL n0 own nm B ret R Q Ny My h cells slots pc ls (.int y :: .int x :: st) :=
  Run.pure (fun p e below T m c target hA hx hby hs => XS.isub hA hx rfl (hb hby hd) rfl (by subst hp; exact hs)) rfl hr
theorem r_imul {pc' : Nat} {x y : Int32} (hd : decode B pc = .ok (.imul, 1)) (hp : pc + 1 = pc') (hr : Run w l Z EL n0 own nm B ret R Q Ny My h cells slots pc' ls (.int (x * y) :: st)) : Run w l Z EL n0 own nm B ret R Q Ny My h cells slots pc ls (.int y :: .int x :: st) :=
  Run.pure (fun p e below T m c target hA hx hby hs => XS.imul hA hx rfl (hb hby hd) rfl (by subst hp; exact hs)) rfl hr
theorem r_iand {pc' : Nat} {x y : Int32} (hd : decode B pc = .ok (.iand, 1)) (hp : pc + 1 = pc') (hr : Run w l Z EL n0 own nm B ret R Q Ny My h cells slots pc' ls (.int (x &&& y) :: st)) : Run w l Z EL n0 own nm B ret R Q Ny My h cells slots pc ls (.int y :: .int x :: st) :=
  Run.pure (fun p e below T m c target hA hx hby hs => XS.iand hA hx rfl (hb hby hd) rfl (by subst hp; exact hs)) rfl hr
theorem r_ior {pc' : Nat} {x y : Int32} (hd : decode B pc = .ok (.ior, 1)) (hp : pc + 1 = pc') (hr : Run w l Z EL n0 own nm B ret R Q Ny My h cells slots pc' ls (.int (x ||| y) :: st)) : Run w l Z EL n0 own nm B ret R Q Ny My h cells slots pc ls (.int y :: .int x :: st) :=
  Run.pure (fun p e below T m c target hA hx hby hs => XS.ior hA hx rfl (hb hby hd) rfl (by subst hp; exact hs)) rfl hr
theorem r_ixor {pc' : Nat} {x y : Int32} (hd : decode B pc = .ok (.ixor, 1)) (hp : pc + 1 = pc') (hr : Run w l Z EL n0 own nm B ret R Q Ny My h cells slots pc' ls (.int (x ^^^ y) :: st)) : Run w l Z EL n0 own nm B ret R Q Ny My h cells slots pc ls (.int y :: .int x :: st) :=
  Run.pure (fun p e below T m c target hA hx hby hs => XS.ixor hA hx rfl (hb hby hd) rfl (by subst hp; exact hs)) rfl hr
theorem r_ishl {pc' : Nat} {x y : Int32} (hd : decode B pc = .ok (.ishl, 1)) (hp : pc + 1 = pc') (hr : Run w l Z EL n0 own nm B ret R Q Ny My h cells slots pc' ls (.int (x <<< (y &&& 31)) :: st)) : Run w l Z EL n0 own nm B ret R Q Ny My h cells slots pc ls (.int y :: .int x :: st) :=
  Run.pure (fun p e below T m c target hA hx hby hs => XS.ishl hA hx rfl (hb hby hd) rfl (by subst hp; exact hs)) rfl hr
theorem r_ishr {pc' : Nat} {x y : Int32} (hd : decode B pc = .ok (.ishr, 1)) (hp : pc + 1 = pc') (hr : Run w l Z EL n0 own nm B ret R Q Ny My h cells slots pc' ls (.int (x >>> (y &&& 31)) :: st)) : Run w l Z EL n0 own nm B ret R Q Ny My h cells slots pc ls (.int y :: .int x :: st) :=
  Run.pure (fun p e below T m c target hA hx hby hs => XS.ishr hA hx rfl (hb hby hd) rfl (by subst hp; exact hs)) rfl hr
theorem r_iushr {pc' : Nat} {x y : Int32} (hd : decode B pc = .ok (.iushr, 1)) (hp : pc + 1 = pc') (hr : Run w l Z EL n0 own nm B ret R Q Ny My h cells slots pc' ls (.int ((x.toUInt32 >>> (y &&& 31).toUInt32).toInt32) :: st)) : Run w l Z EL n0 own nm B ret R Q Ny My h cells slots pc ls (.int y :: .int x :: st) :=
  Run.pure (fun p e below T m c target hA hx hby hs => XS.iushr hA hx rfl (hb hby hd) rfl (by subst hp; exact hs)) rfl hr
theorem r_ladd {pc' : Nat} {x y : Int64} (hd : decode B pc = .ok (.ladd, 1)) (hp : pc + 1 = pc') (hr : Run w l Z EL n0 own nm B ret R Q Ny My h cells slots pc' ls (.long (x + y) :: st)) : Run w l Z EL n0 own nm B ret R Q Ny My h cells slots pc ls (.long y :: .long x :: st) :=
  Run.pure (fun p e below T m c target hA hx hby hs => XS.ladd hA hx rfl (hb hby hd) rfl (by subst hp; exact hs)) rfl hr
theorem r_lsub {pc' : Nat} {x y : Int64} (hd : decode B pc = .ok (.lsub, 1)) (hp : pc + 1 = pc') (hr : Run w l Z EL n0 own nm B ret R Q Ny My h cells slots pc' ls (.long (x - y) :: st)) : Run w l Z EL n0 own nm B ret R Q Ny My h cells slots pc ls (.long y :: .long x :: st) :=
  Run.pure (fun p e below T m c target hA hx hby hs => XS.lsub hA hx rfl (hb hby hd) rfl (by subst hp; exact hs)) rfl hr
theorem r_lmul {pc' : Nat} {x y : Int64} (hd : decode B pc = .ok (.lmul, 1)) (hp : pc + 1 = pc') (hr : Run w l Z EL n0 own nm B ret R Q Ny My h cells slots pc' ls (.long (x * y) :: st)) : Run w l Z EL n0 own nm B ret R Q Ny My h cells slots pc ls (.long y :: .long x :: st) :=
  Run.pure (fun p e below T m c target hA hx hby hs => XS.lmul hA hx rfl (hb hby hd) rfl (by subst hp; exact hs)) rfl hr
theorem r_land {pc' : Nat} {x y : Int64} (hd : decode B pc = .ok (.land, 1)) (hp : pc + 1 = pc') (hr : Run w l Z EL n0 own nm B ret R Q Ny My h cells slots pc' ls (.long (x &&& y) :: st)) : Run w l Z EL n0 own nm B ret R Q Ny My h cells slots pc ls (.long y :: .long x :: st) :=
  Run.pure (fun p e below T m c target hA hx hby hs => XS.land hA hx rfl (hb hby hd) rfl (by subst hp; exact hs)) rfl hr
theorem r_lor {pc' : Nat} {x y : Int64} (hd : decode B pc = .ok (.lor, 1)) (hp : pc + 1 = pc') (hr : Run w l Z EL n0 own nm B ret R Q Ny My h cells slots pc' ls (.long (x ||| y) :: st)) : Run w l Z EL n0 own nm B ret R Q Ny My h cells slots pc ls (.long y :: .long x :: st) :=
  Run.pure (fun p e below T m c target hA hx hby hs => XS.lor hA hx rfl (hb hby hd) rfl (by subst hp; exact hs)) rfl hr
theorem r_lxor {pc' : Nat} {x y : Int64} (hd : decode B pc = .ok (.lxor, 1)) (hp : pc + 1 = pc') (hr : Run w l Z EL n0 own nm B ret R Q Ny My h cells slots pc' ls (.long (x ^^^ y) :: st)) : Run w l Z EL n0 own nm B ret R Q Ny My h cells slots pc ls (.long y :: .long x :: st) :=
  Run.pure (fun p e below T m c target hA hx hby hs => XS.lxor hA hx rfl (hb hby hd) rfl (by subst hp; exact hs)) rfl hr
theorem r_idiv {pc' : Nat} {x y : Int32} (hd : decode B pc = .ok (.idiv, 1)) (hp : pc + 1 = pc') (hy : y ≠ 0) (hr : Run w l Z EL n0 own nm B ret R Q Ny My h cells slots pc' ls (.int (x / y) :: st)) : Run w l Z EL n0 own nm B ret R Q Ny My h cells slots pc ls (.int y :: .int x :: st) :=
  Run.pure (fun p e below T m c target hA hx hby hs => XS.idiv hA hx rfl (hb hby hd) rfl hy (by subst hp; exact hs)) rfl hr
theorem r_ldiv {pc' : Nat} {x y : Int64} (hd : decode B pc = .ok (.ldiv, 1)) (hp : pc + 1 = pc') (hy : y ≠ 0) (hr : Run w l Z EL n0 own nm B ret R Q Ny My h cells slots pc' ls (.long (x / y) :: st)) : Run w l Z EL n0 own nm B ret R Q Ny My h cells slots pc ls (.long y :: .long x :: st) :=
  Run.pure (fun p e below T m c target hA hx hby hs => XS.ldiv hA hx rfl (hb hby hd) rfl hy (by subst hp; exact hs)) rfl hr
theorem r_ineg {pc' : Nat} {x : Int32} (hd : decode B pc = .ok (.ineg, 1)) (hp : pc + 1 = pc') (hr : Run w l Z EL n0 own nm B ret R Q Ny My h cells slots pc' ls (.int (-x) :: st)) : Run w l Z EL n0 own nm B ret R Q Ny My h cells slots pc ls (.int x :: st) :=
  Run.pure (fun p e below T m c target hA hx hby hs => XS.ineg hA hx rfl (hb hby hd) rfl (by subst hp; exact hs)) rfl hr
theorem r_i2b {pc' : Nat} {x : Int32} (hd : decode B pc = .ok (.i2b, 1)) (hp : pc + 1 = pc') (hr : Run w l Z EL n0 own nm B ret R Q Ny My h cells slots pc' ls (.int (x.toInt8.toInt32) :: st)) : Run w l Z EL n0 own nm B ret R Q Ny My h cells slots pc ls (.int x :: st) :=
  Run.pure (fun p e below T m c target hA hx hby hs => XS.i2b hA hx rfl (hb hby hd) rfl (by subst hp; exact hs)) rfl hr
theorem r_i2c {pc' : Nat} {x : Int32} (hd : decode B pc = .ok (.i2c, 1)) (hp : pc + 1 = pc') (hr : Run w l Z EL n0 own nm B ret R Q Ny My h cells slots pc' ls (.int (x.toUInt32.toUInt16.toUInt32.toInt32) :: st)) : Run w l Z EL n0 own nm B ret R Q Ny My h cells slots pc ls (.int x :: st) :=
  Run.pure (fun p e below T m c target hA hx hby hs => XS.i2c hA hx rfl (hb hby hd) rfl (by subst hp; exact hs)) rfl hr
theorem r_i2s {pc' : Nat} {x : Int32} (hd : decode B pc = .ok (.i2s, 1)) (hp : pc + 1 = pc') (hr : Run w l Z EL n0 own nm B ret R Q Ny My h cells slots pc' ls (.int (x.toInt16.toInt32) :: st)) : Run w l Z EL n0 own nm B ret R Q Ny My h cells slots pc ls (.int x :: st) :=
  Run.pure (fun p e below T m c target hA hx hby hs => XS.i2s hA hx rfl (hb hby hd) rfl (by subst hp; exact hs)) rfl hr
theorem r_i2l {pc' : Nat} {x : Int32} (hd : decode B pc = .ok (.i2l, 1)) (hp : pc + 1 = pc') (hr : Run w l Z EL n0 own nm B ret R Q Ny My h cells slots pc' ls (.long (x.toInt64) :: st)) : Run w l Z EL n0 own nm B ret R Q Ny My h cells slots pc ls (.int x :: st) :=
  Run.pure (fun p e below T m c target hA hx hby hs => XS.i2l hA hx rfl (hb hby hd) rfl (by subst hp; exact hs)) rfl hr
theorem r_l2i {pc' : Nat} {x : Int64} (hd : decode B pc = .ok (.l2i, 1)) (hp : pc + 1 = pc') (hr : Run w l Z EL n0 own nm B ret R Q Ny My h cells slots pc' ls (.int (x.toInt32) :: st)) : Run w l Z EL n0 own nm B ret R Q Ny My h cells slots pc ls (.long x :: st) :=
  Run.pure (fun p e below T m c target hA hx hby hs => XS.l2i hA hx rfl (hb hby hd) rfl (by subst hp; exact hs)) rfl hr
theorem r_lneg {pc' : Nat} {x : Int64} (hd : decode B pc = .ok (.lneg, 1)) (hp : pc + 1 = pc') (hr : Run w l Z EL n0 own nm B ret R Q Ny My h cells slots pc' ls (.long (-x) :: st)) : Run w l Z EL n0 own nm B ret R Q Ny My h cells slots pc ls (.long x :: st) :=
  Run.pure (fun p e below T m c target hA hx hby hs => XS.lneg hA hx rfl (hb hby hd) rfl (by subst hp; exact hs)) rfl hr
theorem r_lcmp {pc' : Nat} {x y : Int64} (hd : decode B pc = .ok (.lcmp, 1)) (hp : pc + 1 = pc') (hr : Run w l Z EL n0 own nm B ret R Q Ny My h cells slots pc' ls (.int (lcmpW x y) :: st)) : Run w l Z EL n0 own nm B ret R Q Ny My h cells slots pc ls (.long y :: .long x :: st) :=
  Run.pure (fun p e below T m c target hA hx hby hs => XS.lcmp hA hx rfl (hb hby hd) rfl (by subst hp; exact hs)) rfl hr
theorem r_pop {pc' : Nat} {x : Value} (hd : decode B pc = .ok (.pop, 1)) (hp : pc + 1 = pc') (hc : x.category = 1) (hr : Run w l Z EL n0 own nm B ret R Q Ny My h cells slots pc' ls (st)) : Run w l Z EL n0 own nm B ret R Q Ny My h cells slots pc ls (x :: st) :=
  Run.pure (fun p e below T m c target hA hx hby hs => XS.pop hA hx rfl (hb hby hd) rfl hc (by subst hp; exact hs)) rfl hr
theorem r_dup {pc' : Nat} {x : Value} (hd : decode B pc = .ok (.dup, 1)) (hp : pc + 1 = pc') (hc : x.category = 1) (hr : Run w l Z EL n0 own nm B ret R Q Ny My h cells slots pc' ls (x :: x :: st)) : Run w l Z EL n0 own nm B ret R Q Ny My h cells slots pc ls (x :: st) :=
  Run.pure (fun p e below T m c target hA hx hby hs => XS.dup hA hx rfl (hb hby hd) rfl hc (by subst hp; exact hs)) rfl hr
theorem r_swap {pc' : Nat} {x y : Value} (hd : decode B pc = .ok (.swap, 1)) (hp : pc + 1 = pc') (hc : x.category = 1) (hc2 : y.category = 1) (hr : Run w l Z EL n0 own nm B ret R Q Ny My h cells slots pc' ls (y :: x :: st)) : Run w l Z EL n0 own nm B ret R Q Ny My h cells slots pc ls (x :: y :: st) :=
  Run.pure (fun p e below T m c target hA hx hby hs => XS.swap hA hx rfl (hb hby hd) rfl hc hc2 (by subst hp; exact hs)) rfl hr
theorem r_dupX1 {pc' : Nat} {x y : Value} (hd : decode B pc = .ok (.dup_x1, 1)) (hp : pc + 1 = pc') (hc : x.category = 1) (hc2 : y.category = 1) (hr : Run w l Z EL n0 own nm B ret R Q Ny My h cells slots pc' ls (x :: y :: x :: st)) : Run w l Z EL n0 own nm B ret R Q Ny My h cells slots pc ls (x :: y :: st) :=
  Run.pure (fun p e below T m c target hA hx hby hs => XS.dupX1 hA hx rfl (hb hby hd) rfl hc hc2 (by subst hp; exact hs)) rfl hr
theorem r_dup2 {pc' : Nat} {x y : Value} (hd : decode B pc = .ok (.dup2, 1)) (hp : pc + 1 = pc') (hc : x.category = 1) (hc2 : y.category = 1) (hr : Run w l Z EL n0 own nm B ret R Q Ny My h cells slots pc' ls (x :: y :: x :: y :: st)) : Run w l Z EL n0 own nm B ret R Q Ny My h cells slots pc ls (x :: y :: st) :=
  Run.pure (fun p e below T m c target hA hx hby hs => XT.dup2 hA hx rfl (hb hby hd) rfl hc hc2 (by subst hp; exact hs)) rfl hr
theorem r_istoreN {pc' : Nat} {k : Fin 4} {x : Int32} {l' : Array Slot} (hd : decode B pc = .ok (.istore_n k, 1)) (hp : pc + 1 = pc') (hl : storeLocals ls k.val (.int x) = some l') (hsz : l'.size = ls.size) (hr : Run w l Z EL n0 own nm B ret R Q Ny My h cells slots pc' l' (st)) : Run w l Z EL n0 own nm B ret R Q Ny My h cells slots pc ls (.int x :: st) :=
  Run.pure (fun p e below T m c target hA hx hby hs => XS.istoreN hA hx rfl (hb hby hd) rfl hl (by subst hp; exact hs)) hsz hr
theorem r_istore {pc' : Nat} {k : Nat} {x : Int32} {l' : Array Slot} (hd : decode B pc = .ok (.istore k, 2)) (hp : pc + 2 = pc') (hl : storeLocals ls k (.int x) = some l') (hsz : l'.size = ls.size) (hr : Run w l Z EL n0 own nm B ret R Q Ny My h cells slots pc' l' (st)) : Run w l Z EL n0 own nm B ret R Q Ny My h cells slots pc ls (.int x :: st) :=
  Run.pure (fun p e below T m c target hA hx hby hs => XS.istore hA hx rfl (hb hby hd) rfl hl (by subst hp; exact hs)) hsz hr
theorem r_lstoreN {pc' : Nat} {k : Fin 4} {x : Int64} {l' : Array Slot} (hd : decode B pc = .ok (.lstore_n k, 1)) (hp : pc + 1 = pc') (hl : storeLocals ls k.val (.long x) = some l') (hsz : l'.size = ls.size) (hr : Run w l Z EL n0 own nm B ret R Q Ny My h cells slots pc' l' (st)) : Run w l Z EL n0 own nm B ret R Q Ny My h cells slots pc ls (.long x :: st) :=
  Run.pure (fun p e below T m c target hA hx hby hs => XS.lstoreN hA hx rfl (hb hby hd) rfl hl (by subst hp; exact hs)) hsz hr
theorem r_lstore {pc' : Nat} {k : Nat} {x : Int64} {l' : Array Slot} (hd : decode B pc = .ok (.lstore k, 2)) (hp : pc + 2 = pc') (hl : storeLocals ls k (.long x) = some l') (hsz : l'.size = ls.size) (hr : Run w l Z EL n0 own nm B ret R Q Ny My h cells slots pc' l' (st)) : Run w l Z EL n0 own nm B ret R Q Ny My h cells slots pc ls (.long x :: st) :=
  Run.pure (fun p e below T m c target hA hx hby hs => XS.lstore hA hx rfl (hb hby hd) rfl hl (by subst hp; exact hs)) hsz hr
theorem r_astoreN {pc' : Nat} {k : Fin 4} {x : Value} {l' : Array Slot} (hd : decode B pc = .ok (.astore_n k, 1)) (hp : pc + 1 = pc') (hv : x.isRef = true) (hl : storeLocals ls k.val x = some l') (hsz : l'.size = ls.size) (hr : Run w l Z EL n0 own nm B ret R Q Ny My h cells slots pc' l' (st)) : Run w l Z EL n0 own nm B ret R Q Ny My h cells slots pc ls (x :: st) :=
  Run.pure (fun p e below T m c target hA hx hby hs => XS.astoreN hA hx rfl (hb hby hd) rfl hv hl (by subst hp; exact hs)) hsz hr
theorem r_astore {pc' : Nat} {k : Nat} {x : Value} {l' : Array Slot} (hd : decode B pc = .ok (.astore k, 2)) (hp : pc + 2 = pc') (hv : x.isRef = true) (hl : storeLocals ls k x = some l') (hsz : l'.size = ls.size) (hr : Run w l Z EL n0 own nm B ret R Q Ny My h cells slots pc' l' (st)) : Run w l Z EL n0 own nm B ret R Q Ny My h cells slots pc ls (x :: st) :=
  Run.pure (fun p e below T m c target hA hx hby hs => XS.astore hA hx rfl (hb hby hd) rfl hv hl (by subst hp; exact hs)) hsz hr
theorem r_iinc {pc' : Nat} {k : Nat} {cst : Int} {x : Int32} {l' : Array Slot} (hd : decode B pc = .ok (.iinc k cst, 3)) (hp : pc + 3 = pc') (hl : ls[k]? = some (.val (.int x))) (hl' : storeLocals ls k (.int (x + Int32.ofInt cst)) = some l') (hsz : l'.size = ls.size) (hr : Run w l Z EL n0 own nm B ret R Q Ny My h cells slots pc' l' (st)) : Run w l Z EL n0 own nm B ret R Q Ny My h cells slots pc ls (st) :=
  Run.pure (fun p e below T m c target hA hx hby hs => XS.iinc hA hx rfl (hb hby hd) hl hl' (by subst hp; exact hs)) hsz hr
theorem r_goto {pc' : Nat} {o : Int} (hd : decode B pc = .ok (.goto o, 3)) (hp : (pc : Int) + o = (pc' : Int)) (hr : Run w l Z EL n0 own nm B ret R Q Ny My h cells slots pc' ls st) : Run w l Z EL n0 own nm B ret R Q Ny My h cells slots pc ls st :=
  Run.pure (fun p e below T m c target hA hx hby hs => XS.goto hA hx rfl (pc0 := pc) (pc' := pc') rfl (hb hby hd) (by omega) (by omega) hs) rfl hr
theorem r_if {pc' pc2 : Nat} {cd : ClassFile.Cond} {o : Int} {x : Int32} (hd : decode B pc = .ok (.ifCond cd o, 3)) (hp : pc + 3 = pc') (hq : (pc : Int) + o = (pc2 : Int)) (h1 : if_icmp.holds cd x 0 = true → Run w l Z EL n0 own nm B ret R Q Ny My h cells slots pc2 ls st) (h2 : if_icmp.holds cd x 0 = false → Run w l Z EL n0 own nm B ret R Q Ny My h cells slots pc' ls st) : Run w l Z EL n0 own nm B ret R Q Ny My h cells slots pc ls (.int x :: st) := by
  cases hb0 : if_icmp.holds cd x 0 with
  | true => exact Run.pure (fun p e below T m c target hA hx hby hs => XS.ifYes hA hx rfl (pc0 := pc) (pc' := pc2) rfl (hb hby hd) rfl ((if0 _ _).trans hb0) (by omega) (by omega) hs) rfl (h1 hb0)
  | false => exact Run.pure (fun p e below T m c target hA hx hby hs => XS.ifNo hA hx rfl (hb hby hd) rfl ((if0 _ _).trans hb0) (by subst hp; exact hs)) rfl (h2 hb0)
theorem r_icmp {pc' pc2 : Nat} {cd : ClassFile.Cond} {o : Int} {x y : Int32} (hd : decode B pc = .ok (.if_icmp cd o, 3)) (hp : pc + 3 = pc') (hq : (pc : Int) + o = (pc2 : Int)) (h1 : if_icmp.holds cd x y = true → Run w l Z EL n0 own nm B ret R Q Ny My h cells slots pc2 ls st) (h2 : if_icmp.holds cd x y = false → Run w l Z EL n0 own nm B ret R Q Ny My h cells slots pc' ls st) : Run w l Z EL n0 own nm B ret R Q Ny My h cells slots pc ls (.int y :: .int x :: st) := by
  cases hb0 : if_icmp.holds cd x y with
  | true => exact Run.pure (fun p e below T m c target hA hx hby hs => XS.icmpYes hA hx rfl (pc0 := pc) (pc' := pc2) rfl (hb hby hd) rfl hb0 (by omega) (by omega) hs) rfl (h1 hb0)
  | false => exact Run.pure (fun p e below T m c target hA hx hby hs => XS.icmpNo hA hx rfl (hb hby hd) rfl hb0 (by subst hp; exact hs)) rfl (h2 hb0)
theorem h_eq {x y : Int32} : (if_icmp.holds .eq x y = true → x = y) ∧ (if_icmp.holds .eq x y = false → ¬ x = y) := ⟨fun q => Classical.byContradiction fun e => (by rw [(feq e).1] at q; cases q), fun q e => (by rw [(teq e).1] at q; cases q)⟩
theorem h_ne {x y : Int32} : (if_icmp.holds .ne x y = true → ¬ x = y) ∧ (if_icmp.holds .ne x y = false → x = y) := ⟨fun q e => (by rw [(teq e).2] at q; cases q), fun q => Classical.byContradiction fun e => (by rw [(feq e).2] at q; cases q)⟩
theorem h_lt {x y : Int32} : (if_icmp.holds .lt x y = true → x < y) ∧ (if_icmp.holds .lt x y = false → ¬ x < y) := ⟨fun q => Classical.byContradiction fun e => (by rw [(flt e).1] at q; cases q), fun q e => (by rw [(tlt e).1] at q; cases q)⟩
theorem h_ge {x y : Int32} : (if_icmp.holds .ge x y = true → ¬ x < y) ∧ (if_icmp.holds .ge x y = false → x < y) := ⟨fun q e => (by rw [(tlt e).2.1] at q; cases q), fun q => Classical.byContradiction fun e => (by rw [(flt e).2.1] at q; cases q)⟩
theorem h_gt {x y : Int32} : (if_icmp.holds .gt x y = true → y < x) ∧ (if_icmp.holds .gt x y = false → ¬ y < x) := ⟨fun q => Classical.byContradiction fun e => (by rw [(flt e).2.2.1] at q; cases q), fun q e => (by rw [(tlt e).2.2.1] at q; cases q)⟩
theorem h_le {x y : Int32} : (if_icmp.holds .le x y = true → ¬ y < x) ∧ (if_icmp.holds .le x y = false → y < x) := ⟨fun q e => (by rw [(tlt e).2.2.2] at q; cases q), fun q => Classical.byContradiction fun e => (by rw [(flt e).2.2.2] at q; cases q)⟩
theorem r_ifeq {pc' pc2 : Nat} {o : Int} {x : Int32} (hd : decode B pc = .ok (.ifCond .eq o, 3)) (hp : pc + 3 = pc') (hq : (pc : Int) + o = (pc2 : Int)) (h1 : x = (0 : Int32) → Run w l Z EL n0 own nm B ret R Q Ny My h cells slots pc2 ls st) (h2 : ¬ x = (0 : Int32) → Run w l Z EL n0 own nm B ret R Q Ny My h cells slots pc' ls st) : Run w l Z EL n0 own nm B ret R Q Ny My h cells slots pc ls (.int x :: st) := r_if hd hp hq (fun q => h1 (h_eq.1 q)) (fun q => h2 (h_eq.2 q))
theorem r_icmpeq {pc' pc2 : Nat} {o : Int} {x y : Int32} (hd : decode B pc = .ok (.if_icmp .eq o, 3)) (hp : pc + 3 = pc') (hq : (pc : Int) + o = (pc2 : Int)) (h1 : x = y → Run w l Z EL n0 own nm B ret R Q Ny My h cells slots pc2 ls st) (h2 : ¬ x = y → Run w l Z EL n0 own nm B ret R Q Ny My h cells slots pc' ls st) : Run w l Z EL n0 own nm B ret R Q Ny My h cells slots pc ls (.int y :: .int x :: st) := r_icmp hd hp hq (fun q => h1 (h_eq.1 q)) (fun q => h2 (h_eq.2 q))
theorem r_ifne {pc' pc2 : Nat} {o : Int} {x : Int32} (hd : decode B pc = .ok (.ifCond .ne o, 3)) (hp : pc + 3 = pc') (hq : (pc : Int) + o = (pc2 : Int)) (h1 : ¬ x = (0 : Int32) → Run w l Z EL n0 own nm B ret R Q Ny My h cells slots pc2 ls st) (h2 : x = (0 : Int32) → Run w l Z EL n0 own nm B ret R Q Ny My h cells slots pc' ls st) : Run w l Z EL n0 own nm B ret R Q Ny My h cells slots pc ls (.int x :: st) := r_if hd hp hq (fun q => h1 (h_ne.1 q)) (fun q => h2 (h_ne.2 q))
theorem r_icmpne {pc' pc2 : Nat} {o : Int} {x y : Int32} (hd : decode B pc = .ok (.if_icmp .ne o, 3)) (hp : pc + 3 = pc') (hq : (pc : Int) + o = (pc2 : Int)) (h1 : ¬ x = y → Run w l Z EL n0 own nm B ret R Q Ny My h cells slots pc2 ls st) (h2 : x = y → Run w l Z EL n0 own nm B ret R Q Ny My h cells slots pc' ls st) : Run w l Z EL n0 own nm B ret R Q Ny My h cells slots pc ls (.int y :: .int x :: st) := r_icmp hd hp hq (fun q => h1 (h_ne.1 q)) (fun q => h2 (h_ne.2 q))
theorem r_iflt {pc' pc2 : Nat} {o : Int} {x : Int32} (hd : decode B pc = .ok (.ifCond .lt o, 3)) (hp : pc + 3 = pc') (hq : (pc : Int) + o = (pc2 : Int)) (h1 : x < (0 : Int32) → Run w l Z EL n0 own nm B ret R Q Ny My h cells slots pc2 ls st) (h2 : ¬ x < (0 : Int32) → Run w l Z EL n0 own nm B ret R Q Ny My h cells slots pc' ls st) : Run w l Z EL n0 own nm B ret R Q Ny My h cells slots pc ls (.int x :: st) := r_if hd hp hq (fun q => h1 (h_lt.1 q)) (fun q => h2 (h_lt.2 q))
theorem r_icmplt {pc' pc2 : Nat} {o : Int} {x y : Int32} (hd : decode B pc = .ok (.if_icmp .lt o, 3)) (hp : pc + 3 = pc') (hq : (pc : Int) + o = (pc2 : Int)) (h1 : x < y → Run w l Z EL n0 own nm B ret R Q Ny My h cells slots pc2 ls st) (h2 : ¬ x < y → Run w l Z EL n0 own nm B ret R Q Ny My h cells slots pc' ls st) : Run w l Z EL n0 own nm B ret R Q Ny My h cells slots pc ls (.int y :: .int x :: st) := r_icmp hd hp hq (fun q => h1 (h_lt.1 q)) (fun q => h2 (h_lt.2 q))
theorem r_ifge {pc' pc2 : Nat} {o : Int} {x : Int32} (hd : decode B pc = .ok (.ifCond .ge o, 3)) (hp : pc + 3 = pc') (hq : (pc : Int) + o = (pc2 : Int)) (h1 : ¬ x < (0 : Int32) → Run w l Z EL n0 own nm B ret R Q Ny My h cells slots pc2 ls st) (h2 : x < (0 : Int32) → Run w l Z EL n0 own nm B ret R Q Ny My h cells slots pc' ls st) : Run w l Z EL n0 own nm B ret R Q Ny My h cells slots pc ls (.int x :: st) := r_if hd hp hq (fun q => h1 (h_ge.1 q)) (fun q => h2 (h_ge.2 q))
theorem r_icmpge {pc' pc2 : Nat} {o : Int} {x y : Int32} (hd : decode B pc = .ok (.if_icmp .ge o, 3)) (hp : pc + 3 = pc') (hq : (pc : Int) + o = (pc2 : Int)) (h1 : ¬ x < y → Run w l Z EL n0 own nm B ret R Q Ny My h cells slots pc2 ls st) (h2 : x < y → Run w l Z EL n0 own nm B ret R Q Ny My h cells slots pc' ls st) : Run w l Z EL n0 own nm B ret R Q Ny My h cells slots pc ls (.int y :: .int x :: st) := r_icmp hd hp hq (fun q => h1 (h_ge.1 q)) (fun q => h2 (h_ge.2 q))
theorem r_ifgt {pc' pc2 : Nat} {o : Int} {x : Int32} (hd : decode B pc = .ok (.ifCond .gt o, 3)) (hp : pc + 3 = pc') (hq : (pc : Int) + o = (pc2 : Int)) (h1 : (0 : Int32) < x → Run w l Z EL n0 own nm B ret R Q Ny My h cells slots pc2 ls st) (h2 : ¬ (0 : Int32) < x → Run w l Z EL n0 own nm B ret R Q Ny My h cells slots pc' ls st) : Run w l Z EL n0 own nm B ret R Q Ny My h cells slots pc ls (.int x :: st) := r_if hd hp hq (fun q => h1 (h_gt.1 q)) (fun q => h2 (h_gt.2 q))
theorem r_icmpgt {pc' pc2 : Nat} {o : Int} {x y : Int32} (hd : decode B pc = .ok (.if_icmp .gt o, 3)) (hp : pc + 3 = pc') (hq : (pc : Int) + o = (pc2 : Int)) (h1 : y < x → Run w l Z EL n0 own nm B ret R Q Ny My h cells slots pc2 ls st) (h2 : ¬ y < x → Run w l Z EL n0 own nm B ret R Q Ny My h cells slots pc' ls st) : Run w l Z EL n0 own nm B ret R Q Ny My h cells slots pc ls (.int y :: .int x :: st) := r_icmp hd hp hq (fun q => h1 (h_gt.1 q)) (fun q => h2 (h_gt.2 q))
theorem r_ifle {pc' pc2 : Nat} {o : Int} {x : Int32} (hd : decode B pc = .ok (.ifCond .le o, 3)) (hp : pc + 3 = pc') (hq : (pc : Int) + o = (pc2 : Int)) (h1 : ¬ (0 : Int32) < x → Run w l Z EL n0 own nm B ret R Q Ny My h cells slots pc2 ls st) (h2 : (0 : Int32) < x → Run w l Z EL n0 own nm B ret R Q Ny My h cells slots pc' ls st) : Run w l Z EL n0 own nm B ret R Q Ny My h cells slots pc ls (.int x :: st) := r_if hd hp hq (fun q => h1 (h_le.1 q)) (fun q => h2 (h_le.2 q))
theorem r_icmple {pc' pc2 : Nat} {o : Int} {x y : Int32} (hd : decode B pc = .ok (.if_icmp .le o, 3)) (hp : pc + 3 = pc') (hq : (pc : Int) + o = (pc2 : Int)) (h1 : ¬ y < x → Run w l Z EL n0 own nm B ret R Q Ny My h cells slots pc2 ls st) (h2 : y < x → Run w l Z EL n0 own nm B ret R Q Ny My h cells slots pc' ls st) : Run w l Z EL n0 own nm B ret R Q Ny My h cells slots pc ls (.int y :: .int x :: st) := r_icmp hd hp hq (fun q => h1 (h_le.1 q)) (fun q => h2 (h_le.2 q))
theorem r_ifnullY {pc2 : Nat} {o : Int} (hd : decode B pc = .ok (.ifnull o, 3)) (hq : (pc : Int) + o = (pc2 : Int)) (hr : Run w l Z EL n0 own nm B ret R Q Ny My h cells slots pc2 ls st) : Run w l Z EL n0 own nm B ret R Q Ny My h cells slots pc ls (.null :: st) :=
  Run.pure (fun p e below T m c target hA hx hby hs => XS.ifnullYes hA hx rfl (pc0 := pc) (pc' := pc2) rfl (hb hby hd) rfl (by omega) (by omega) hs) rfl hr
theorem r_ifnullN {pc' : Nat} {o : Int} {b : Addr} (hd : decode B pc = .ok (.ifnull o, 3)) (hp : pc + 3 = pc') (hr : Run w l Z EL n0 own nm B ret R Q Ny My h cells slots pc' ls st) : Run w l Z EL n0 own nm B ret R Q Ny My h cells slots pc ls (.ref b :: st) :=
  Run.pure (fun p e below T m c target hA hx hby hs => XS.ifnullNo hA hx rfl (hb hby hd) rfl (by subst hp; exact hs)) rfl hr
theorem r_ifnonnullY {pc2 : Nat} {o : Int} {b : Addr} (hd : decode B pc = .ok (.ifnonnull o, 3)) (hq : (pc : Int) + o = (pc2 : Int)) (hr : Run w l Z EL n0 own nm B ret R Q Ny My h cells slots pc2 ls st) : Run w l Z EL n0 own nm B ret R Q Ny My h cells slots pc ls (.ref b :: st) :=
  Run.pure (fun p e below T m c target hA hx hby hs => XS.ifnonnullYes hA hx rfl (pc0 := pc) (pc' := pc2) rfl (hb hby hd) rfl (by omega) (by omega) hs) rfl hr
theorem r_ifnonnullN {pc' : Nat} {o : Int} (hd : decode B pc = .ok (.ifnonnull o, 3)) (hp : pc + 3 = pc') (hr : Run w l Z EL n0 own nm B ret R Q Ny My h cells slots pc' ls st) : Run w l Z EL n0 own nm B ret R Q Ny My h cells slots pc ls (.null :: st) :=
  Run.pure (fun p e below T m c target hA hx hby hs => XS.ifnonnullNo hA hx rfl (hb hby hd) rfl (by subst hp; exact hs)) rfl hr
theorem r_acmp {pc' pc2 : Nat} {cd : ClassFile.ACond} {o : Int} {x y : Value} (hx1 : x.isRef = true) (hy1 : y.isRef = true) (hd : decode B pc = .ok (.if_acmp cd o, 3)) (hp : pc + 3 = pc') (hq : (pc : Int) + o = (pc2 : Int)) (h1 : XT.acmp cd x y = true → Run w l Z EL n0 own nm B ret R Q Ny My h cells slots pc2 ls st) (h2 : XT.acmp cd x y = false → Run w l Z EL n0 own nm B ret R Q Ny My h cells slots pc' ls st) : Run w l Z EL n0 own nm B ret R Q Ny My h cells slots pc ls (y :: x :: st) := by
  cases hb0 : XT.acmp cd x y with
  | true => exact Run.pure (fun p e below T m c target hA hx hby hs => XT.acmpYes hA hx rfl (pc0 := pc) (pc' := pc2) rfl (hb hby hd) rfl hx1 hy1 hb0 (by omega) (by omega) hs) rfl (h1 hb0)
  | false => exact Run.pure (fun p e below T m c target hA hx hby hs => XT.acmpNo hA hx rfl (hb hby hd) rfl hx1 hy1 hb0 (by subst hp; exact hs)) rfl (h2 hb0)
theorem r_irem {pc' : Nat} {x y : Int32} (hd : decode B pc = .ok (.irem, 1)) (hp : pc + 1 = pc') (hy : y ≠ 0) (hr : Run w l Z EL n0 own nm B ret R Q Ny My h cells slots pc' ls (.int (x % y) :: st)) : Run w l Z EL n0 own nm B ret R Q Ny My h cells slots pc ls (.int y :: .int x :: st) :=
  Run.warm (fun p e s m args below meth c T locs hx hby hml hnm hZ hown X eT hO => ⟨T, X, eT, fun t k => iremM X hx (g := mkF m pc ls (.int y :: .int x :: st)) rfl (hb hby hd) rfl hy (by subst hp; exact k)⟩) hr
theorem r_getfield {pc' : Nat} {R0 O n d host : String} {index : Nat} {a : Addr} {v : Value} (hd : decode B pc = .ok (.getfield index, 3)) (hp : pc + 3 = pc') (wl : (Jvm.Cond.fieldLink own index R0 n d).before a0 Z = true ∨ (Jvm.Cond.fieldLinkNest own index R0 n d host).before a0 Z = true) (via : Via Z R0 O n d) (F : Fld Z h a O n d v) (hr : Run w l Z EL n0 own nm B ret R Q Ny My h cells slots pc' ls (v :: st)) : Run w l Z EL n0 own nm B ret R Q Ny My h cells slots pc ls (.ref a :: st) :=
  Run.warm (fun p e s m args below meth c T locs hx hby hml hnm hZ hown X eT hO => by
    obtain ⟨T', X', e', stp⟩ := getF X hx hZ hown wl via eT F (g := mkF m pc ls (.ref a :: st)) rfl rfl (hb hby hd)
    exact ⟨T', X', e', fun t k => stp t (by subst hp; exact k)⟩) hr
theorem r_getstatic {pc' : Nat} {R0 O n d host : String} {index : Nat} {v : Value} (hd : decode B pc = .ok (.getstatic index, 3)) (hp : pc + 3 = pc') (wl : (Jvm.Cond.fieldLink own index R0 n d).before a0 Z = true ∨ (Jvm.Cond.fieldLinkNest own index R0 n d host).before a0 Z = true) (via : Via Z R0 O n d) (F : Sta Z Z.heap O n d v) (hr : Run w l Z EL n0 own nm B ret R Q Ny My h cells slots pc' ls (v :: st)) : Run w l Z EL n0 own nm B ret R Q Ny My h cells slots pc ls st :=
  Run.warm (fun p e s m args below meth c T locs hx hby hml hnm hZ hown X eT hO => by
    obtain ⟨T', X', e', stp⟩ := getS2 X hx hZ hown wl via eT (F.ext hO.2) (g := mkF m pc ls st) rfl (hb hby hd)
    exact ⟨T', X', e', fun t k => stp t (by subst hp; exact k)⟩) hr
theorem r_castY {pc' : Nat} {K : String} {index : Nat} {a : Addr} (hd : decode B pc = .ok (.checkcast index, 3)) (hp : pc + 3 = pc') (wl : (Jvm.Cond.classLink own index K).before a0 Z = true) (F : Ins Z h a K true) (hr : Run w l Z EL n0 own nm B ret R Q Ny My h cells slots pc' ls (.ref a :: st)) : Run w l Z EL n0 own nm B ret R Q Ny My h cells slots pc ls (.ref a :: st) :=
  Run.warm (fun p e s m args below meth c T locs hx hby hml hnm hZ hown X eT hO => by
    obtain ⟨T', X', e', stp⟩ := castY X hx hZ hown wl eT F (g := mkF m pc ls (.ref a :: st)) rfl rfl (hb hby hd)
    exact ⟨T', X', e', fun t k => stp t (by subst hp; exact k)⟩) hr
theorem r_instY {pc' : Nat} {K : String} {index : Nat} {a : Addr} (hd : decode B pc = .ok (.instanceof index, 3)) (hp : pc + 3 = pc') (wl : (Jvm.Cond.classLink own index K).before a0 Z = true) (F : Ins Z h a K true) (hr : Run w l Z EL n0 own nm B ret R Q Ny My h cells slots pc' ls (.int 1 :: st)) : Run w l Z EL n0 own nm B ret R Q Ny My h cells slots pc ls (.ref a :: st) :=
  Run.warm (fun p e s m args below meth c T locs hx hby hml hnm hZ hown X eT hO => by
    obtain ⟨T', X', e', stp⟩ := instY X hx hZ hown wl eT F (g := mkF m pc ls (.ref a :: st)) rfl rfl (hb hby hd)
    exact ⟨T', X', e', fun t k => stp t (by subst hp; exact k)⟩) hr
theorem r_instNo {pc' : Nat} {K C : String} {index : Nat} {a : Addr} (hd : decode B pc = .ok (.instanceof index, 3)) (hp : pc + 3 = pc') (wl : (Jvm.Cond.classLink own index K).before a0 Z = true) (E : Exa Z h a C) (F : ∃ c t, Z.vm.findClass C = some c ∧ Z.vm.findClass K = some t ∧ Z.vm.assignable c t = false) (hr : Run w l Z EL n0 own nm B ret R Q Ny My h cells slots pc' ls (.int 0 :: st)) : Run w l Z EL n0 own nm B ret R Q Ny My h cells slots pc ls (.ref a :: st) :=
  Run.warm (fun p e s m args below meth c T locs hx hby hml hnm hZ hown X eT hO => by
    obtain ⟨T', X', e', stp⟩ := instNo X hx hZ hown wl eT E F (g := mkF m pc ls (.ref a :: st)) rfl rfl (hb hby hd)
    exact ⟨T', X', e', fun t k => stp t (by subst hp; exact k)⟩) hr
theorem r_instNull {pc' : Nat} {index : Nat} (hd : decode B pc = .ok (.instanceof index, 3)) (hp : pc + 3 = pc') (hr : Run w l Z EL n0 own nm B ret R Q Ny My h cells slots pc' ls (.int 0 :: st)) : Run w l Z EL n0 own nm B ret R Q Ny My h cells slots pc ls (.null :: st) :=
  Run.warm (fun p e s m args below meth c T locs hx hby hml hnm hZ hown X eT hO => ⟨T, X, eT, fun t k => X.instanceofNull hx (g := mkF m pc ls (.null :: st)) rfl rfl (hb hby hd) t (by subst hp; exact k)⟩) hr
theorem r_castNull {pc' : Nat} {index : Nat} (hd : decode B pc = .ok (.checkcast index, 3)) (hp : pc + 3 = pc') (hr : Run w l Z EL n0 own nm B ret R Q Ny My h cells slots pc' ls (.null :: st)) : Run w l Z EL n0 own nm B ret R Q Ny My h cells slots pc ls (.null :: st) :=
  Run.warm (fun p e s m args below meth c T locs hx hby hml hnm hZ hown X eT hO => ⟨T, X, eT, fun t k => X.checkcastNull hx (g := mkF m pc ls (.null :: st)) rfl rfl (hb hby hd) t (by subst hp; exact k)⟩) hr
theorem r_initO {pc' : Nat} {index : Nat} {a : Addr} {W : Nat} (hd : decode B pc = .ok (.invokespecial index, 3)) (hp : pc + 3 = pc') (w1 : (Jvm.Cond.methodLink own index Lib.objectInit).before a0 Z = true) (w2 : (Jvm.Cond.instanceMethod Lib.objectInit).before a0 Z = true) (w3 : (Jvm.Cond.code Lib.objectInit ⟨#[0xb1]⟩ 1 none).before a0 Z = true)
    (hf : 1 ≤ R.frames) (hW : (st.map fun v => v.category).sum ≤ W) (hl : W + 12 ≤ R.locals) (hr : Run w l Z EL n0 own nm B ret R Q Ny My h cells slots pc' ls st) : Run w l Z EL n0 own nm B ret R Q Ny My h cells slots pc ls (.ref a :: st) :=
  Run.warm (fun p e s m args below meth c T locs hx hby hml hnm hZ hown X eT hO => by
    obtain ⟨T', X', e', stp⟩ := initO X hx hZ hown w1 w2 w3 eT (g := mkF m pc ls (.ref a :: st)) rfl hml.symm rfl (hb hby hd) hf (W := W) (by show 2 * 0 + _ ≤ _; omega) hl
    exact ⟨T', X', e', fun t k => stp t (by subst hp; exact k)⟩) hr
theorem r_ldcI {pc' : Nat} {index : Nat} {v : Int32} (hd : decode B pc = .ok (.ldc index, 2)) (hp : pc + 2 = pc') (wl : (Jvm.Cond.constant own index v).before a0 Z = true) (hr : Run w l Z EL n0 own nm B ret R Q Ny My h cells slots pc' ls (.int v :: st)) : Run w l Z EL n0 own nm B ret R Q Ny My h cells slots pc ls st :=
  Run.warm (fun p e s m args below meth c T locs hx hby hml hnm hZ hown X eT hO => ⟨T, X, eT, fun t k => X.ldcInt hx hown (mvT hZ wl) (g := mkF m pc ls st) rfl (hb hby hd) t (by subst hp; exact k)⟩) hr
theorem r_ldcwI {pc' : Nat} {index : Nat} {v : Int32} (hd : decode B pc = .ok (.ldc_w index, 3)) (hp : pc + 3 = pc') (wl : (Jvm.Cond.constant own index v).before a0 Z = true) (hr : Run w l Z EL n0 own nm B ret R Q Ny My h cells slots pc' ls (.int v :: st)) : Run w l Z EL n0 own nm B ret R Q Ny My h cells slots pc ls st :=
  Run.warm (fun p e s m args below meth c T locs hx hby hml hnm hZ hown X eT hO => ⟨T, X, eT, fun t k => X.ldcwInt hx hown (mvT hZ wl) (g := mkF m pc ls st) rfl (hb hby hd) t (by subst hp; exact k)⟩) hr
theorem r_lookHit {pc2 len : Nat} {k : Int32} {dflt a off : Int} {pairs : Array (Int × Int)} (hd : decode B pc = .ok (.lookupswitch dflt pairs, len)) (hs : (pairs.toList.zip (pairs.toList.drop 1)).all (fun (a, next) => a.1 < next.1) = true) (hf : pairs.find? (·.1 == k.toInt) = some (a, off)) (hq : (pc : Int) + off = (pc2 : Int)) (hr : Run w l Z EL n0 own nm B ret R Q Ny My h cells slots pc2 ls st) : Run w l Z EL n0 own nm B ret R Q Ny My h cells slots pc ls (.int k :: st) :=
  Run.warm (fun p ee s m args below meth c T locs hx hby hml hnm hZ hown X eT hO => ⟨T, X, eT, fun t kk => X.lookupswitchHit hx (g := mkF m pc ls (.int k :: st)) rfl rfl (hb hby hd) hs hf (by show 0 ≤ (pc : Int) + off; omega) t (by
    have e : ((pc : Int) + off).toNat = pc2 := by omega
    show Steps p.tables ee below (T.setTop (mkF m ((pc : Int) + off).toNat ls st)) t
    rw [e]; exact kk)⟩) hr
theorem r_lookMiss {pc2 len : Nat} {k : Int32} {dflt : Int} {pairs : Array (Int × Int)} (hd : decode B pc = .ok (.lookupswitch dflt pairs, len)) (hs : (pairs.toList.zip (pairs.toList.drop 1)).all (fun (a, next) => a.1 < next.1) = true) (hf : pairs.find? (·.1 == k.toInt) = none) (hq : (pc : Int) + dflt = (pc2 : Int)) (hr : Run w l Z EL n0 own nm B ret R Q Ny My h cells slots pc2 ls st) : Run w l Z EL n0 own nm B ret R Q Ny My h cells slots pc ls (.int k :: st) :=
  Run.warm (fun p ee s m args below meth c T locs hx hby hml hnm hZ hown X eT hO => ⟨T, X, eT, fun t kk => X.lookupswitchMiss hx (g := mkF m pc ls (.int k :: st)) rfl rfl (hb hby hd) hs hf (by show 0 ≤ (pc : Int) + dflt; omega) t (by
    have e : ((pc : Int) + dflt).toNat = pc2 := by omega
    show Steps p.tables ee below (T.setTop (mkF m ((pc : Int) + dflt).toNat ls st)) t
    rw [e]; exact kk)⟩) hr
theorem r_tabIn {pc2 len : Nat} {k : Int32} {dflt low high off : Int} {offs : Array Int} (hd : decode B pc = .ok (.tableswitch dflt low high offs, len)) (hin : ¬ (k.toInt < low ∨ k.toInt > high)) (ho : offs[(k.toInt - low).toNat]? = some off) (hq : (pc : Int) + off = (pc2 : Int)) (hr : Run w l Z EL n0 own nm B ret R Q Ny My h cells slots pc2 ls st) : Run w l Z EL n0 own nm B ret R Q Ny My h cells slots pc ls (.int k :: st) :=
  Run.pure (fun p e below T m c target hA hx hby hs => XS.tswIn hA hx rfl (pc0 := pc) (pc' := pc2) rfl (hb hby hd) rfl hin ho (by omega) (by omega) hs) rfl hr
theorem r_tabOut {pc2 len : Nat} {k : Int32} {dflt low high : Int} {offs : Array Int} (hd : decode B pc = .ok (.tableswitch dflt low high offs, len)) (hout : k.toInt < low ∨ k.toInt > high) (hq : (pc : Int) + dflt = (pc2 : Int)) (hr : Run w l Z EL n0 own nm B ret R Q Ny My h cells slots pc2 ls st) : Run w l Z EL n0 own nm B ret R Q Ny My h cells slots pc ls (.int k :: st) :=
  Run.pure (fun p e below T m c target hA hx hby hs => XS.tswOut hA hx rfl (pc0 := pc) (pc' := pc2) rfl (hb hby hd) rfl hout (by omega) (by omega) hs) rfl hr
theorem r_ldc2L {pc' : Nat} {index : Nat} {v : Int64} (hd : decode B pc = .ok (.ldc2_w index, 3)) (hp : pc + 3 = pc') (wl : (Jvm.Cond.constantLong own index v).before a0 Z = true) (hr : Run w l Z EL n0 own nm B ret R Q Ny My h cells slots pc' ls (.long v :: st)) : Run w l Z EL n0 own nm B ret R Q Ny My h cells slots pc ls st :=
  Run.warm (fun p e s m args below meth c T locs hx hby hml hnm hZ hown X eT hO => ⟨T, X, eT, fun t k => X.ldc2Long hx hown (mvT hZ wl) (g := mkF m pc ls st) rfl (hb hby hd) t (by subst hp; exact k)⟩) hr
theorem r_arraylength {pc' : Nat} {a : Addr} {k : ClassId} {ty : FieldType} {z : Int32} {vs : List Value} {dv : Value} (hd : decode B pc = .ok (.arraylength, 1)) (hp : pc + 1 = pc') (A : Arv Z h a k ty z vs dv) (hr : Run w l Z EL n0 own nm B ret R Q Ny My h cells slots pc' ls (.int z :: st)) : Run w l Z EL n0 own nm B ret R Q Ny My h cells slots pc ls (.ref a :: st) :=
  Run.warm (fun p e s m args below meth c T locs hx hby hml hnm hZ hown X eT hO => by
    obtain ⟨cl, A1, -, S1, N1, -, -⟩ := A
    refine ⟨T, X, eT, fun t k => X.arraylength hx (by rw [eT]; exact A1.1) (State.isArrayOf_alike hZ.alike A1.2.1) (g := mkF m pc ls (.ref a :: st)) rfl rfl (hb hby hd) t ?_⟩
    rw [len_of S1 N1]; subst hp; exact k) hr
theorem arv_at {Z : State} {h : Heap} {a : Addr} {k : ClassId} {ty : FieldType} {z j : Int32} {vs : List Value} {dv v : Value} (A : Arv Z h a k ty z vs dv) (hj : ¬ j < 0 ∧ j < z) (hv : vs.getD j.toNatClampNeg dv = v) :
    ∃ c, Arr Z h a c ty ∧ ¬ (j < 0 ∨ c.slots.size ≤ j.toNatClampNeg) ∧ c.slots[j.toNatClampNeg]? = some v := by
  obtain ⟨cl, A1, -, S1, N1, H1, -⟩ := A
  exact ⟨cl, A1, inb_of S1 hj, H1.at (inb_of S1 hj) hv⟩
theorem r_caload {pc' : Nat} {a : Addr} {k : ClassId} {z j : Int32} {vs : List Value} {dv v : Value} (hd : decode B pc = .ok (.caload, 1)) (hp : pc + 1 = pc') (A : Arv Z h a k .char z vs dv) (hj : ¬ j < 0 ∧ j < z) (hv : vs.getD j.toNatClampNeg dv = v) (hr : Run w l Z EL n0 own nm B ret R Q Ny My h cells slots pc' ls (v :: st)) : Run w l Z EL n0 own nm B ret R Q Ny My h cells slots pc ls (.int j :: .ref a :: st) :=
  Run.warm (fun p e s m args below meth c T locs hx hby hml hnm hZ hown X eT hO => by
    obtain ⟨cl, A1, b1, g1⟩ := arv_at A hj hv
    exact ⟨T, X, eT, fun t k => X.caload hx (by rw [eT]; exact A1.1) (State.isArrayOf_alike hZ.alike A1.2.1) A1.2.2 b1 g1 (g := mkF m pc ls (.int j :: .ref a :: st)) rfl rfl (hb hby hd) t (by subst hp; exact k)⟩) hr
theorem r_iaload {pc' : Nat} {a : Addr} {k : ClassId} {z j : Int32} {vs : List Value} {dv v : Value} (hd : decode B pc = .ok (.iaload, 1)) (hp : pc + 1 = pc') (A : Arv Z h a k .int z vs dv) (hj : ¬ j < 0 ∧ j < z) (hv : vs.getD j.toNatClampNeg dv = v) (hr : Run w l Z EL n0 own nm B ret R Q Ny My h cells slots pc' ls (v :: st)) : Run w l Z EL n0 own nm B ret R Q Ny My h cells slots pc ls (.int j :: .ref a :: st) :=
  Run.warm (fun p e s m args below meth c T locs hx hby hml hnm hZ hown X eT hO => by
    obtain ⟨cl, A1, b1, g1⟩ := arv_at A hj hv
    exact ⟨T, X, eT, fun t k => X.iaload hx (by rw [eT]; exact A1.1) (State.isArrayOf_alike hZ.alike A1.2.1) A1.2.2 b1 g1 (g := mkF m pc ls (.int j :: .ref a :: st)) rfl rfl (hb hby hd) t (by subst hp; exact k)⟩) hr
theorem r_baload {pc' : Nat} {a : Addr} {k : ClassId} {z j : Int32} {vs : List Value} {dv v : Value} (hd : decode B pc = .ok (.baload, 1)) (hp : pc + 1 = pc') (A : Arv Z h a k .byte z vs dv) (hj : ¬ j < 0 ∧ j < z) (hv : vs.getD j.toNatClampNeg dv = v) (hr : Run w l Z EL n0 own nm B ret R Q Ny My h cells slots pc' ls (v :: st)) : Run w l Z EL n0 own nm B ret R Q Ny My h cells slots pc ls (.int j :: .ref a :: st) :=
  Run.warm (fun p e s m args below meth c T locs hx hby hml hnm hZ hown X eT hO => by
    obtain ⟨cl, A1, b1, g1⟩ := arv_at A hj hv
    exact ⟨T, X, eT, fun t k => X.baloadBytes hx (by rw [eT]; exact A1.1) (State.isArrayOf_alike hZ.alike A1.2.1) A1.2.2 b1 g1 (g := mkF m pc ls (.int j :: .ref a :: st)) rfl rfl (hb hby hd) t (by subst hp; exact k)⟩) hr
theorem r_aaload {pc' : Nat} {a : Addr} {k : ClassId} {ty : FieldType} {z j : Int32} {vs : List Value} {dv v : Value} (hd : decode B pc = .ok (.aaload, 1)) (hp : pc + 1 = pc') (A : Arv Z h a k ty z vs dv) (hty : ty.isReference = true) (hj : ¬ j < 0 ∧ j < z) (hv : vs.getD j.toNatClampNeg dv = v) (hr : Run w l Z EL n0 own nm B ret R Q Ny My h cells slots pc' ls (v :: st)) : Run w l Z EL n0 own nm B ret R Q Ny My h cells slots pc ls (.int j :: .ref a :: st) :=
  Run.warm (fun p e s m args below meth c T locs hx hby hml hnm hZ hown X eT hO => by
    obtain ⟨cl, A1, b1, g1⟩ := arv_at A hj hv
    exact ⟨T, X, eT, fun t k => X.aaload hx (by rw [eT]; exact A1.1) (State.isArrayOf_alike hZ.alike A1.2.1) hty A1.2.2 b1 g1 (g := mkF m pc ls (.int j :: .ref a :: st)) rfl rfl (hb hby hd) t (by subst hp; exact k)⟩) hr
/-- a step that makes or writes -/
theorem Run.heap {pc' cells' slots' : Nat} {st' : List Value} {h' : Heap} {My' : List Addr} (H : ∀ (p : Program) (e : Env) (s : State) (m : MethodId) (args : Array Value) (below : List Frame) (meth : Method) (c : Code) (T : State) (locs : List Loc) (vm : Vm), p.tables.exec = Jvm.exec → c.code = B → c.maxLocals = ls.size → meth.name = nm → Z.Warmed39 vm → vm.findClass own = some m.cls → Stand p l e R (s.setVm vm) m args below meth c T locs cells slots → T.heap = h → Fr n0 locs → Hid w Z EL n0 My s vm h →
      ∃ T' locs', Stand p l e R (s.setVm vm) m args below meth c T' locs' cells' slots' ∧ T'.heap = h' ∧ Fr n0 locs' ∧ Hid w Z EL n0 My' s vm h' ∧ ∀ target, Steps p.tables e below (T'.setTop (mkF m pc' ls st')) target → Steps p.tables e below (T.setTop (mkF m pc ls st)) target)
    (hr : Run w l Z EL n0 own nm B ret R Q Ny My' h' cells' slots' pc' ls st') : Run w l Z EL n0 own nm B ret R Q Ny My h cells slots pc ls st := by
  intro p e s m args below meth c T locs vm hx hby hml hret hnm hlk hZ hown X eT N hH
  obtain ⟨T', locs', X', e', N', hH', stp⟩ := H p e s m args below meth c T locs vm hx hby hml hnm hZ hown X eT N hH
  obtain ⟨t, o, hs, r⟩ := hr p e s m args below meth c T' locs' vm hx hby hml hret hnm hlk hZ hown X' e' N' hH'
  exact ⟨t, o, stp t hs, r⟩
theorem r_new {pc' : Nat} {C : String} {index n : Nat} (hd : decode B pc = .ok (.new index, 3)) (hp : pc + 3 = pc') (wl : (Jvm.Cond.classLink own index C).before a0 Z = true) (wi : (Jvm.Cond.instantiable C n).before a0 Z = true) (wz : (Jvm.Cond.initialized C).before a0 Z = true) (hc : cells + 1 ≤ R.cells) (hl : slots + n ≤ R.slots)
    (K : ∀ (h' : Heap) (b : Nat), b = h.size → h.size < h'.size → Ext h h' → Exa Z h' b C → (∀ {O nm d : String} {ty : FieldType}, Laid Z a0 C O nm d → parseFieldDescriptor d = some ty → Fld Z h' b O nm d (defaultValue ty)) → Unt h' b → Run w l Z EL n0 own nm B ret R Q Ny (b :: My) h' (cells + 1) (slots + n) pc' ls (.ref b :: st)) : Run w l Z EL n0 own nm B ret R Q Ny My h cells slots pc ls st := by
  intro p e s m args below meth c T locs vm hx hby hml hret hnm hlk hZ hown X eT N hH
  obtain ⟨T', h', X', e', E', A', D', U', stp⟩ := newO X hx hZ hown wl wi wz eT (g := mkF m pc ls st) rfl (hb hby hd) hc hl
  have hlt : h.size < h'.size := A'.lt
  obtain ⟨t, o, hs, r⟩ := K h' h.size rfl hlt E' A' D' U' p e s m args below meth c T' locs vm hx hby hml hret hnm hlk hZ hown X' e' N (hH.extNew E' hlt)
  exact ⟨t, o, stp t (by subst hp; exact hs), r⟩
theorem r_newP {pc' : Nat} {aty : ArrayType} {n : Int32} {cap : Nat} {ad : String} (hd : decode B pc = .ok (.newarray aty, 2)) (hp : pc + 2 = pc') (wa : (Jvm.Cond.arrayClass (newarray.typeOf aty)).before a0 Z = true) (hn : ¬ n < 0) (hcap : n.toNatClampNeg ≤ cap) (hbig : cap * 8 ≤ 536870912) (hc : cells + 1 ≤ R.cells) (hl : slots + cap ≤ R.slots) (had : "[" ++ (newarray.typeOf aty).toString = ad)
    (K : ∀ (h' : Heap) (b : Nat) (k : ClassId), b = h.size → h.size < h'.size → Ext h h' → Exa Z h' b ad → Arv Z h' b k (newarray.typeOf aty) n [] (defaultValue (newarray.typeOf aty)) → Run w l Z EL n0 own nm B ret R Q Ny (b :: My) h' (cells + 1) (slots + cap) pc' ls (.ref b :: st)) : Run w l Z EL n0 own nm B ret R Q Ny My h cells slots pc ls (.int n :: st) := by
  intro p e s m args below meth c T locs vm hx hby hml hret hnm hlk hZ hown X eT N hH
  obtain ⟨T', h', cA, X', e', E', A', D', stp⟩ := newPE X hx hZ wa eT (g := mkF m pc ls (.int n :: st)) rfl (hb hby hd) rfl hn hcap hbig hc hl had
  have hlt : h.size < h'.size := D'.lt
  obtain ⟨t, o, hs, r⟩ := K h' h.size cA rfl hlt E' D' (Arv.new A' hn) p e s m args below meth c T' locs vm hx hby hml hret hnm hlk hZ hown X' e' N (hH.extNew E' hlt)
  exact ⟨t, o, stp t (by subst hp; exact hs), r⟩
theorem r_newR {pc' : Nat} {C : String} {index : Nat} {n : Int32} {cap : Nat} {ad : String} (hd : decode B pc = .ok (.anewarray index, 3)) (hp : pc + 3 = pc') (w1 : (Jvm.Cond.classLink own index C).before a0 Z = true) (w2 : (Jvm.Cond.arrayOver (.object C)).before a0 Z = true) (hn : ¬ n < 0) (hcap : n.toNatClampNeg ≤ cap) (hbig : cap * 8 ≤ 536870912) (hc : cells + 1 ≤ R.cells) (hl : slots + cap ≤ R.slots) (had : "[" ++ (FieldType.object C).toString = ad)
    (K : ∀ (h' : Heap) (b : Nat) (k : ClassId), b = h.size → h.size < h'.size → Ext h h' → Exa Z h' b ad → Ovr Z k C → Arv Z h' b k (.object C) n [] .null → Run w l Z EL n0 own nm B ret R Q Ny (b :: My) h' (cells + 1) (slots + cap) pc' ls (.ref b :: st)) : Run w l Z EL n0 own nm B ret R Q Ny My h cells slots pc ls (.int n :: st) := by
  intro p e s m args below meth c T locs vm hx hby hml hret hnm hlk hZ hown X eT N hH
  obtain ⟨T', h', cA, X', e', E', A', D', O', stp⟩ := newRE X hx hZ hown w1 w2 eT (g := mkF m pc ls (.int n :: st)) rfl (hb hby hd) rfl hn hcap hbig hc hl had
  have hlt : h.size < h'.size := D'.lt
  obtain ⟨t, o, hs, r⟩ := K h' h.size cA rfl hlt E' D' O' (Arv.new A' hn) p e s m args below meth c T' locs vm hx hby hml hret hnm hlk hZ hown X' e' N (hH.extNew E' hlt)
  exact ⟨t, o, stp t (by subst hp; exact hs), r⟩
theorem r_putfield {pc' : Nat} {R0 O n d C : String} {index kk : Nat} {ty : FieldType} {a : Addr} {v v' old : Value} (hd : decode B pc = .ok (.putfield index, 3)) (hp : pc + 3 = pc') (wl : (Jvm.Cond.fieldLink own index R0 n d).before a0 Z = true) (via : Via Z R0 O n d) (F : Fld Z h a O n d old) (E : Exa Z h a C)
    (L : (Jvm.Cond.lays C O n d).before a0 Z = true ∨ ((Jvm.Cond.laysFinal C O n d).before a0 Z = true ∧ own = O ∧ nm = "<init>")) (wi : (Jvm.Cond.instantiable C kk).before a0 Z = true) (hty : parseFieldDescriptor d = some ty) (hn : narrow ty v = v') (hf : fits ty v' = true) (ge : n0 ≤ a) (S : Sf w Z h My a)
    (K : ∀ h' : Heap, Wr h h' a (Jvm.RoadKit.slotOf Z O n d) v' → Run w l Z EL n0 own nm B ret R Q Ny My h' cells slots pc' ls st) : Run w l Z EL n0 own nm B ret R Q Ny My h cells slots pc ls (v :: .ref a :: st) := by
  intro p e s m args below meth c T locs vm hx hby hml hret hnm hlk hZ hown X eT N hH
  obtain ⟨T', h', X', e', W', stp⟩ := putFN X hx hZ hown wl via eT F E (L.imp id fun q => ⟨q.1, q.2.1, hnm.trans q.2.2⟩) wi hty hn hf (g := mkF m pc ls (v :: .ref a :: st)) rfl rfl (hb hby hd)
  obtain ⟨t, o, hs, r⟩ := K h' W' p e s m args below meth c T' _ vm hx hby hml hret hnm hlk hZ hown X' e' (Fr.snoc X' N ge) (hH.keep hZ (Keep.of_wr W') (allS ⟨ge, S⟩ all0))
  exact ⟨t, o, stp t (by subst hp; exact hs), r⟩
theorem Sf.arv {w : Bool} {Z : State} {h : Heap} {My : List Addr} {a : Addr} {k : ClassId} {ty : FieldType} {z : Int32} {vs : List Value} {dv : Value} (A : Arv Z h a k ty z vs dv) (ht : ty ≠ .byte) : Sf w Z h My a := by
  obtain ⟨cl, A1, -⟩ := A
  exact Or.inr (Or.inr (Or.inr ⟨cl, ty, A1, ht⟩))
theorem Sf.exa {w : Bool} {Z : State} {h : Heap} {My : List Addr} {a : Addr} {C : String} (E : Exa Z h a C) (h1 : C ≠ "java/lang/String") (h2 : C ≠ "[B") : Sf w Z h My a := Or.inr (Or.inr (Or.inl ⟨C, E, h1, h2⟩))
theorem Sf.my {w : Bool} {Z : State} {h : Heap} {My : List Addr} {a : Addr} (q : a ∈ My) : Sf w Z h My a := Or.inr (Or.inl q)
theorem r_castore {pc' : Nat} {a : Addr} {k : ClassId} {z j x : Int32} {vs : List Value} {dv : Value} (i : Nat) (hd : decode B pc = .ok (.castore, 1)) (hp : pc + 1 = pc') (A : Arv Z h a k .char z vs dv) (hj : ¬ j < 0 ∧ j < z) (hi : j.toNatClampNeg = i) (hlen : i < vs.length) (ge : n0 ≤ a) 
    (K : ∀ h' : Heap, Wr h h' a i (.int (nar .char x)) → Arv Z h' a k .char z (vs.set i (.int (nar .char x))) dv → Run w l Z EL n0 own nm B ret R Q Ny My h' cells slots pc' ls st) : Run w l Z EL n0 own nm B ret R Q Ny My h cells slots pc ls (.int x :: .int j :: .ref a :: st) := by
  intro p e s m args below meth c T locs vm hx hby hml hret hnm hlk hZ hown X eT N hH
  obtain ⟨cl, A1, q1, S1, N1, H1, G1⟩ := id A
  obtain ⟨T', h', X', e', W', stp⟩ := stC X hx hZ eT A1 (inb_of S1 hj) (g := mkF m pc ls (.int x :: .int j :: .ref a :: st)) rfl rfl (hb hby hd)
  have S : Sf w Z h My a := Sf.arv A (by decide)
  obtain ⟨t, o, hs, r⟩ := K h' (hi ▸ W') (Arv.set A1 q1 S1 N1 H1 G1 (fits_nar_char _) W' i hi hlen) p e s m args below meth c T' _ vm hx hby hml hret hnm hlk hZ hown X' e' (Fr.snoc X' N ge) (hH.keep hZ (Keep.of_wr W') (allS ⟨ge, S⟩ all0))
  exact ⟨t, o, stp t (by subst hp; exact hs), r⟩
theorem r_bastore {pc' : Nat} {a : Addr} {k : ClassId} {z j x : Int32} {vs : List Value} {dv : Value} (i : Nat) (hd : decode B pc = .ok (.bastore, 1)) (hp : pc + 1 = pc') (A : Arv Z h a k .byte z vs dv) (hj : ¬ j < 0 ∧ j < z) (hi : j.toNatClampNeg = i) (hlen : i < vs.length) (ge : n0 ≤ a) (S : Sf w Z h My a) 
    (K : ∀ h' : Heap, Wr h h' a i (.int (nar .byte x)) → Arv Z h' a k .byte z (vs.set i (.int (nar .byte x))) dv → Run w l Z EL n0 own nm B ret R Q Ny My h' cells slots pc' ls st) : Run w l Z EL n0 own nm B ret R Q Ny My h cells slots pc ls (.int x :: .int j :: .ref a :: st) := by
  intro p e s m args below meth c T locs vm hx hby hml hret hnm hlk hZ hown X eT N hH
  obtain ⟨cl, A1, q1, S1, N1, H1, G1⟩ := id A
  obtain ⟨T', h', X', e', W', stp⟩ := stB X hx hZ eT A1 (inb_of S1 hj) (g := mkF m pc ls (.int x :: .int j :: .ref a :: st)) rfl rfl (hb hby hd)
  obtain ⟨t, o, hs, r⟩ := K h' (hi ▸ W') (Arv.set A1 q1 S1 N1 H1 G1 (fits_nar_byte _) W' i hi hlen) p e s m args below meth c T' _ vm hx hby hml hret hnm hlk hZ hown X' e' (Fr.snoc X' N ge) (hH.keep hZ (Keep.of_wr W') (allS ⟨ge, S⟩ all0))
  exact ⟨t, o, stp t (by subst hp; exact hs), r⟩
theorem r_sastore {pc' : Nat} {a : Addr} {k : ClassId} {z j x : Int32} {vs : List Value} {dv : Value} (i : Nat) (hd : decode B pc = .ok (.sastore, 1)) (hp : pc + 1 = pc') (A : Arv Z h a k .short z vs dv) (hj : ¬ j < 0 ∧ j < z) (hi : j.toNatClampNeg = i) (hlen : i < vs.length) (ge : n0 ≤ a) 
    (K : ∀ h' : Heap, Wr h h' a i (.int (nar .short x)) → Arv Z h' a k .short z (vs.set i (.int (nar .short x))) dv → Run w l Z EL n0 own nm B ret R Q Ny My h' cells slots pc' ls st) : Run w l Z EL n0 own nm B ret R Q Ny My h cells slots pc ls (.int x :: .int j :: .ref a :: st) := by
  intro p e s m args below meth c T locs vm hx hby hml hret hnm hlk hZ hown X eT N hH
  obtain ⟨cl, A1, q1, S1, N1, H1, G1⟩ := id A
  obtain ⟨T', h', X', e', W', stp⟩ := stS X hx hZ eT A1 (inb_of S1 hj) (g := mkF m pc ls (.int x :: .int j :: .ref a :: st)) rfl rfl (hb hby hd)
  have S : Sf w Z h My a := Sf.arv A (by decide)
  obtain ⟨t, o, hs, r⟩ := K h' (hi ▸ W') (Arv.set A1 q1 S1 N1 H1 G1 (fits_nar_short _) W' i hi hlen) p e s m args below meth c T' _ vm hx hby hml hret hnm hlk hZ hown X' e' (Fr.snoc X' N ge) (hH.keep hZ (Keep.of_wr W') (allS ⟨ge, S⟩ all0))
  exact ⟨t, o, stp t (by subst hp; exact hs), r⟩
theorem r_bastoreZ {pc' : Nat} {a : Addr} {k : ClassId} {z j x : Int32} {vs : List Value} {dv : Value} (i : Nat) (hd : decode B pc = .ok (.bastore, 1)) (hp : pc + 1 = pc') (A : Arv Z h a k .boolean z vs dv) (hj : ¬ j < 0 ∧ j < z) (hi : j.toNatClampNeg = i) (hlen : i < vs.length) (ge : n0 ≤ a) 
    (K : ∀ h' : Heap, Wr h h' a i (.int (nar .boolean x)) → Arv Z h' a k .boolean z (vs.set i (.int (nar .boolean x))) dv → Run w l Z EL n0 own nm B ret R Q Ny My h' cells slots pc' ls st) : Run w l Z EL n0 own nm B ret R Q Ny My h cells slots pc ls (.int x :: .int j :: .ref a :: st) := by
  intro p e s m args below meth c T locs vm hx hby hml hret hnm hlk hZ hown X eT N hH
  obtain ⟨cl, A1, q1, S1, N1, H1, G1⟩ := id A
  obtain ⟨T', h', X', e', W', stp⟩ := stZ X hx hZ eT A1 (inb_of S1 hj) (g := mkF m pc ls (.int x :: .int j :: .ref a :: st)) rfl rfl (hb hby hd)
  have S : Sf w Z h My a := Sf.arv A (by decide)
  obtain ⟨t, o, hs, r⟩ := K h' (hi ▸ W') (Arv.set A1 q1 S1 N1 H1 G1 (fits_nar_bool _) W' i hi hlen) p e s m args below meth c T' _ vm hx hby hml hret hnm hlk hZ hown X' e' (Fr.snoc X' N ge) (hH.keep hZ (Keep.of_wr W') (allS ⟨ge, S⟩ all0))
  exact ⟨t, o, stp t (by subst hp; exact hs), r⟩
theorem r_iastore {pc' : Nat} {a : Addr} {k : ClassId} {z j x : Int32} {vs : List Value} {dv : Value} (i : Nat) (hd : decode B pc = .ok (.iastore, 1)) (hp : pc + 1 = pc') (A : Arv Z h a k .int z vs dv) (hj : ¬ j < 0 ∧ j < z) (hi : j.toNatClampNeg = i) (hlen : i < vs.length) (ge : n0 ≤ a) 
    (K : ∀ h' : Heap, Wr h h' a i (.int x) → Arv Z h' a k .int z (vs.set i (.int x)) dv → Run w l Z EL n0 own nm B ret R Q Ny My h' cells slots pc' ls st) : Run w l Z EL n0 own nm B ret R Q Ny My h cells slots pc ls (.int x :: .int j :: .ref a :: st) := by
  intro p e s m args below meth c T locs vm hx hby hml hret hnm hlk hZ hown X eT N hH
  obtain ⟨cl, A1, q1, S1, N1, H1, G1⟩ := id A
  obtain ⟨T', h', X', e', W', stp⟩ := stI X hx hZ eT A1 (inb_of S1 hj) (g := mkF m pc ls (.int x :: .int j :: .ref a :: st)) rfl rfl (hb hby hd)
  have S : Sf w Z h My a := Sf.arv A (by decide)
  obtain ⟨t, o, hs, r⟩ := K h' (hi ▸ W') (Arv.set A1 q1 S1 N1 H1 G1 (rfl) W' i hi hlen) p e s m args below meth c T' _ vm hx hby hml hret hnm hlk hZ hown X' e' (Fr.snoc X' N ge) (hH.keep hZ (Keep.of_wr W') (allS ⟨ge, S⟩ all0))
  exact ⟨t, o, stp t (by subst hp; exact hs), r⟩
theorem r_aastore {pc' : Nat} {a : Addr} {k : ClassId} {ty : FieldType} {z j : Int32} {vs : List Value} {dv v : Value} (i : Nat) (hd : decode B pc = .ok (.aastore, 1)) (hp : pc + 1 = pc') (A : Arv Z h a k ty z vs dv) (hty : ty.isReference = true) (hj : ¬ j < 0 ∧ j < z) (hi : j.toNatClampNeg = i) (hlen : i < vs.length) (F : Sto Z h a v) (hv : fits ty v = true) (ge : n0 ≤ a)
    (K : ∀ h' : Heap, Wr h h' a i v → Arv Z h' a k ty z (vs.set i v) dv → Run w l Z EL n0 own nm B ret R Q Ny My h' cells slots pc' ls st) : Run w l Z EL n0 own nm B ret R Q Ny My h cells slots pc ls (v :: .int j :: .ref a :: st) := by
  intro p e s m args below meth c T locs vm hx hby hml hret hnm hlk hZ hown X eT N hH
  obtain ⟨cl, A1, q1, S1, N1, H1, G1⟩ := id A
  obtain ⟨T', h', X', e', W', stp⟩ := stR X hx hZ eT A1 (inb_of S1 hj) hty F (g := mkF m pc ls (v :: .int j :: .ref a :: st)) rfl rfl (hb hby hd)
  have S : Sf w Z h My a := Sf.arv A (fun q => by rw [q] at hty; cases hty)
  obtain ⟨t, o, hs, r⟩ := K h' (hi ▸ W') (Arv.set A1 q1 S1 N1 H1 G1 hv W' i hi hlen) p e s m args below meth c T' _ vm hx hby hml hret hnm hlk hZ hown X' e' (Fr.snoc X' N ge) (hH.keep hZ (Keep.of_wr W') (allS ⟨ge, S⟩ all0))
  exact ⟨t, o, stp t (by subst hp; exact hs), r⟩
theorem r_arraycopy {pc' index : Nat} {a b : Addr} {k k' : ClassId} {ty ty' : FieldType} {z z' sp dp nn : Int32} {vs vd us : List Value} {dv dd : Value} {W : Nat} (hd : decode B pc = .ok (.invokestatic index, 3)) (hp : pc + 3 = pc')
    (w1 : (Jvm.Cond.methodLink own index Jvm.Stand.acN).before a0 Z = true) (w2 : (Jvm.Cond.native Jvm.Stand.acN).before a0 Z = true) (w3 : (Jvm.Cond.static Jvm.Stand.acN).before a0 Z = true) (w4 : (Jvm.Cond.initialized "java/lang/System").before a0 Z = true)
    (A : Arv Z h a k ty z vs dv) (B' : Arv Z h b k' ty' z' vd dd) (hty : (ty = ty' ∧ refKind ty = false) ∨ (refKind ty = true ∧ refKind ty' = true ∧ StoL Z h b us)) (h1 : ¬ sp < 0) (h2 : ¬ dp < 0) (h3 : ¬ nn < 0) (h4 : sp.toNatClampNeg + nn.toNatClampNeg ≤ z.toNatClampNeg) (h5 : dp.toNatClampNeg + nn.toNatClampNeg ≤ z'.toNatClampNeg)
    (hus : us = (List.range nn.toNatClampNeg).map fun i => vs.getD (sp.toNatClampNeg + i) dv) (hlv : dp.toNatClampNeg + nn.toNatClampNeg ≤ vd.length) (ge : n0 ≤ b) (S : Sf w Z h My b) (hf : 1 ≤ R.frames) (hW : (st.map fun v => v.category).sum ≤ W) (hlo : W + (nativeFrameWords "java/lang/System" "arraycopy" 5 + 11) ≤ R.locals)
    (K : ∀ h' : Heap, Keep h h' [b] → Arv Z h' b k' ty' z' (vd.take dp.toNatClampNeg ++ us ++ vd.drop (dp.toNatClampNeg + nn.toNatClampNeg)) dd → Run w l Z EL n0 own nm B ret R Q Ny My h' cells slots pc' ls st) : Run w l Z EL n0 own nm B ret R Q Ny My h cells slots pc ls (.int nn :: .int dp :: .ref b :: .int sp :: .ref a :: st) := by
  intro p e s m args below meth c T locs vm hx hby hml hret hnm hlk hZ hown X eT N hH
  obtain ⟨T', h', L', X', e', N', K', A', stp⟩ := cpA X hx hZ hown w1 w2 w3 w4 eT A B' hty h1 h2 h3 h4 h5 hus hlv N ge (g := mkF m pc ls (.int nn :: .int dp :: .ref b :: .int sp :: .ref a :: st)) rfl hml.symm rfl (hb hby hd) hf (W := W) (by show 2 * 0 + _ ≤ _; omega) hlo
  obtain ⟨t, o, hs, r⟩ := K h' K' A' p e s m args below meth c T' L' vm hx hby hml hret hnm hlk hZ hown X' e' N' (hH.keep hZ K' (allS ⟨ge, S⟩ all0))
  exact ⟨t, o, stp t (by subst hp; exact hs), r⟩
/-- the end of a walk -/
theorem Run.leave {v : Option Value} (hv : ret = none → v = none) (hQ : Q v h) (hS : ∀ x ∈ Ny v, x ∈ My) (hc : cells ≤ R.cells) (hl : slots ≤ R.slots)
    (H : ∀ (p : Program) (e : Env) (s : State) (m : MethodId) (args : Array Value) (below : List Frame) (meth : Method) (c : Code) (T : State) (locs : List Loc) (fs : List Frame), p.tables.exec = Jvm.exec → c.code = B → meth.sig.returnType = ret → Stand p l e R s m args below meth c T locs cells slots →
      (∀ (f : JFrame) (acts : List Action), f.method = m → f.locked = none → f.entered = [] → (doReturn e (T.setTop f) acts v).1 = T.setFrames fs) → Steps p.tables e below (T.setTop (mkF m pc ls st)) (T.setFrames fs)) : Run w l Z EL n0 own nm B ret R Q Ny My h cells slots pc ls st := by
  intro p e s m args below meth c T locs vm hx hby hml hret hnm hlk hZ hown X eT N hH
  cases w with
  | false =>
    obtain rfl := hH.2.1 rfl
    obtain ⟨fs, hr, hrun, hended, hW, hsame⟩ := X.leave (v := v) (fun q => hv (hret ▸ q)) hlk
    exact ⟨_, _, H p e _ m args below meth c T locs fs hx hby hret X hr, hrun, hended, v, locs, rfl, (by show Q v T.heap; rw [eT]; exact hQ), N, fun _ => ⟨⟨v, rfl⟩, hW, hsame.mono hc hl⟩, fun q => (by cases q)⟩
  | true =>
    obtain ⟨hEW0, ⟨k0, hS0, hk0⟩, hC, hMy⟩ := hH.2.2 rfl
    obtain ⟨fs, hr, hrun, hended, hE⟩ := X.leaveW hS0 (by rw [eT]; exact hk0) (v := v) (fun q => hv (hret ▸ q)) hlk
    have hZT : Z.Warmed39 T.vm := wtrans (s := s.setVm vm) hZ X.warmed
    have hA : CHr Z EL vm h T.vm h := by obtain ⟨a1, hEW⟩ := hEW0; exact CHv.at X hZ hEW hC.1
    exact ⟨_, _, H p e _ m args below meth c T locs fs hx hby hret X hr, hrun, hended, v, locs, rfl, (by show Q v T.heap; rw [eT]; exact hQ), N, fun q => (by cases q), fun _ => ⟨⟨hE.1, hE.2.1, hE.2.2.1, hE.2.2.2.mono hc hl⟩, by
      show CHr Z EL s.vm s.heap T.vm T.heap
      rw [eT]; exact hC.trans hA, fun x hx => by
      show x < T.heap.size ∧ Safe Z EL T.vm T.heap x
      rw [eT]
      exact ⟨(hMy x (hS x hx)).1, hA.safe (hMy x (hS x hx)).1 (hMy x (hS x hx)).2⟩⟩⟩
theorem r_ireturn {z : Int32} (hd : decode B pc = .ok (.ireturn, 1)) (hret : ret = some .int) (hQ : Q (some (.int z)) h) (hS : ∀ x ∈ Ny (some (.int z)), x ∈ My) (hc : cells ≤ R.cells) (hl : slots ≤ R.slots) : Run w l Z EL n0 own nm B ret R Q Ny My h cells slots pc ls (.int z :: st) :=
  Run.leave (v := some (.int z)) (fun q => by rw [hret] at q; cases q) hQ hS hc hl fun p e s m args below meth c T locs fs hx hby hr X hl => retOut X hx (hr.trans hret) rfl (Or.inl ⟨rfl, Or.inl rfl, z, rfl⟩) (hb hby hd) hl
theorem r_ireturnN {z : Int32} {t : FieldType} (hd : decode B pc = .ok (.ireturn, 1)) (hret : ret = some t) (ht : t = .boolean ∨ t = .byte ∨ t = .char ∨ t = .short) (hQ : Q (some (.int (nar t z))) h) (hS : ∀ x ∈ Ny (some (.int (nar t z))), x ∈ My) (hc : cells ≤ R.cells) (hl : slots ≤ R.slots) : Run w l Z EL n0 own nm B ret R Q Ny My h cells slots pc ls (.int z :: st) :=
  Run.leave (v := some (.int (nar t z))) (fun q => by rw [hret] at q; cases q) hQ hS hc hl fun p e s m args below meth c T locs fs hx hby hr X hl => retN X hx (hr.trans hret) ht (hb hby hd) hl
theorem r_lreturn {z : Int64} (hd : decode B pc = .ok (.lreturn, 1)) (hret : ret = some .long) (hQ : Q (some (.long z)) h) (hS : ∀ x ∈ Ny (some (.long z)), x ∈ My) (hc : cells ≤ R.cells) (hl : slots ≤ R.slots) : Run w l Z EL n0 own nm B ret R Q Ny My h cells slots pc ls (.long z :: st) :=
  Run.leave (v := some (.long z)) (fun q => by rw [hret] at q; cases q) hQ hS hc hl fun p e s m args below meth c T locs fs hx hby hr X hl => retOut X hx (hr.trans hret) rfl (Or.inr (Or.inl ⟨rfl, rfl, z, rfl⟩)) (hb hby hd) hl
theorem r_areturn {v : Value} {t : FieldType} (hd : decode B pc = .ok (.areturn, 1)) (hret : ret = some t) (ht : t.isReference = true) (hv : v.isRef = true) (hn : narrow t v = v) (hQ : Q (some v) h) (hS : ∀ x ∈ Ny (some v), x ∈ My) (hc : cells ≤ R.cells) (hl : slots ≤ R.slots) : Run w l Z EL n0 own nm B ret R Q Ny My h cells slots pc ls (v :: st) :=
  Run.leave (v := some v) (fun q => by rw [hret] at q; cases q) hQ hS hc hl fun p e s m args below meth c T locs fs hx hby hr X hl => retOut X hx (hr.trans hret) hn (Or.inr (Or.inr (Or.inr (Or.inr ⟨rfl, ht, hv⟩)))) (hb hby hd) hl
theorem r_return (hd : decode B pc = .ok (.return_, 1)) (hret : ret = none) (hQ : Q none h) (hS : ∀ x ∈ Ny none, x ∈ My) (hc : cells ≤ R.cells) (hl : slots ≤ R.slots) : Run w l Z EL n0 own nm B ret R Q Ny My h cells slots pc ls [] :=
  Run.leave (v := none) (fun _ => rfl) hQ hS hc hl fun p e s m args below meth c T locs fs hx hby hr X hl => X.returnOut hx (hr.trans hret) (hb hby hd) hl
end Rules
/-- who pays a call, tables not widened -/
def Pays (l : Launch) (Z : State) (n0 : Nat) (R : Room) (y : MethodName) (len W : Nat) (as : Array Value) (h : Heap) (kc ks : Nat) (Q : Option Value → Heap → Prop) : Prop :=
  Old Z n0 h → ∀ (p : Program) (e : Env) (below : List Frame) (s : State) (args : Array Value), Z.Warmed39 s.vm →
    Back l R p e below s args y len W (fun A a => a = as ∧ A.U.heap = h ∧ A.cells + kc ≤ R.cells ∧ A.slots + ks ≤ R.slots) (fun A _ v B => ∃ L, (Q v B.U.heap ∧ Fr n0 L) ∧ B.locs = A.locs ++ L ∧ B.cells = A.cells + kc ∧ B.slots = A.slots + ks)
/-- who pays a call that may intern -/
def PaysW (l : Launch) (Z : State) (EL : List (String × Nat)) (n0 : Nat) (My : List Addr) (R : Room) (y : MethodName) (len W : Nat) (as : Array Value) (h : Heap) (kc ks : Nat) (Q : Option Value → Heap → Prop) (Ny : Option Value → List Addr) : Prop :=
  Old Z n0 h → ∀ (p : Program) (e : Env) (below : List Frame) (s : State) (args : Array Value) (vm : Vm), Z.Warmed39 vm → (∃ a0, EW Z a0 EL) → CHv Z EL vm h → (∀ x ∈ My, x < h.size ∧ Safe Z EL vm h x) →
    BackS l R p e below (s.setVm vm) args y len W (fun A a => a = as ∧ A.U.heap = h ∧ A.cells + kc ≤ R.cells ∧ A.slots + ks ≤ R.slots) (fun A _ v B => ∃ L, (Q v B.U.heap ∧ Fr n0 L) ∧ B.locs = A.locs ++ L ∧ B.cells = A.cells + kc ∧ B.slots = A.slots + ks ∧ CHr Z EL vm h B.U.vm B.U.heap ∧ ∀ x ∈ Ny v, x < B.U.heap.size ∧ Safe Z EL B.U.vm B.U.heap x)
section Calls
variable {w : Bool} {l : Launch} {Z : State} {EL : List (String × Nat)} {n0 : Nat} {own nm : String} {B : ByteArray} {ret : Option FieldType} {R : Room} {Q : Option Value → Heap → Prop} {Ny : Option Value → List Addr} {My : List Addr} {h : Heap} {cells slots pc : Nat} {ls : Array Slot} {st : List Value} {a0 : Array Value}
theorem Ok.pays {y : MethodName} {bytes : ByteArray} {maxL : Nat} {rt : Option FieldType} {rm : Room} {as : Array Value} {Qc : Option Value → Heap → Prop} {Nc : Option Value → List Addr} {len W : Nat} (O : Ok false l Z EL n0 My y bytes maxL rt rm as h Qc Nc) (wc : (Jvm.Cond.code y bytes maxL rt).before a0 Z = true) (wz : (Jvm.Cond.initialized y.cls).before a0 Z = true) (hf : rm.frames + 1 ≤ R.frames) (hl : W + (maxL + 11) + rm.locals ≤ R.locals) :
    Pays l Z n0 R y len W as h rm.cells rm.slots Qc := fun hO p e below s args hZ => by
  have hM : MetFree l y (head1 [Jvm.Cond.code y bytes maxL rt] rm) (fun a U => a = as ∧ Z.Warmed39 U.vm ∧ U.heap = h) (fun _ _ _ _ _ => True) (fun _ U o U' => ∃ v L, o = .returned v ∧ (Qc v U'.heap ∧ Fr n0 L) ∧ FrameEnd U o U' L rm.cells rm.slots) := by
    intro p e ha hc hk s m args below hf happ hP hK
    obtain ⟨n, o, h1, h2, h3, v, L, h4, h5, h6, h7, -⟩ := O [] p e ha hc hk s m args below hf happ ⟨hP.1, hP.2.1, hP.2.2, hO, fun q => by cases q⟩ hK
    exact ⟨n, o, h1, h2, h3, v, L, h4, ⟨h5, h6⟩, h7 rfl⟩
  exact backOf (Q := fun v h' L => Qc v h' ∧ Fr n0 L) hM hZ wc wz hf hl
theorem Ok.paysW {y : MethodName} {bytes : ByteArray} {maxL : Nat} {rt : Option FieldType} {rm : Room} {as : Array Value} {Qc : Option Value → Heap → Prop} {Nc : Option Value → List Addr} {len W : Nat} (O : Ok true l Z EL n0 My y bytes maxL rt rm as h Qc Nc) (wc : (Jvm.Cond.code y bytes maxL rt).before a0 Z = true) (wz : (Jvm.Cond.initialized y.cls).before a0 Z = true) (hf : rm.frames + 1 ≤ R.frames) (hl : W + (maxL + 11) + rm.locals ≤ R.locals) :
    PaysW l Z EL n0 My R y len W as h rm.cells rm.slots Qc Nc := fun hO p e below s args vm0 hZ hEL H hMy => by
  obtain ⟨a1, hEW⟩ := id hEL
  exact BackS.of_freeW (bytes := bytes) (maxL := maxL) (ret := rt) (E := fun _ first o t L k n => k = rm.cells ∧ n = rm.slots ∧ (∃ v, o = .returned v ∧ (Qc v t.heap ∧ Fr n0 L) ∧ ∀ x ∈ Nc v, x < t.heap.size ∧ Safe Z EL t.vm t.heap x) ∧ CHr Z EL first.vm first.heap t.vm t.heap) (O []) hf hl
    (fun m meth c A a Y hp => have hU : Z.Warmed39 A.U.vm := wtrans (s := s.setVm vm0) hZ Y.warmed
      ⟨by show (Cond.and _ .tt).before a A.U = true; rw [Cond.before_and, mv hU wc]; rfl, mv hU wc, mv hU wz, hp.2.2.1, hp.2.2.2⟩)
    (fun m meth c A a g mk Y hp => ⟨hp.1, wtrans (s := s.setVm vm0) hZ Y.warmed, hp.2.1, hO, fun _ => ⟨hEL, (CHv.at Y hZ hEW H).1, fun x hx => ⟨(hMy x hx).1, (CHv.at Y hZ hEW H).safe (hMy x hx).1 (hMy x hx).2⟩⟩⟩) (fun _ _ _ _ _ _ _ _ _ => trivial)
    (fun _ _ _ _ ⟨v, L, h1, h2, h3, h4⟩ => ⟨L, _, _, (h4.2 rfl).1, rfl, rfl, ⟨v, h1, ⟨h2, h3⟩, (h4.2 rfl).2.2⟩, (h4.2 rfl).2.1⟩)
    (fun m meth c A a g mk v t L k n Y hp _ _ ⟨e1, e2, ⟨v', e3, e4, e4'⟩, e5⟩ => by
      cases e3; subst e1 e2
      refine ⟨L, e4, rfl, rfl, rfl, (CHv.at Y hZ hEW H).trans ?_, e4'⟩
      rw [← hp.2.1]; exact e5)
/-- a call, narrow -/
theorem Run.call {pc' len W kc ks : Nat} {y : MethodName} {as : Array Value} {Qc : Option Value → Heap → Prop} {rest : List Value} {wl : List Addr} (hp : pc + len = pc')
    (H : ∀ (p : Program) (e : Env) (s : State) (m : MethodId) (args : Array Value) (below : List Frame) (meth : Method) (c : Code) (T : State) (locs : List Loc), p.tables.exec = Jvm.exec → c.code = B → c.maxLocals = ls.size → Z.Warmed39 s.vm → s.vm.findClass own = some m.cls → Stand p l e R s m args below meth c T locs cells slots → T.heap = h →
      ∀ (Pre : Pt → Array Value → Prop) (Post : Pt → Array Value → Option Value → Pt → Prop), Back l R p e below s args y len W Pre Post → (∀ vm₁, s.WarmedH vm₁ → Pre ⟨T.setVm vm₁, locs, cells, slots⟩ as) →
        ∃ (v : Option Value) (vm₁ : Vm) (B' : Pt), s.WarmedH vm₁ ∧ Stand p l e R s m args below meth c B'.U B'.locs B'.cells B'.slots ∧ Post ⟨T.setVm vm₁, locs, cells, slots⟩ as v B' ∧ Steps p.tables e below (T.setTop (mkF m pc ls st)) (B'.U.setTop (mkF m (pc + len) ls (v.toList ++ rest))))
    (P : Pays l Z n0 R y len W as h kc ks Qc) (hk : ∀ v h', Qc v h' → Keep h h' wl) (hs : ∀ x ∈ wl, n0 ≤ x ∧ Sf w Z h My x) (hc : cells + kc ≤ R.cells) (hl : slots + ks ≤ R.slots)
    (K : ∀ v h', Qc v h' → Run w l Z EL n0 own nm B ret R Q Ny My h' (cells + kc) (slots + ks) pc' ls (v.toList ++ rest)) : Run w l Z EL n0 own nm B ret R Q Ny My h cells slots pc ls st := by
  intro p e s m args below meth c T locs vm hx hby hml hret hnm hlk hZ hown X eT N hH
  obtain ⟨v, vm₁, ⟨U, L', c', n'⟩, -, X', ⟨L, ⟨hq, hF⟩, l1, l2, l3⟩, stp⟩ := H p e (s.setVm vm) m args below meth c T locs hx hby hml hZ hown X eT _ _ (P hH.1 p e below (s.setVm vm) args hZ) (fun vm₁ _ => ⟨rfl, eT, hc, hl⟩)
  dsimp only [Pt.U, Pt.locs, Pt.cells, Pt.slots] at X' l1 l2 l3 stp hq
  subst l1 l2 l3
  obtain ⟨t, o, hs', r⟩ := K v U.heap hq p e s m args below meth c U _ vm hx hby hml hret hnm hlk hZ hown X' rfl (Fr.app N hF) (hH.keep hZ (hk v _ hq) hs)
  exact ⟨t, o, stp.trans (by subst hp; exact hs'), r⟩
/-- a call that may intern, in a walk that may -/
theorem Run.callW {pc' len W kc ks : Nat} {y : MethodName} {as : Array Value} {Qc : Option Value → Heap → Prop} {Nc : Option Value → List Addr} {Mc : List Addr} {rest : List Value} {wl : List Addr} (hw : w = true) (hp : pc + len = pc')
    (H : ∀ (p : Program) (e : Env) (s : State) (m : MethodId) (args : Array Value) (below : List Frame) (meth : Method) (c : Code) (T : State) (locs : List Loc), p.tables.exec = Jvm.exec → c.code = B → c.maxLocals = ls.size → Z.Warmed39 s.vm → s.vm.findClass own = some m.cls → Stand p l e R s m args below meth c T locs cells slots → T.heap = h →
      ∀ (Pre : Pt → Array Value → Prop) (Post : Pt → Array Value → Option Value → Pt → Prop), BackS l R p e below s args y len W Pre Post → (∀ vm₁, s.WarmedH vm₁ → Pre ⟨T.setVm vm₁, locs, cells, slots⟩ as) →
        ∃ (v : Option Value) (vm₁ : Vm) (B' : Pt), s.WarmedH vm₁ ∧ Stand p l e R (s.setVm B'.U.vm) m args below meth c B'.U B'.locs B'.cells B'.slots ∧ s.Since B'.U.vm B'.U.heap.size ∧ T.heap.size ≤ B'.U.heap.size ∧ Post ⟨T.setVm vm₁, locs, cells, slots⟩ as v B' ∧ Steps p.tables e below (T.setTop (mkF m pc ls st)) (B'.U.setTop (mkF m (pc + len) ls (v.toList ++ rest))))
    (P : PaysW l Z EL n0 Mc R y len W as h kc ks Qc Nc) (hm : ∀ x ∈ Mc, x ∈ My) (hk : ∀ v h', Qc v h' → Keep h h' wl) (hs : ∀ x ∈ wl, n0 ≤ x) (hc : cells + kc ≤ R.cells) (hl : slots + ks ≤ R.slots)
    (K : ∀ v h', Qc v h' → Run w l Z EL n0 own nm B ret R Q Ny (Nc v ++ My) h' (cells + kc) (slots + ks) pc' ls (v.toList ++ rest)) : Run w l Z EL n0 own nm B ret R Q Ny My h cells slots pc ls st := by
  intro p e s m args below meth c T locs vm hx hby hml hret hnm hlk hZ hown X eT N hH
  obtain ⟨hEW, ⟨k0, hS0, hk0⟩, hC, hMy⟩ := hH.2.2 hw
  obtain ⟨v, vm₁, ⟨U, L', c', n'⟩, -, X', hS', hgr, ⟨L, ⟨hq, hF⟩, l1, l2, l3, hC', hN'⟩, stp⟩ := H p e (s.setVm vm) m args below meth c T locs hx hby hml hZ hown X eT _ _ (P hH.1 p e below s args vm hZ hEW hC.1 fun x hx => hMy x (hm x hx)) (fun vm₁ _ => ⟨rfl, eT, hc, hl⟩)
  dsimp only [Pt.U, Pt.locs, Pt.cells, Pt.slots] at X' l1 l2 l3 stp hq hS' hgr hC' hN'
  subst l1 l2 l3
  obtain ⟨X2, hS2, hZ2, hown2⟩ := rebS hS0 (Nat.le_trans hk0 (by rw [eT]; exact Nat.le_refl _) : k0 ≤ T.heap.size) X' hS' hgr hZ hown
  obtain ⟨t, o, hs', r⟩ := K v U.heap hq p e s m args below meth c U _ U.vm hx hby hml hret hnm hlk hZ2 hown2 X2 rfl (Fr.app N hF) ⟨hH.1.keep (hk v _ hq) hs, fun q => (by rw [hw] at q; cases q), fun _ => ⟨hEW, ⟨_, hS2, Nat.le_refl _⟩, hC.trans hC', fun x hx => by
    rcases List.mem_append.mp hx with hx | hx
    · exact hN' x hx
    · exact ⟨Nat.lt_of_lt_of_le (hMy x hx).1 (hk v _ hq).1, hC'.safe (hMy x hx).1 (hMy x hx).2⟩⟩⟩
  exact ⟨t, o, stp.trans (by subst hp; exact hs'), r⟩
theorem r_static {pc' index W kc ks : Nat} {y : MethodName} {argsL rest : List Value} {as : Array Value} {Qc : Option Value → Heap → Prop} {wl : List Addr} {bytes : ByteArray} {maxL : Nat} {rt : Option FieldType} (hd : decode B pc = .ok (.invokestatic index, 3)) (hp : pc + 3 = pc') (w1 : (Jvm.Cond.methodLink own index y).before a0 Z = true) (w2 : (Jvm.Cond.static y).before a0 Z = true) (w3 : (Jvm.Cond.initialized y.cls).before a0 Z = true) (w4 : (Jvm.Cond.code y bytes maxL rt).before a0 Z = true) (hy : y.cls ≠ "java/lang/invoke/MethodHandle" ∧ y.cls ≠ "java/lang/invoke/VarHandle") (hlen : ∀ sig, parseMethodDescriptor y.desc = some sig → argsL.length = sig.parameters.length) (hst : st = argsL.reverse ++ rest) (has : argsL.toArray = as) (hW : (rest.map fun v => v.category).sum ≤ W) (P : Pays l Z n0 R y 3 W as h kc ks Qc) (hk : ∀ v h', Qc v h' → Keep h h' wl) (hs : ∀ x ∈ wl, n0 ≤ x ∧ Sf w Z h My x) (hc : cells + kc ≤ R.cells) (hl : slots + ks ≤ R.slots)
    (K : ∀ v h', Qc v h' → Run w l Z EL n0 own nm B ret R Q Ny My h' (cells + kc) (slots + ks) pc' ls (v.toList ++ rest)) : Run w l Z EL n0 own nm B ret R Q Ny My h cells slots pc ls st :=
  Run.call (len := 3) (y := y) (as := as) hp (fun p e s m args below meth c T locs hx hby hml hZ hown X eT Pre Post hK hpre => by
    obtain ⟨v, vm₁, B', x1, x2, x3, st0⟩ := Jvm.LawKit.callS X hx hown (mvT hZ w1) (mvT hZ w2) (mvT hZ w3) (mvT hZ w4) hy hK (g := mkF m pc ls st) rfl hml.symm (argsL := argsL) (rest := rest) hlen hst (by show 2 * 0 + _ ≤ _; omega) (hb hby hd) (by rw [has]; exact hpre)
    exact ⟨v, vm₁, B', x1, x2, has ▸ x3, st0 _ (Steps.refl _)⟩) P hk hs hc hl K
theorem r_staticW {pc' index W kc ks : Nat} {y : MethodName} {argsL rest : List Value} {as : Array Value} {Qc : Option Value → Heap → Prop} {wl : List Addr} {Nc : Option Value → List Addr} {Mc : List Addr} (hw : w = true) {bytes : ByteArray} {maxL : Nat} {rt : Option FieldType} (hd : decode B pc = .ok (.invokestatic index, 3)) (hp : pc + 3 = pc') (w1 : (Jvm.Cond.methodLink own index y).before a0 Z = true) (w2 : (Jvm.Cond.static y).before a0 Z = true) (w3 : (Jvm.Cond.initialized y.cls).before a0 Z = true) (w4 : (Jvm.Cond.code y bytes maxL rt).before a0 Z = true) (hy : y.cls ≠ "java/lang/invoke/MethodHandle" ∧ y.cls ≠ "java/lang/invoke/VarHandle") (hlen : ∀ sig, parseMethodDescriptor y.desc = some sig → argsL.length = sig.parameters.length) (hst : st = argsL.reverse ++ rest) (has : argsL.toArray = as) (hW : (rest.map fun v => v.category).sum ≤ W) (P : PaysW l Z EL n0 Mc R y 3 W as h kc ks Qc Nc) (hm : ∀ x ∈ Mc, x ∈ My) (hk : ∀ v h', Qc v h' → Keep h h' wl) (hs : ∀ x ∈ wl, n0 ≤ x) (hc : cells + kc ≤ R.cells) (hl : slots + ks ≤ R.slots)
    (K : ∀ v h', Qc v h' → Run w l Z EL n0 own nm B ret R Q Ny (Nc v ++ My) h' (cells + kc) (slots + ks) pc' ls (v.toList ++ rest)) : Run w l Z EL n0 own nm B ret R Q Ny My h cells slots pc ls st :=
  Run.callW (len := 3) (y := y) (as := as) hw hp (fun p e s m args below meth c T locs hx hby hml hZ hown X eT Pre Post hK hpre => by
    obtain ⟨v, vm₁, B', x1, x2, x4, x5, x3, st0⟩ := callSS X hx hown (mvT hZ w1) (mvT hZ w2) (mvT hZ w3) (mvT hZ w4) hy hK (g := mkF m pc ls st) rfl hml.symm (argsL := argsL) (rest := rest) hlen hst (by show 2 * 0 + _ ≤ _; omega) (hb hby hd) (by rw [has]; exact hpre)
    exact ⟨v, vm₁, B', x1, x2, x4, x5, has ▸ x3, st0⟩) P hm hk hs hc hl K
theorem r_special {pc' index W kc ks : Nat} {y : MethodName} {argsL rest : List Value} {as : Array Value} {Qc : Option Value → Heap → Prop} {wl : List Addr} {bytes : ByteArray} {maxL : Nat} {a : Addr} (hd : decode B pc = .ok (.invokespecial index, 3)) (hp : pc + 3 = pc') (hi : y.name = "<init>") (w1 : (Jvm.Cond.methodLink own index y).before a0 Z = true) (w2 : (Jvm.Cond.instanceMethod y).before a0 Z = true) (w4 : (Jvm.Cond.code y bytes maxL none).before a0 Z = true) (hy : y.cls ≠ "java/lang/invoke/MethodHandle" ∧ y.cls ≠ "java/lang/invoke/VarHandle") (hlen : ∀ sig, parseMethodDescriptor y.desc = some sig → argsL.length = sig.parameters.length) (hst : st = argsL.reverse ++ .ref a :: rest) (has : (Value.ref a :: argsL).toArray = as) (hW : (rest.map fun v => v.category).sum ≤ W) (P : Pays l Z n0 R y 3 W as h kc ks Qc) (hk : ∀ v h', Qc v h' → Keep h h' wl) (hs : ∀ x ∈ wl, n0 ≤ x ∧ Sf w Z h My x) (hc : cells + kc ≤ R.cells) (hl : slots + ks ≤ R.slots)
    (K : ∀ v h', Qc v h' → Run w l Z EL n0 own nm B ret R Q Ny My h' (cells + kc) (slots + ks) pc' ls (v.toList ++ rest)) : Run w l Z EL n0 own nm B ret R Q Ny My h cells slots pc ls st :=
  Run.call (len := 3) (y := y) (as := as) hp (fun p e s m args below meth c T locs hx hby hml hZ hown X eT Pre Post hK hpre => by
    obtain ⟨v, vm₁, B', x1, x2, x3, st0⟩ := X.specialBack hx hi hown (mvT hZ w1) (mvT hZ w2) (mvT hZ w4) hy hK (g := mkF m pc ls st) rfl hml.symm (Steps.refl _) (a := a) (argsL := argsL) (rest := rest) hlen hst (by show 2 * 0 + _ ≤ _; omega) (hb hby hd) (by rw [has]; exact hpre)
    exact ⟨v, vm₁, B', x1, x2, has ▸ x3, st0⟩) P hk hs hc hl K
theorem r_specialW {pc' index W kc ks : Nat} {y : MethodName} {argsL rest : List Value} {as : Array Value} {Qc : Option Value → Heap → Prop} {wl : List Addr} {Nc : Option Value → List Addr} {Mc : List Addr} (hw : w = true) {bytes : ByteArray} {maxL : Nat} {a : Addr} (hd : decode B pc = .ok (.invokespecial index, 3)) (hp : pc + 3 = pc') (hi : y.name = "<init>") (w1 : (Jvm.Cond.methodLink own index y).before a0 Z = true) (w2 : (Jvm.Cond.instanceMethod y).before a0 Z = true) (w4 : (Jvm.Cond.code y bytes maxL none).before a0 Z = true) (hy : y.cls ≠ "java/lang/invoke/MethodHandle" ∧ y.cls ≠ "java/lang/invoke/VarHandle") (hlen : ∀ sig, parseMethodDescriptor y.desc = some sig → argsL.length = sig.parameters.length) (hst : st = argsL.reverse ++ .ref a :: rest) (has : (Value.ref a :: argsL).toArray = as) (hW : (rest.map fun v => v.category).sum ≤ W) (P : PaysW l Z EL n0 Mc R y 3 W as h kc ks Qc Nc) (hm : ∀ x ∈ Mc, x ∈ My) (hk : ∀ v h', Qc v h' → Keep h h' wl) (hs : ∀ x ∈ wl, n0 ≤ x) (hc : cells + kc ≤ R.cells) (hl : slots + ks ≤ R.slots)
    (K : ∀ v h', Qc v h' → Run w l Z EL n0 own nm B ret R Q Ny (Nc v ++ My) h' (cells + kc) (slots + ks) pc' ls (v.toList ++ rest)) : Run w l Z EL n0 own nm B ret R Q Ny My h cells slots pc ls st :=
  Run.callW (len := 3) (y := y) (as := as) hw hp (fun p e s m args below meth c T locs hx hby hml hZ hown X eT Pre Post hK hpre => by
    obtain ⟨v, vm₁, B', x1, x2, x4, x5, x3, st0⟩ := X.specialBackS hx hi hown (mvT hZ w1) (mvT hZ w2) (mvT hZ w4) hy hK (g := mkF m pc ls st) rfl hml.symm (Steps.refl _) (a := a) (argsL := argsL) (rest := rest) hlen hst (by show 2 * 0 + _ ≤ _; omega) (hb hby hd) (by rw [has]; exact hpre)
    exact ⟨v, vm₁, B', x1, x2, x4, x5, has ▸ x3, st0⟩) P hm hk hs hc hl K
theorem r_virtual {pc' index W kc ks : Nat} {y : MethodName} {argsL rest : List Value} {as : Array Value} {Qc : Option Value → Heap → Prop} {wl : List Addr} {x0 : MethodName} {C : String} {a : Addr} (hd : decode B pc = .ok (.invokevirtual index, 3)) (hp : pc + 3 = pc') (w1 : (Jvm.Cond.methodLink own index x0).before a0 Z = true) (w2 : (Jvm.Cond.declares x0).before a0 Z = true) (w3 : (Jvm.Cond.selects C x0 y).before a0 Z = true) (w4 : (Jvm.Cond.instanceMethod y).before a0 Z = true) (hy : x0.cls ≠ "java/lang/invoke/MethodHandle" ∧ x0.cls ≠ "java/lang/invoke/VarHandle") (hn : x0 = y ∧ C = x0.cls) (E : Exa Z h a C) (hlen : ∀ sig, parseMethodDescriptor x0.desc = some sig → argsL.length = sig.parameters.length) (hst : st = argsL.reverse ++ .ref a :: rest) (has : (Value.ref a :: argsL).toArray = as) (hW : (rest.map fun v => v.category).sum ≤ W) (P : Pays l Z n0 R y 3 W as h kc ks Qc) (hk : ∀ v h', Qc v h' → Keep h h' wl) (hs : ∀ x ∈ wl, n0 ≤ x ∧ Sf w Z h My x) (hc : cells + kc ≤ R.cells) (hl : slots + ks ≤ R.slots)
    (K : ∀ v h', Qc v h' → Run w l Z EL n0 own nm B ret R Q Ny My h' (cells + kc) (slots + ks) pc' ls (v.toList ++ rest)) : Run w l Z EL n0 own nm B ret R Q Ny My h cells slots pc ls st :=
  Run.call (len := 3) (y := y) (as := as) hp (fun p e s m args below meth c T locs hx hby hml hZ hown X eT Pre Post hK hpre => by
    obtain ⟨cq34, kq34, q34a, q34b, q34c⟩ := isOf hZ eT E
    obtain ⟨v, vm₁, B', x1, x2, x3, st0⟩ := X.virtualBack hx (y := x0) (z := y) hown (mvT hZ w1) (mvT hZ w2) (notFace_of_selects (args := #[]) (by obtain ⟨q1, q2⟩ := hn; subst q1 q2; exact mvT hZ w3)) (mvT hZ w3) (mvT hZ w4) hy hK q34a q34c (g := mkF m pc ls st) rfl hml.symm (Steps.refl _) (argsL := argsL) (rest := rest) hlen hst (by show 2 * 0 + _ ≤ _; omega) (hb hby hd) (by rw [has]; exact hpre)
    exact ⟨v, vm₁, B', x1, x2, has ▸ x3, st0⟩) P hk hs hc hl K
theorem r_virtualW {pc' index W kc ks : Nat} {y : MethodName} {argsL rest : List Value} {as : Array Value} {Qc : Option Value → Heap → Prop} {wl : List Addr} {Nc : Option Value → List Addr} {Mc : List Addr} (hw : w = true) {x0 : MethodName} {C : String} {a : Addr} (hd : decode B pc = .ok (.invokevirtual index, 3)) (hp : pc + 3 = pc') (w1 : (Jvm.Cond.methodLink own index x0).before a0 Z = true) (w2 : (Jvm.Cond.declares x0).before a0 Z = true) (w3 : (Jvm.Cond.selects C x0 y).before a0 Z = true) (w4 : (Jvm.Cond.instanceMethod y).before a0 Z = true) (hy : x0.cls ≠ "java/lang/invoke/MethodHandle" ∧ x0.cls ≠ "java/lang/invoke/VarHandle") (hn : x0 = y ∧ C = x0.cls) (E : Exa Z h a C) (hlen : ∀ sig, parseMethodDescriptor x0.desc = some sig → argsL.length = sig.parameters.length) (hst : st = argsL.reverse ++ .ref a :: rest) (has : (Value.ref a :: argsL).toArray = as) (hW : (rest.map fun v => v.category).sum ≤ W) (P : PaysW l Z EL n0 Mc R y 3 W as h kc ks Qc Nc) (hm : ∀ x ∈ Mc, x ∈ My) (hk : ∀ v h', Qc v h' → Keep h h' wl) (hs : ∀ x ∈ wl, n0 ≤ x) (hc : cells + kc ≤ R.cells) (hl : slots + ks ≤ R.slots)
    (K : ∀ v h', Qc v h' → Run w l Z EL n0 own nm B ret R Q Ny (Nc v ++ My) h' (cells + kc) (slots + ks) pc' ls (v.toList ++ rest)) : Run w l Z EL n0 own nm B ret R Q Ny My h cells slots pc ls st :=
  Run.callW (len := 3) (y := y) (as := as) hw hp (fun p e s m args below meth c T locs hx hby hml hZ hown X eT Pre Post hK hpre => by
    obtain ⟨cq34, kq34, q34a, q34b, q34c⟩ := isOf hZ eT E
    obtain ⟨v, vm₁, B', x1, x2, x4, x5, x3, st0⟩ := X.virtualBackS hx (y := x0) (z := y) hown (mvT hZ w1) (mvT hZ w2) (notFace_of_selects (args := #[]) (by obtain ⟨q1, q2⟩ := hn; subst q1 q2; exact mvT hZ w3)) (mvT hZ w3) (mvT hZ w4) hy hK q34a q34c (g := mkF m pc ls st) rfl hml.symm (Steps.refl _) (argsL := argsL) (rest := rest) hlen hst (by show 2 * 0 + _ ≤ _; omega) (hb hby hd) (by rw [has]; exact hpre)
    exact ⟨v, vm₁, B', x1, x2, x4, x5, has ▸ x3, st0⟩) P hm hk hs hc hl K
theorem r_virtualU {pc' index W kc ks : Nat} {y : MethodName} {argsL rest : List Value} {as : Array Value} {Qc : Option Value → Heap → Prop} {wl : List Addr} {x0 : MethodName} {C : String} {a : Addr} {S0 : String} (hd : decode B pc = .ok (.invokevirtual index, 3)) (hp : pc + 3 = pc') (w1 : (Jvm.Cond.methodLink own index x0).before a0 Z = true) (w2 : (Jvm.Cond.declares x0).before a0 Z = true) (w3 : (Jvm.Cond.selects C x0 y).before a0 Z = true) (w4 : (Jvm.Cond.instanceMethod y).before a0 Z = true) (hy : x0.cls ≠ "java/lang/invoke/MethodHandle" ∧ x0.cls ≠ "java/lang/invoke/VarHandle") (hn : (Jvm.Cond.superclass x0.cls S0).before a0 Z = true) (E : Exa Z h a C) (hlen : ∀ sig, parseMethodDescriptor x0.desc = some sig → argsL.length = sig.parameters.length) (hst : st = argsL.reverse ++ .ref a :: rest) (has : (Value.ref a :: argsL).toArray = as) (hW : (rest.map fun v => v.category).sum ≤ W) (P : Pays l Z n0 R y 3 W as h kc ks Qc) (hk : ∀ v h', Qc v h' → Keep h h' wl) (hs : ∀ x ∈ wl, n0 ≤ x ∧ Sf w Z h My x) (hc : cells + kc ≤ R.cells) (hl : slots + ks ≤ R.slots)
    (K : ∀ v h', Qc v h' → Run w l Z EL n0 own nm B ret R Q Ny My h' (cells + kc) (slots + ks) pc' ls (v.toList ++ rest)) : Run w l Z EL n0 own nm B ret R Q Ny My h cells slots pc ls st :=
  Run.call (len := 3) (y := y) (as := as) hp (fun p e s m args below meth c T locs hx hby hml hZ hown X eT Pre Post hK hpre => by
    obtain ⟨cq34, kq34, q34a, q34b, q34c⟩ := isOf hZ eT E
    obtain ⟨v, vm₁, B', x1, x2, x3, st0⟩ := X.virtualBack hx (y := x0) (z := y) hown (mvT hZ w1) (mvT hZ w2) (nf_super (args := #[]) (mvT hZ hn)) (mvT hZ w3) (mvT hZ w4) hy hK q34a q34c (g := mkF m pc ls st) rfl hml.symm (Steps.refl _) (argsL := argsL) (rest := rest) hlen hst (by show 2 * 0 + _ ≤ _; omega) (hb hby hd) (by rw [has]; exact hpre)
    exact ⟨v, vm₁, B', x1, x2, has ▸ x3, st0⟩) P hk hs hc hl K
theorem r_virtualUW {pc' index W kc ks : Nat} {y : MethodName} {argsL rest : List Value} {as : Array Value} {Qc : Option Value → Heap → Prop} {wl : List Addr} {Nc : Option Value → List Addr} {Mc : List Addr} (hw : w = true) {x0 : MethodName} {C : String} {a : Addr} {S0 : String} (hd : decode B pc = .ok (.invokevirtual index, 3)) (hp : pc + 3 = pc') (w1 : (Jvm.Cond.methodLink own index x0).before a0 Z = true) (w2 : (Jvm.Cond.declares x0).before a0 Z = true) (w3 : (Jvm.Cond.selects C x0 y).before a0 Z = true) (w4 : (Jvm.Cond.instanceMethod y).before a0 Z = true) (hy : x0.cls ≠ "java/lang/invoke/MethodHandle" ∧ x0.cls ≠ "java/lang/invoke/VarHandle") (hn : (Jvm.Cond.superclass x0.cls S0).before a0 Z = true) (E : Exa Z h a C) (hlen : ∀ sig, parseMethodDescriptor x0.desc = some sig → argsL.length = sig.parameters.length) (hst : st = argsL.reverse ++ .ref a :: rest) (has : (Value.ref a :: argsL).toArray = as) (hW : (rest.map fun v => v.category).sum ≤ W) (P : PaysW l Z EL n0 Mc R y 3 W as h kc ks Qc Nc) (hm : ∀ x ∈ Mc, x ∈ My) (hk : ∀ v h', Qc v h' → Keep h h' wl) (hs : ∀ x ∈ wl, n0 ≤ x) (hc : cells + kc ≤ R.cells) (hl : slots + ks ≤ R.slots)
    (K : ∀ v h', Qc v h' → Run w l Z EL n0 own nm B ret R Q Ny (Nc v ++ My) h' (cells + kc) (slots + ks) pc' ls (v.toList ++ rest)) : Run w l Z EL n0 own nm B ret R Q Ny My h cells slots pc ls st :=
  Run.callW (len := 3) (y := y) (as := as) hw hp (fun p e s m args below meth c T locs hx hby hml hZ hown X eT Pre Post hK hpre => by
    obtain ⟨cq34, kq34, q34a, q34b, q34c⟩ := isOf hZ eT E
    obtain ⟨v, vm₁, B', x1, x2, x4, x5, x3, st0⟩ := X.virtualBackS hx (y := x0) (z := y) hown (mvT hZ w1) (mvT hZ w2) (nf_super (args := #[]) (mvT hZ hn)) (mvT hZ w3) (mvT hZ w4) hy hK q34a q34c (g := mkF m pc ls st) rfl hml.symm (Steps.refl _) (argsL := argsL) (rest := rest) hlen hst (by show 2 * 0 + _ ≤ _; omega) (hb hby hd) (by rw [has]; exact hpre)
    exact ⟨v, vm₁, B', x1, x2, x4, x5, has ▸ x3, st0⟩) P hm hk hs hc hl K
theorem r_virtualUp {pc' index W kc ks : Nat} {y : MethodName} {argsL rest : List Value} {as : Array Value} {Qc : Option Value → Heap → Prop} {wl : List Addr} {x0 : MethodName} {C owner : String} {a : Addr} (hd : decode B pc = .ok (.invokevirtual index, 3)) (hp : pc + 3 = pc') (w1 : (Jvm.Cond.methodLink own index x0).before a0 Z = true) (w5 : (Jvm.Cond.sameMethod x0.cls owner x0.name x0.desc).before a0 Z = true) (w2 : (Jvm.Cond.declares ⟨owner, x0.name, x0.desc⟩).before a0 Z = true) (hy : owner ≠ "java/lang/invoke/MethodHandle" ∧ owner ≠ "java/lang/invoke/VarHandle") (w3 : (Jvm.Cond.selects C x0 y).before a0 Z = true) (w4 : (Jvm.Cond.instanceMethod y).before a0 Z = true) (E : Exa Z h a C) (hlen : ∀ sig, parseMethodDescriptor x0.desc = some sig → argsL.length = sig.parameters.length) (hst : st = argsL.reverse ++ .ref a :: rest) (has : (Value.ref a :: argsL).toArray = as) (hW : (rest.map fun v => v.category).sum ≤ W) (P : Pays l Z n0 R y 3 W as h kc ks Qc) (hk : ∀ v h', Qc v h' → Keep h h' wl) (hs : ∀ x ∈ wl, n0 ≤ x ∧ Sf w Z h My x) (hc : cells + kc ≤ R.cells) (hl : slots + ks ≤ R.slots)
    (K : ∀ v h', Qc v h' → Run w l Z EL n0 own nm B ret R Q Ny My h' (cells + kc) (slots + ks) pc' ls (v.toList ++ rest)) : Run w l Z EL n0 own nm B ret R Q Ny My h cells slots pc ls st :=
  Run.call (len := 3) (y := y) (as := as) hp (fun p e s m args below meth c T locs hx hby hml hZ hown X eT Pre Post hK hpre => by
    obtain ⟨cq34, kq34, q34a, q34b, q34c⟩ := isOf hZ eT E
    obtain ⟨v, vm₁, B', x1, x2, x3, st0⟩ := X.virtualBackUp hx (x := x0) (y := y) hown (mvT hZ w1) (mvT hZ w5) (mvT hZ w2) hy (mvT hZ w3) (mvT hZ w4) hK q34a q34c (g := mkF m pc ls st) rfl hml.symm (Steps.refl _) (argsL := argsL) (rest := rest) hlen hst (by show 2 * 0 + _ ≤ _; omega) (hb hby hd) (by rw [has]; exact hpre)
    exact ⟨v, vm₁, B', x1, x2, has ▸ x3, st0⟩) P hk hs hc hl K
theorem r_virtualUpW {pc' index W kc ks : Nat} {y : MethodName} {argsL rest : List Value} {as : Array Value} {Qc : Option Value → Heap → Prop} {wl : List Addr} {Nc : Option Value → List Addr} {Mc : List Addr} (hw : w = true) {x0 : MethodName} {C owner : String} {a : Addr} (hd : decode B pc = .ok (.invokevirtual index, 3)) (hp : pc + 3 = pc') (w1 : (Jvm.Cond.methodLink own index x0).before a0 Z = true) (w5 : (Jvm.Cond.sameMethod x0.cls owner x0.name x0.desc).before a0 Z = true) (w2 : (Jvm.Cond.declares ⟨owner, x0.name, x0.desc⟩).before a0 Z = true) (hy : owner ≠ "java/lang/invoke/MethodHandle" ∧ owner ≠ "java/lang/invoke/VarHandle") (w3 : (Jvm.Cond.selects C x0 y).before a0 Z = true) (w4 : (Jvm.Cond.instanceMethod y).before a0 Z = true) (E : Exa Z h a C) (hlen : ∀ sig, parseMethodDescriptor x0.desc = some sig → argsL.length = sig.parameters.length) (hst : st = argsL.reverse ++ .ref a :: rest) (has : (Value.ref a :: argsL).toArray = as) (hW : (rest.map fun v => v.category).sum ≤ W) (P : PaysW l Z EL n0 Mc R y 3 W as h kc ks Qc Nc) (hm : ∀ x ∈ Mc, x ∈ My) (hk : ∀ v h', Qc v h' → Keep h h' wl) (hs : ∀ x ∈ wl, n0 ≤ x) (hc : cells + kc ≤ R.cells) (hl : slots + ks ≤ R.slots)
    (K : ∀ v h', Qc v h' → Run w l Z EL n0 own nm B ret R Q Ny (Nc v ++ My) h' (cells + kc) (slots + ks) pc' ls (v.toList ++ rest)) : Run w l Z EL n0 own nm B ret R Q Ny My h cells slots pc ls st :=
  Run.callW (len := 3) (y := y) (as := as) hw hp (fun p e s m args below meth c T locs hx hby hml hZ hown X eT Pre Post hK hpre => by
    obtain ⟨cq34, kq34, q34a, q34b, q34c⟩ := isOf hZ eT E
    obtain ⟨v, vm₁, B', x1, x2, x4, x5, x3, st0⟩ := X.virtualBackUpS hx (x := x0) (y := y) hown (mvT hZ w1) (mvT hZ w5) (mvT hZ w2) hy (mvT hZ w3) (mvT hZ w4) hK q34a q34c (g := mkF m pc ls st) rfl hml.symm (Steps.refl _) (argsL := argsL) (rest := rest) hlen hst (by show 2 * 0 + _ ≤ _; omega) (hb hby hd) (by rw [has]; exact hpre)
    exact ⟨v, vm₁, B', x1, x2, x4, x5, has ▸ x3, st0⟩) P hm hk hs hc hl K
theorem r_private {pc' index W kc ks : Nat} {y : MethodName} {argsL rest : List Value} {as : Array Value} {Qc : Option Value → Heap → Prop} {wl : List Addr} {bytes : ByteArray} {maxL : Nat} {rt : Option FieldType} {C : String} {a : Addr} (hd : decode B pc = .ok (.invokevirtual index, 3)) (hp : pc + 3 = pc') (w1 : (Jvm.Cond.methodLink own index y).before a0 Z = true) (w2 : (Jvm.Cond.instanceMethod y).before a0 Z = true) (w3 : (Jvm.Cond.selects y.cls y y).before a0 Z = true) (w5 : (Jvm.Cond.privateMethod y).before a0 Z = true) (w4 : (Jvm.Cond.code y bytes maxL rt).before a0 Z = true) (hy : y.cls ≠ "java/lang/invoke/MethodHandle" ∧ y.cls ≠ "java/lang/invoke/VarHandle") (E : Exa Z h a C) (hlen : ∀ sig, parseMethodDescriptor y.desc = some sig → argsL.length = sig.parameters.length) (hst : st = argsL.reverse ++ .ref a :: rest) (has : (Value.ref a :: argsL).toArray = as) (hW : (rest.map fun v => v.category).sum ≤ W) (P : Pays l Z n0 R y 3 W as h kc ks Qc) (hk : ∀ v h', Qc v h' → Keep h h' wl) (hs : ∀ x ∈ wl, n0 ≤ x ∧ Sf w Z h My x) (hc : cells + kc ≤ R.cells) (hl : slots + ks ≤ R.slots)
    (K : ∀ v h', Qc v h' → Run w l Z EL n0 own nm B ret R Q Ny My h' (cells + kc) (slots + ks) pc' ls (v.toList ++ rest)) : Run w l Z EL n0 own nm B ret R Q Ny My h cells slots pc ls st :=
  Run.call (len := 3) (y := y) (as := as) hp (fun p e s m args below meth c T locs hx hby hml hZ hown X eT Pre Post hK hpre => by
    obtain ⟨cel, ce1, ce2⟩ := E.cell
    obtain ⟨v, vm₁, B', x1, x2, x3, st0⟩ := X.privateBack hx hown (mvT hZ w1) (mvT hZ w2) (mvT hZ w3) (Cond.privateMethod_at (mvP (args := #[]) hZ w5)) (mvT hZ w4) hy hK (g := mkF m pc ls st) rfl hml.symm (Steps.refl _) (a := a) (cell := cel) (by rw [eT]; exact ce1) ce2 (argsL := argsL) (rest := rest) hlen hst (by show 2 * 0 + _ ≤ _; omega) (hb hby hd) (by rw [has]; exact hpre)
    exact ⟨v, vm₁, B', x1, x2, has ▸ x3, st0⟩) P hk hs hc hl K
theorem r_privateW {pc' index W kc ks : Nat} {y : MethodName} {argsL rest : List Value} {as : Array Value} {Qc : Option Value → Heap → Prop} {wl : List Addr} {Nc : Option Value → List Addr} {Mc : List Addr} (hw : w = true) {bytes : ByteArray} {maxL : Nat} {rt : Option FieldType} {C : String} {a : Addr} (hd : decode B pc = .ok (.invokevirtual index, 3)) (hp : pc + 3 = pc') (w1 : (Jvm.Cond.methodLink own index y).before a0 Z = true) (w2 : (Jvm.Cond.instanceMethod y).before a0 Z = true) (w3 : (Jvm.Cond.selects y.cls y y).before a0 Z = true) (w5 : (Jvm.Cond.privateMethod y).before a0 Z = true) (w4 : (Jvm.Cond.code y bytes maxL rt).before a0 Z = true) (hy : y.cls ≠ "java/lang/invoke/MethodHandle" ∧ y.cls ≠ "java/lang/invoke/VarHandle") (E : Exa Z h a C) (hlen : ∀ sig, parseMethodDescriptor y.desc = some sig → argsL.length = sig.parameters.length) (hst : st = argsL.reverse ++ .ref a :: rest) (has : (Value.ref a :: argsL).toArray = as) (hW : (rest.map fun v => v.category).sum ≤ W) (P : PaysW l Z EL n0 Mc R y 3 W as h kc ks Qc Nc) (hm : ∀ x ∈ Mc, x ∈ My) (hk : ∀ v h', Qc v h' → Keep h h' wl) (hs : ∀ x ∈ wl, n0 ≤ x) (hc : cells + kc ≤ R.cells) (hl : slots + ks ≤ R.slots)
    (K : ∀ v h', Qc v h' → Run w l Z EL n0 own nm B ret R Q Ny (Nc v ++ My) h' (cells + kc) (slots + ks) pc' ls (v.toList ++ rest)) : Run w l Z EL n0 own nm B ret R Q Ny My h cells slots pc ls st :=
  Run.callW (len := 3) (y := y) (as := as) hw hp (fun p e s m args below meth c T locs hx hby hml hZ hown X eT Pre Post hK hpre => by
    obtain ⟨cel, ce1, ce2⟩ := E.cell
    obtain ⟨v, vm₁, B', x1, x2, x4, x5, x3, st0⟩ := X.privateBackS hx hown (mvT hZ w1) (mvT hZ w2) (mvT hZ w3) (Cond.privateMethod_at (mvP (args := #[]) hZ w5)) (mvT hZ w4) hy hK (g := mkF m pc ls st) rfl hml.symm (Steps.refl _) (a := a) (cell := cel) (by rw [eT]; exact ce1) ce2 (argsL := argsL) (rest := rest) hlen hst (by show 2 * 0 + _ ≤ _; omega) (hb hby hd) (by rw [has]; exact hpre)
    exact ⟨v, vm₁, B', x1, x2, x4, x5, has ▸ x3, st0⟩) P hm hk hs hc hl K
theorem r_interface {pc' index W kc ks : Nat} {y : MethodName} {argsL rest : List Value} {as : Array Value} {Qc : Option Value → Heap → Prop} {wl : List Addr} {x0 : MethodName} {C : String} {a : Addr} {count : Nat} (hd : decode B pc = .ok (.invokeinterface index count, 5)) (hp : pc + 5 = pc') (w1 : (Jvm.Cond.methodLink own index x0).before a0 Z = true) (w2 : (Jvm.Cond.declares x0).before a0 Z = true) (w5 : (Jvm.Cond.interfaceMethod x0.cls x0.cls x0.name x0.desc).before a0 Z = true) (hd5 : ((Jvm.Cond.interfaceMethod x0.cls x0.cls x0.name x0.desc).onTables && (Jvm.Cond.interfaceMethod x0.cls x0.cls x0.name x0.desc).keepsFace) = true) (w3 : (Jvm.Cond.selects C x0 y).before a0 Z = true) (w4 : (Jvm.Cond.instanceMethod y).before a0 Z = true) (w6 : (Jvm.Cond.publicMethod y).before a0 Z = true) (w7 : (Jvm.Cond.unhidden C x0.name x0.desc).before a0 Z = true) (w8 : (Jvm.Cond.castable C x0.cls).before a0 Z = true) (hy : x0.cls ≠ "java/lang/invoke/MethodHandle" ∧ x0.cls ≠ "java/lang/invoke/VarHandle") (E : Exa Z h a C) (hlen : ∀ sig, parseMethodDescriptor x0.desc = some sig → argsL.length = sig.parameters.length) (hst : st = argsL.reverse ++ .ref a :: rest) (has : (Value.ref a :: argsL).toArray = as) (hW : (rest.map fun v => v.category).sum ≤ W) (P : Pays l Z n0 R y 5 W as h kc ks Qc) (hk : ∀ v h', Qc v h' → Keep h h' wl) (hs : ∀ x ∈ wl, n0 ≤ x ∧ Sf w Z h My x) (hc : cells + kc ≤ R.cells) (hl : slots + ks ≤ R.slots)
    (K : ∀ v h', Qc v h' → Run w l Z EL n0 own nm B ret R Q Ny My h' (cells + kc) (slots + ks) pc' ls (v.toList ++ rest)) : Run w l Z EL n0 own nm B ret R Q Ny My h cells slots pc ls st :=
  Run.call (len := 5) (y := y) (as := as) hp (fun p e s m args below meth c T locs hx hby hml hZ hown X eT Pre Post hK hpre => by
    obtain ⟨cq34, kq34, q34a, q34b, q34c⟩ := isOf hZ eT E
    obtain ⟨v, vm₁, B', x1, x2, x3, st0⟩ := X.interfaceBack hx (xi := x0) (y := y) hown (mvT hZ w1) (mvT hZ w2) (mvT hZ w5 hd5) (mvT hZ w3) (mvT hZ w4) (mvT hZ w6) (mvT hZ w7) (mvT hZ w8) hy hK q34a q34b q34c (g := mkF m pc ls st) rfl hml.symm (Steps.refl _) (argsL := argsL) (rest := rest) hlen hst (by show 2 * 0 + _ ≤ _; omega) (hb hby hd) (by rw [has]; exact hpre)
    exact ⟨v, vm₁, B', x1, x2, has ▸ x3, st0⟩) P hk hs hc hl K
theorem r_interfaceW {pc' index W kc ks : Nat} {y : MethodName} {argsL rest : List Value} {as : Array Value} {Qc : Option Value → Heap → Prop} {wl : List Addr} {Nc : Option Value → List Addr} {Mc : List Addr} (hw : w = true) {x0 : MethodName} {C : String} {a : Addr} {count : Nat} (hd : decode B pc = .ok (.invokeinterface index count, 5)) (hp : pc + 5 = pc') (w1 : (Jvm.Cond.methodLink own index x0).before a0 Z = true) (w2 : (Jvm.Cond.declares x0).before a0 Z = true) (w5 : (Jvm.Cond.interfaceMethod x0.cls x0.cls x0.name x0.desc).before a0 Z = true) (hd5 : ((Jvm.Cond.interfaceMethod x0.cls x0.cls x0.name x0.desc).onTables && (Jvm.Cond.interfaceMethod x0.cls x0.cls x0.name x0.desc).keepsFace) = true) (w3 : (Jvm.Cond.selects C x0 y).before a0 Z = true) (w4 : (Jvm.Cond.instanceMethod y).before a0 Z = true) (w6 : (Jvm.Cond.publicMethod y).before a0 Z = true) (w7 : (Jvm.Cond.unhidden C x0.name x0.desc).before a0 Z = true) (w8 : (Jvm.Cond.castable C x0.cls).before a0 Z = true) (hy : x0.cls ≠ "java/lang/invoke/MethodHandle" ∧ x0.cls ≠ "java/lang/invoke/VarHandle") (E : Exa Z h a C) (hlen : ∀ sig, parseMethodDescriptor x0.desc = some sig → argsL.length = sig.parameters.length) (hst : st = argsL.reverse ++ .ref a :: rest) (has : (Value.ref a :: argsL).toArray = as) (hW : (rest.map fun v => v.category).sum ≤ W) (P : PaysW l Z EL n0 Mc R y 5 W as h kc ks Qc Nc) (hm : ∀ x ∈ Mc, x ∈ My) (hk : ∀ v h', Qc v h' → Keep h h' wl) (hs : ∀ x ∈ wl, n0 ≤ x) (hc : cells + kc ≤ R.cells) (hl : slots + ks ≤ R.slots)
    (K : ∀ v h', Qc v h' → Run w l Z EL n0 own nm B ret R Q Ny (Nc v ++ My) h' (cells + kc) (slots + ks) pc' ls (v.toList ++ rest)) : Run w l Z EL n0 own nm B ret R Q Ny My h cells slots pc ls st :=
  Run.callW (len := 5) (y := y) (as := as) hw hp (fun p e s m args below meth c T locs hx hby hml hZ hown X eT Pre Post hK hpre => by
    obtain ⟨cq34, kq34, q34a, q34b, q34c⟩ := isOf hZ eT E
    obtain ⟨v, vm₁, B', x1, x2, x4, x5, x3, st0⟩ := X.interfaceBackS hx (xi := x0) (y := y) hown (mvT hZ w1) (mvT hZ w2) (mvT hZ w5 hd5) (mvT hZ w3) (mvT hZ w4) (mvT hZ w6) (mvT hZ w7) (mvT hZ w8) hy hK q34a q34b q34c (g := mkF m pc ls st) rfl hml.symm (Steps.refl _) (argsL := argsL) (rest := rest) hlen hst (by show 2 * 0 + _ ≤ _; omega) (hb hby hd) (by rw [has]; exact hpre)
    exact ⟨v, vm₁, B', x1, x2, x4, x5, has ▸ x3, st0⟩) P hm hk hs hc hl K
/-- ldc of a String constant that is held, read -/
theorem r_ldcS {pc' : Nat} {index : Nat} {text : String} {vs : List Value} {z : Int32} {n : Nat} (hw : w = true) (hd : decode B pc = .ok (.ldc index, 2)) (hp : pc + 2 = pc') (wl : (Jvm.Cond.stringLink own index text).before a0 Z = true) (wS : ∀ a ∈ Bundle.stringAtoms, a.before a0 Z = true) (hmem : (own, index) ∈ EL)
    (ht : (∀ c ∈ text.toList, c.toNat < 256) ∧ text.toList.map (fun c => Value.int (Jvm.Lit.byteI c.toNat.toUInt16)) = vs) (hz : ¬ z < 0) (hl : z.toNatClampNeg = vs.length) (hn : 4 * text.toList.length ≤ n) (hbig : n ≤ 536870912) (hc : cells + 2 ≤ R.cells) (hl' : slots + (n + 4) ≤ R.slots)
    (K : ∀ (h' : Heap) (a b : Addr) (k : ClassId), Ext h h' → Exa Z h' a "java/lang/String" → Fld Z h' a "java/lang/String" "coder" "B" (.int 0) → Fld Z h' a "java/lang/String" "value" "[B" (.ref b) → Arv Z h' b k .byte z vs (.int 0) → (∀ x ∈ My, x ≠ a ∧ x ≠ b) → Run w l Z EL n0 own nm B ret R Q Ny My h' (cells + 2) (slots + (n + 4)) pc' ls (.ref a :: st)) : Run w l Z EL n0 own nm B ret R Q Ny My h cells slots pc ls st := by
  intro p e s m args below meth c T locs vm hx hby hml hret hnm hlk hZ hown X eT N hH
  obtain ⟨hEW0, ⟨k0, hS0, hk0⟩, hC, hMy⟩ := hH.2.2 hw
  obtain ⟨a1, hEW⟩ := id hEW0
  have hEWa : EW Z a0 EL := fun q hq => by obtain ⟨t, h1, h2⟩ := hEW q hq; exact ⟨t, h1, h2⟩
  obtain ⟨a, T', h', k1, b, k, X', e', E', hS', hk', hZ', hown', A1, C1, V1, K1, la, lb, hC', -, hne, stp⟩ := ldcCH X hx hZ hown wl wS eT hS0 hk0 hEWa hmem hC.1 ht hz hl (g := mkF m pc ls st) rfl (hb hby hd) hn hbig hc hl'
  have hmy : ∀ x ∈ My, x < h'.size ∧ Safe Z EL T'.vm h' x := fun x hx => ⟨Nat.lt_of_lt_of_le (hMy x hx).1 E'.1, hC'.safe (hMy x hx).1 (hMy x hx).2⟩
  obtain ⟨t, o, hs, r⟩ := K h' a b k E' A1 C1 V1 K1 (fun x hx => hne x (hmy x hx).2) p e s m args below meth c T' locs T'.vm hx hby hml hret hnm hlk hZ' hown' X' e' N ⟨hH.1.ext E', fun q => (by rw [hw] at q; cases q), fun _ => ⟨hEW0, ⟨k1, hS', hk'⟩, hC.trans hC', hmy⟩⟩
  exact ⟨t, o, stp t (by subst hp; exact hs), r⟩
/-- from a walk to the contract -/
theorem Ok.of_run {y : MethodName} {bytes : ByteArray} {maxL : Nat} {rt : Option FieldType} {rm : Room} {as : Array Value} {Qc : Option Value → Heap → Prop} {Nc : Option Value → List Addr} {ls0 : Array Slot} (hy : plainFor y = true) (hef : ∀ m, entryFrame m as maxL = mkF m 0 ls0 []) (hsz : maxL = ls0.size)
    (r : Run w l Z EL n0 y.cls y.name bytes rt rm Qc Nc My h 0 0 0 ls0 []) : Ok w l Z EL n0 My y bytes maxL rt rm as h Qc Nc := by
  intro ws
  refine MetFree.of_bodySF hy hisR ?_
  intro p e s m args below meth c s₁ Bd hml0 hP hK
  obtain ⟨rfl, hZ, hh, hO, hw⟩ := hP
  have hml : c.maxLocals = maxL := hml0
  have hown : s.vm.findClass y.cls = some m.cls := findClass_of_methodNamed Bd.named
  have hnm := (name_of_methodNamed Bd.named Bd.method).1
  have X0 : Stand p l e rm s m args below meth c s₁ [] 0 0 := Stand.of_body Bd
  have e0 : s₁.heap = h := by rw [← hh, Bd.state]; rfl
  obtain ⟨t, o, hs, h1, h2, v, L, h3, h4, h5, h6⟩ := r p e s m args below meth c s₁ [] s.vm Bd.exec Bd.bytes (hml.trans hsz) Bd.returns hnm Bd.notSynchronized hZ hown X0 e0 (Fr.nil n0) ⟨hO, fun _ => rfl, fun q => by
    obtain ⟨a, b, c⟩ := hw q
    exact ⟨a, ⟨s.heap.size, (State.WarmedH.refl s).since _, by rw [hh]; exact Nat.le_refl _⟩, by rw [hh]; exact CHr.refl b, c⟩⟩
  exact ⟨t, o, castTop (hef m) hs, h1, h2, v, L, h3, h4, h5, h6⟩
end Calls
end Jvm.OwnKit
namespace Jvm.OwnKit
open Jvm Jvm.ClassFile Sem Op Lib Jvm.Free Jvm.Stand Jvm.LawKit Jvm.RoadKit Bundle
/-- the bytes of a Latin-1 text, as values -/
abbrev bv (cs : List Int32) : List Value := (cs.map (fun c => c.toInt8.toInt32)).map Value.int
/-- a compact String with these chars: its array is at t -/
def Str (Z : State) (h : Heap) (a t : Addr) (cs : List Int32) : Prop :=
  Exa Z h a "java/lang/String" ∧ Fld Z h a "java/lang/String" "coder" "B" (.int 0) ∧ Fld Z h a "java/lang/String" "value" "[B" (.ref t) ∧ (∃ kb, Arv Z h t kb .byte (Int32.ofNat cs.length) (bv cs) (.int 0)) ∧ (cs ≠ [] → Exa Z h t "[B")
/-- every char from 0 to 255 -/
def Lat (cs : List Int32) : Prop := ∀ c ∈ cs, ¬ c < 0 ∧ ¬ (255 : Int32) < c
/-- the object that is returned -/
def refs : Option Value → List Addr
  | some (.ref a) => [a]
  | _ => []
theorem ofNat_in {i n : Nat} (h : i < n) (hn : n < 2 ^ 31) : ¬ Int32.ofNat i < 0 ∧ Int32.ofNat i < Int32.ofNat n := by
  have e1 : (Int32.ofNat i).toInt = i := Int32.toInt_ofNat_of_lt (by omega)
  have e2 : (Int32.ofNat n).toInt = n := Int32.toInt_ofNat_of_lt (by omega)
  have e3 : (0 : Int32).toInt = 0 := rfl
  constructor
  · rw [Int32.lt_iff_toInt_lt, e1, e3]; omega
  · rw [Int32.lt_iff_toInt_lt, e1, e2]; omega
theorem ofNat_nlt {i n : Nat} (h : n ≤ i) (hi : i < 2 ^ 31) : ¬ Int32.ofNat i < Int32.ofNat n := by
  have e1 : (Int32.ofNat i).toInt = i := Int32.toInt_ofNat_of_lt (by omega)
  have e2 : (Int32.ofNat n).toInt = n := Int32.toInt_ofNat_of_lt (by omega)
  rw [Int32.lt_iff_toInt_lt, e1, e2]; omega
theorem ofNat_cl {i : Nat} (h : i < 2 ^ 31) : (Int32.ofNat i).toNatClampNeg = i := Int32.toNatClampNeg_ofNat_of_lt h
theorem getD_map (bs : List Int32) (i : Nat) : (bs.map Value.int).getD i (.int 0) = .int (bs.getD i 0) := by
  simp only [List.getD_eq_getElem?_getD, List.getElem?_map]
  cases bs[i]? <;> rfl
/-- the polynomial of the bytes, read without sign -/
def hsh (r : Int32) (bs : List Int32) : Int32 := bs.foldl (fun r b => 31 * r + (b &&& 255)) r
theorem hsh_drop {bs : List Int32} {i : Nat} (h : i < bs.length) (r : Int32) : hsh r (bs.drop i) = hsh (31 * r + (bs.getD i 0 &&& 255)) (bs.drop (i + 1)) := by
  rw [List.drop_eq_getElem_cons h, List.getD_eq_getElem?_getD, List.getElem?_eq_getElem h]
  rfl
theorem ns_root {Z : State} {a0 : Array Value} {O K : String} {n : Nat} (w : (Jvm.Cond.noSuperclass O).before a0 Z = true) (wi : (Jvm.Cond.instantiable K n).before a0 Z = true) (hn : O ≠ K) : NS Z O K := by
  obtain ⟨c, k, h1, h2, h3, -, -⟩ := Cond.noSuperclass_spec w
  obtain ⟨t, kt, g1, -⟩ := Cond.instantiable_spec wi
  have ne := ids_ne h1 g1 hn
  refine ⟨c, t, h1, g1, fun fuel => ?_⟩
  cases fuel with
  | zero => rfl
  | succ f => simp [Vm.isSubclassAux, ne, h2, h3]
theorem ns_no {Z : State} {a0 : Array Value} {C S K : String} {n : Nat} (w : (Jvm.Cond.superclass C S).before a0 Z = true) (wi : (Jvm.Cond.instantiable K n).before a0 Z = true) (nn : NS Z C K) (hn : C ≠ K) : ∃ c t, Z.vm.findClass C = some c ∧ Z.vm.findClass K = some t ∧ Z.vm.assignable c t = false := by
  obtain ⟨c, t, h0, g0, n3⟩ := nn
  obtain ⟨p, k, kp, h1, h2, h3, h4, h5, -, h7⟩ := Cond.superclass_spec h0 w
  obtain ⟨t', kt, g1, g2, g5, g7, -⟩ := Cond.instantiable_spec wi
  cases g0.symm.trans g1
  have ne := ids_ne h0 g0 hn
  have g7' : kt.isInterface = false := by
    rcases Bool.eq_false_or_eq_true kt.isInterface with q | q
    · rw [q] at g7; cases g7
    · exact q
  refine ⟨c, t, h0, g0, ?_⟩
  show Z.vm.assignableAux (255 + 1) c t = false
  simp [Vm.assignableAux, ne, h2, g2, h5, g5, g7', Vm.isSubclass, n3]
section Str
variable {Z : State} {h h' : Heap} {a t x : Addr} {cs : List Int32} {ws : List Addr} {sl : Nat} {v : Value} {a0 : Array Value}
theorem Str.exa (F : Str Z h a t cs) : Exa Z h a "java/lang/String" := F.1
theorem Str.coder (F : Str Z h a t cs) : Fld Z h a "java/lang/String" "coder" "B" (.int 0) := F.2.1
theorem Str.value (F : Str Z h a t cs) : Fld Z h a "java/lang/String" "value" "[B" (.ref t) := F.2.2.1
theorem Str.arv (F : Str Z h a t cs) : ∃ kb, Arv Z h t kb .byte (Int32.ofNat cs.length) (bv cs) (.int 0) := F.2.2.2.1
theorem Str.lt (F : Str Z h a t cs) : a < h.size := F.1.lt
theorem Str.ltB (F : Str Z h a t cs) : t < h.size := by obtain ⟨kb, K⟩ := F.arv; exact K.lt
theorem Str.ext (E : Ext h h') (F : Str Z h a t cs) : Str Z h' a t cs := by
  obtain ⟨f1, f2, f3, ⟨kb, f4⟩, f5⟩ := F
  exact ⟨f1.ext E, f2.ext E, f3.ext E, ⟨kb, f4.ext E⟩, fun q => (f5 q).ext E⟩
theorem Str.keep (F : Str Z h a t cs) (K : Keep h h' ws) (q1 : a ∉ ws) (q2 : t ∉ ws) : Str Z h' a t cs := by
  obtain ⟨f1, f2, f3, ⟨kb, f4⟩, f5⟩ := F
  exact ⟨f1.keep K, f2.keep K q1, f3.keep K q1, ⟨kb, f4.keep K q2⟩, fun q => (f5 q).keep K⟩
theorem Str.other (W : Wr h h' x sl v) (F : Str Z h a t cs) (q1 : a ≠ x) (q2 : t ≠ x) : Str Z h' a t cs := F.keep (Keep.of_wr W) (ninS q1 nin0) (ninS q2 nin0)
/-- its array is no such object -/
theorem Str.neB {C : String} {n : Nat} (F : Str Z h a t cs) (E : Exa Z h x C) (w : (Jvm.Cond.instantiable C n).before a0 Z = true) : t ≠ x := by
  obtain ⟨kb, K⟩ := F.arv
  exact (E.neArv K w).symm
theorem Exa.bytes {kb : ClassId} {n : Int32} {vs : List Value} {dv : Value} (K : Arv Z h t kb .byte n vs dv) (hk : Z.vm.findClass "[B" = some kb) : Exa Z h t "[B" := by
  obtain ⟨c, A, q, -⟩ := K
  obtain ⟨A1, ⟨p1, k, p2, comp, p3⟩, A3⟩ := id A
  exact ⟨c, k, A1, by rw [q]; exact hk, p2, A.plain, fun o => by rw [o] at p3; cases p3⟩
end Str
end Jvm.OwnKit
/- laws to paste: Road.backV (cut by pick.py; bodies as the Statement names them) -/
namespace Jvm.Pilot.@@N@@
namespace StrChars
open Jvm Sem ClassFile Op Lib Jvm.Stand Jvm.Free.XT Jvm.Free.ALB Jvm.Free.JM Jvm.Free
open Jvm.Lib.Cold (StaticIs)
/-- a char array whose places are chars -/
def Ch (a : Addr) (A : Cell) (U : State) : Prop := Arr .char a A U ∧ Typed .char A
theorem Ch.mv {a : Addr} {A : Cell} {U U' : State} (h : Ch a A U) (hal : U.vm.Alike U'.vm) (hh : U'.heap = U.heap) : Ch a A U' := ⟨h.1.mv hal hh, h.2⟩
theorem Ch.keep {a : Addr} {A : Cell} {U U' : State} (h : Ch a A U) (hal : U.vm.Alike U'.vm) (hk : U'.heap[a]? = some A) : Ch a A U' := ⟨h.1.keep hal hk, h.2⟩
/-- what place i of a char[]'s cell holds -/
def cv (A : Cell) (i : Nat) : Int32 := match A.slots[i]? with | some (.int x) => x | _ => 0
theorem Ch.get {a : Addr} {A : Cell} {U : State} (h : Ch a A U) {i : Nat} (hi : i < A.slots.size) : A.slots[i]? = some (.int (cv A i)) := by
  have e := Array.getElem?_eq_getElem hi
  have f := h.2 i _ e
  unfold cv; rw [e]
  generalize A.slots[i] = v at f
  cases v <;> simp [fits] at f ⊢
/-- the byte that i2b leaves of a char -/
def lo8 (x : Int32) : Int32 := x.toInt8.toInt32
theorem fits_lo8 (y : Int32) : fits .byte (.int (lo8 y)) = true := by
  have h1 := y.toInt8.le_toInt
  have h2 := y.toInt8.toInt_lt
  simp only [lo8, fits, Bool.and_eq_true, decide_eq_true_eq, Int32.le_iff_toInt_le, Int8.toInt_toInt32, show (-128 : Int32).toInt = -128 from by decide, show (127 : Int32).toInt = 127 from by decide]
  omega
/-- A' is A but that each place j of lo .. hi - 1 holds f j -/
def Laid (A A' : Cell) (lo hi : Nat) (f : Nat → Value) : Prop := A'.cls = A.cls ∧ A'.vm = A.vm ∧ A'.slots.size = A.slots.size ∧ ∀ i, A'.slots[i]? = if lo ≤ i ∧ i < hi then some (f i) else A.slots[i]?
theorem Laid.zero (A : Cell) (lo : Nat) (f : Nat → Value) : Laid A A lo (lo + 0) f := ⟨rfl, rfl, rfl, fun i => by rw [if_neg (by omega)]⟩
theorem Laid.step {A Ak : Cell} {lo k : Nat} {f : Nat → Value} {v : Value} (h : Laid A Ak lo k f) (hlo : lo ≤ k) (hk : k < Ak.slots.size) (hv : v = f k) : Laid A (Ak.setSlot k v) lo (k + 1) f := by
  refine ⟨h.1, h.2.1, by simpa [Cell.setSlot] using h.2.2.1, fun i => ?_⟩
  by_cases e : k = i
  · subst e; rw [Cell.slots_setSlot_self v hk, if_pos (by omega), hv]
  · rw [Cell.slots_setSlot_ne v e, h.2.2.2 i]
    by_cases q : lo ≤ i ∧ i < k
    · rw [if_pos q, if_pos (by omega)]
    · rw [if_neg q, if_neg (by omega)]
def U16 : String := "java/lang/StringUTF16"
namespace Cmp5
def yN : MethodName := ⟨"java/lang/StringUTF16", "compress", "([CI[BII)I"⟩
abbrev yB : ByteArray := jdk_52_method_21_code
theorem d0 : decode yB 0 = .ok (.iconst 0, 1) := by decide +kernel
theorem d1 : decode yB 1 = .ok (.istore 5, 2) := by decide +kernel
theorem d3 : decode yB 3 = .ok (.iload 5, 2) := by decide +kernel
theorem d5 : decode yB 5 = .ok (.iload 4, 2) := by decide +kernel
theorem d7 : decode yB 7 = .ok (.if_icmp (.ge) 37, 3) := by decide +kernel
theorem d10 : decode yB 10 = .ok (.aload_n 0, 1) := by decide +kernel
theorem d11 : decode yB 11 = .ok (.iload_n 1, 1) := by decide +kernel
theorem d12 : decode yB 12 = .ok (.caload, 1) := by decide +kernel
theorem d13 : decode yB 13 = .ok (.istore 6, 2) := by decide +kernel
theorem d15 : decode yB 15 = .ok (.iload 6, 2) := by decide +kernel
theorem d17 : decode yB 17 = .ok (.sipush 255, 3) := by decide +kernel
theorem d20 : decode yB 20 = .ok (.if_icmp (.le) 6, 3) := by decide +kernel
theorem d26 : decode yB 26 = .ok (.aload_n 2, 1) := by decide +kernel
theorem d27 : decode yB 27 = .ok (.iload_n 3, 1) := by decide +kernel
theorem d28 : decode yB 28 = .ok (.iload 6, 2) := by decide +kernel
theorem d30 : decode yB 30 = .ok (.i2b, 1) := by decide +kernel
theorem d31 : decode yB 31 = .ok (.bastore, 1) := by decide +kernel
theorem d32 : decode yB 32 = .ok (.iinc 1 1, 3) := by decide +kernel
theorem d35 : decode yB 35 = .ok (.iinc 3 1, 3) := by decide +kernel
theorem d38 : decode yB 38 = .ok (.iinc 5 1, 3) := by decide +kernel
theorem d41 : decode yB 41 = .ok (.goto (-38), 3) := by decide +kernel
theorem d44 : decode yB 44 = .ok (.iload 4, 2) := by decide +kernel
theorem d46 : decode yB 46 = .ok (.ireturn, 1) := by decide +kernel
def site : List Cond := []
def tab : Cond := tabOf yN yB 7 (some .int) site
def P (b : Addr) (A : Cell) (d : Addr) (B : Cell) (o q len : Nat) (args : Array Value) (s : State) : Prop := args = #[.ref b, .int (Int32.ofNat o), .ref d, .int (Int32.ofNat q), .int (Int32.ofNat len)] ∧ Ch b A s ∧ Arr .byte d B s ∧ b ≠ d ∧ o + len ≤ A.slots.size ∧ q + len ≤ B.slots.size ∧ ∀ i, i < len → ¬ 255 < cv A (o + i)
def E (b : Addr) (A : Cell) (d : Addr) (B : Cell) (o q len : Nat) (r : Option Value) (s u : State) : Prop := r = some (.int (Int32.ofNat len)) ∧ ∃ B', Put d B' s u ∧ Laid B B' q (q + len) (fun j => Value.int (lo8 (cv A (o + (j - q)))))
/-- no char of the range above 255: len; the places written hold each char's low byte -/
theorem law (l : Launch) (b : Addr) (A : Cell) (d : Addr) (B : Cell) (o q len : Nat) : Law l yN 5 5 0 0 yB 7 (some .int) site (P b A d B o q len) (E b A d B o q len) (copyLocs d q len) 0 0 := by
  refine Law.of_walk (plainFor_of_name (by decide +kernel)) (by decide +kernel) (by decide +kernel) (by decide) (fun _ _ h => by rw [h.1]; rfl) (fun _ U U' hal hh h => ⟨h.1, h.2.1.mv hal hh, h.2.2.1.mv hal hh, h.2.2.2⟩) (fun r U U' V V' h1 hal h2 h => ⟨h.1, h.2.elim fun B' q => ⟨B', q.1.mv h1 h2, q.2⟩⟩) ?_
  intro p e s m args below meth c s₁ X0 hexec hbytes hml hret hlk hnm hown hh0 W hP
  obtain ⟨rfl, hA, hB, hne, l1, l2, hp⟩ := hP
  have c1 : Steps p.tables e below (s₁.setTop (entryFrame m #[.ref b, .int (Int32.ofNat o), .ref d, .int (Int32.ofNat q), .int (Int32.ofNat len)] 7)) (s₁.setTop (mkF m 0 #[.val (.ref b), .val (.int (Int32.ofNat o)), .val (.ref d), .val (.int (Int32.ofNat q)), .val (.int (Int32.ofNat len)), .unset, .unset] [])) := entry rfl
  have hA0 := hA.1.mv X0.warmed.alike hh0
  have hB0 := hB.mv X0.warmed.alike hh0
  have a31 := hA.1.2.2.2
  have c2 : Steps p.tables e below (s₁.setTop (entryFrame m #[.ref b, .int (Int32.ofNat o), .ref d, .int (Int32.ofNat q), .int (Int32.ofNat len)] 7)) (s₁.setTop (mkF m 3 #[.val (.ref b), .val (.int (Int32.ofNat o)), .val (.ref d), .val (.int (Int32.ofNat q)), .val (.int (Int32.ofNat len)), .val (.int 0), .unset] [])) := c1.trans (by
    refine iconstV X0.here hexec rfl 0 (hb hbytes d0) (by decide) ?_
    refine XS.istore X0.here hexec rfl (hb hbytes d1) rfl rfl ?_
    exact Steps.refl _)
  have loop : ∀ (r i : Nat), i + r = len → ∀ (z : Slot), (z = .unset ∨ ∃ w, z = .val w ∧ w.category = 1) → ∀ (Tl : State) (Bk : Cell), Stand p l e { frames := 0, locals := 0, cells := 0, slots := 0 } s m #[.ref b, .int (Int32.ofNat o), .ref d, .int (Int32.ofNat q), .int (Int32.ofNat len)] below meth c Tl ([] ++ copyLocs d q i) 0 0 → Put d Bk s₁ Tl → Laid B Bk q (q + i) (fun j => Value.int (lo8 (cv A (o + (j - q))))) →
      Steps p.tables e below (s₁.setTop (entryFrame m #[.ref b, .int (Int32.ofNat o), .ref d, .int (Int32.ofNat q), .int (Int32.ofNat len)] 7)) (Tl.setTop (mkF m 3 #[.val (.ref b), .val (.int (Int32.ofNat (o + i))), .val (.ref d), .val (.int (Int32.ofNat (q + i))), .val (.int (Int32.ofNat len)), .val (.int (Int32.ofNat i)), z] [])) → ∃ (T' : State) (B' : Cell) (z' : Slot), Stand p l e { frames := 0, locals := 0, cells := 0, slots := 0 } s m #[.ref b, .int (Int32.ofNat o), .ref d, .int (Int32.ofNat q), .int (Int32.ofNat len)] below meth c T' ([] ++ copyLocs d q len) 0 0 ∧ Put d B' s₁ T' ∧ Laid B B' q (q + len) (fun j => Value.int (lo8 (cv A (o + (j - q))))) ∧
      Steps p.tables e below (s₁.setTop (entryFrame m #[.ref b, .int (Int32.ofNat o), .ref d, .int (Int32.ofNat q), .int (Int32.ofNat len)] 7)) (T'.setTop (mkF m 3 #[.val (.ref b), .val (.int (Int32.ofNat (o + len))), .val (.ref d), .val (.int (Int32.ofNat (q + len))), .val (.int (Int32.ofNat len)), .val (.int (Int32.ofNat len)), z'] [])) := by
    intro r
    induction r with
    | zero =>
      intro i hi z hz Tl Bk Xl pl fl cl
      have hil : i = len := by omega
      rw [hil] at Xl fl cl
      exact ⟨Tl, Bk, z, Xl, pl, fl, cl⟩
    | succ r ih =>
      intro i hi z hz Tl Bk Xl pl fl cl
      have all := X0.warmed.alike.symm.trans Xl.warmed.alike
      have hAl := hA0.keep all (pl.other hne hA0.1)
      have hBk := hB0.like all pl.1 fl.1 fl.2.1 fl.2.2.1
      have hlt : q + i < Bk.slots.size := by rw [fl.2.2.1]; omega
      have c3 : Steps p.tables e below (s₁.setTop (entryFrame m #[.ref b, .int (Int32.ofNat o), .ref d, .int (Int32.ofNat q), .int (Int32.ofNat len)] 7)) (Tl.setTop (mkF m 12 #[.val (.ref b), .val (.int (Int32.ofNat (o + i))), .val (.ref d), .val (.int (Int32.ofNat (q + i))), .val (.int (Int32.ofNat len)), .val (.int (Int32.ofNat i)), z] [.int (Int32.ofNat (o + i)), .ref b])) := cl.trans (by
        refine XS.iload Xl.here hexec rfl (hb hbytes d3) rfl ?_
        refine XS.iload Xl.here hexec rfl (hb hbytes d5) rfl ?_
        refine XS.icmpNo Xl.here hexec rfl (hb hbytes d7) rfl (ii_ge_f (lt32 (by omega) (by omega))) ?_
        refine XS.aloadN Xl.here hexec rfl (hb hbytes d10) rfl rfl ?_
        refine XS.iloadN Xl.here hexec rfl (hb hbytes d11) rfl ?_
        exact Steps.refl _)
      have c4 : Steps p.tables e below (s₁.setTop (entryFrame m #[.ref b, .int (Int32.ofNat o), .ref d, .int (Int32.ofNat q), .int (Int32.ofNat len)] 7)) (Tl.setTop (mkF m 13 #[.val (.ref b), .val (.int (Int32.ofNat (o + i))), .val (.ref d), .val (.int (Int32.ofNat (q + i))), .val (.int (Int32.ofNat len)), .val (.int (Int32.ofNat i)), z] [.int (cv A (o + i))])) := c3.trans (by
        refine Xl.aget hexec hAl rfl (hA.get (i := o + i) (by omega)) rfl rfl (hb hbytes d12) ?_
        exact Steps.refl _)
      have c5 : Steps p.tables e below (s₁.setTop (entryFrame m #[.ref b, .int (Int32.ofNat o), .ref d, .int (Int32.ofNat q), .int (Int32.ofNat len)] 7)) (Tl.setTop (mkF m 15 #[.val (.ref b), .val (.int (Int32.ofNat (o + i))), .val (.ref d), .val (.int (Int32.ofNat (q + i))), .val (.int (Int32.ofNat len)), .val (.int (Int32.ofNat i)), .val (.int (cv A (o + i)))] [])) := c4.trans (by
        refine XS.istoreS Xl.here hexec rfl (hb hbytes d13) rfl rfl hz ?_
        exact Steps.refl _)
      have c6 : Steps p.tables e below (s₁.setTop (entryFrame m #[.ref b, .int (Int32.ofNat o), .ref d, .int (Int32.ofNat q), .int (Int32.ofNat len)] 7)) (Tl.setTop (mkF m 31 #[.val (.ref b), .val (.int (Int32.ofNat (o + i))), .val (.ref d), .val (.int (Int32.ofNat (q + i))), .val (.int (Int32.ofNat len)), .val (.int (Int32.ofNat i)), .val (.int (cv A (o + i)))] [.int (lo8 (cv A (o + i))), .int (Int32.ofNat (q + i)), .ref d])) := c5.trans (by
        refine XS.iload Xl.here hexec rfl (hb hbytes d15) rfl ?_
        refine sipushV Xl.here hexec rfl 255 (hb hbytes d17) (by decide) ?_
        refine XS.icmpYes Xl.here hexec rfl (pc0 := 20) rfl (hb hbytes d20) rfl (ii_le_t (hp i (by omega))) (by decide) rfl ?_
        refine XS.aloadN Xl.here hexec rfl (hb hbytes d26) rfl rfl ?_
        refine XS.iloadN Xl.here hexec rfl (hb hbytes d27) rfl ?_
        refine XS.iload Xl.here hexec rfl (hb hbytes d28) rfl ?_
        refine i2b Xl.here hexec rfl (hb hbytes d30) rfl ?_
        exact Steps.refl _)
      obtain ⟨T7, X7, p7, st7⟩ := Xl.aput hexec hBk rfl hlt rfl (fits_lo8 (cv A (o + i))) (g := (mkF m 31 #[.val (.ref b), .val (.int (Int32.ofNat (o + i))), .val (.ref d), .val (.int (Int32.ofNat (q + i))), .val (.int (Int32.ofNat len)), .val (.int (Int32.ofNat i)), .val (.int (cv A (o + i)))] [.int (lo8 (cv A (o + i))), .int (Int32.ofNat (q + i)), .ref d])) rfl (rest := []) rfl (hb hbytes d31)
      have c8 : Steps p.tables e below (s₁.setTop (entryFrame m #[.ref b, .int (Int32.ofNat o), .ref d, .int (Int32.ofNat q), .int (Int32.ofNat len)] 7)) (T7.setTop (mkF m 32 #[.val (.ref b), .val (.int (Int32.ofNat (o + i))), .val (.ref d), .val (.int (Int32.ofNat (q + i))), .val (.int (Int32.ofNat len)), .val (.int (Int32.ofNat i)), .val (.int (cv A (o + i)))] [])) := c6.trans (st7 _ (Steps.refl _))
      have c9 : Steps p.tables e below (s₁.setTop (entryFrame m #[.ref b, .int (Int32.ofNat o), .ref d, .int (Int32.ofNat q), .int (Int32.ofNat len)] 7)) (T7.setTop (mkF m 3 #[.val (.ref b), .val (.int (Int32.ofNat (o + i) + 1)), .val (.ref d), .val (.int (Int32.ofNat (q + i) + 1)), .val (.int (Int32.ofNat len)), .val (.int (Int32.ofNat i + 1)), .val (.int (cv A (o + i)))] [])) := c8.trans (by
        refine iincV X7.here hexec rfl 1 (hb hbytes d32) (by decide) rfl rfl ?_
        refine iincV X7.here hexec rfl 1 (hb hbytes d35) (by decide) rfl rfl ?_
        refine iincV X7.here hexec rfl 1 (hb hbytes d38) (by decide) rfl rfl ?_
        refine XS.goto X7.here hexec rfl (pc0 := 41) rfl (hb hbytes d41) (by decide) rfl ?_
        exact Steps.refl _)
      have c10 : Steps p.tables e below (s₁.setTop (entryFrame m #[.ref b, .int (Int32.ofNat o), .ref d, .int (Int32.ofNat q), .int (Int32.ofNat len)] 7)) (T7.setTop (mkF m 3 #[.val (.ref b), .val (.int (Int32.ofNat (o + (i + 1)))), .val (.ref d), .val (.int (Int32.ofNat (q + (i + 1)))), .val (.int (Int32.ofNat len)), .val (.int (Int32.ofNat (i + 1))), .val (.int (cv A (o + i)))] [])) := by
        have := c9
        rw [succ32, succ32, succ32] at this
        exact this
      exact ih (i + 1) (by omega) _ (Or.inr ⟨_, rfl, rfl⟩) T7 _ (by rw [copyLocs_step, ← List.append_assoc]; exact X7) (pl.trans p7) (fl.step (by omega) hlt (by simp)) c10
  obtain ⟨T9, B9, z9, X9, p9, f9, g9⟩ := loop len 0 (by omega) .unset (Or.inl rfl) s₁ B (by simpa [copyLocs] using X0) ⟨hB0.1, fun _ _ => rfl, rfl⟩ (Laid.zero _ _ _) c2
  have c11 : Steps p.tables e below (s₁.setTop (entryFrame m #[.ref b, .int (Int32.ofNat o), .ref d, .int (Int32.ofNat q), .int (Int32.ofNat len)] 7)) (T9.setTop (mkF m 46 #[.val (.ref b), .val (.int (Int32.ofNat (o + len))), .val (.ref d), .val (.int (Int32.ofNat (q + len))), .val (.int (Int32.ofNat len)), .val (.int (Int32.ofNat len)), z9] [.int (Int32.ofNat len)])) := g9.trans (by
    refine XS.iload X9.here hexec rfl (hb hbytes d3) rfl ?_
    refine XS.iload X9.here hexec rfl (hb hbytes d5) rfl ?_
    refine XS.icmpYes X9.here hexec rfl (pc0 := 7) rfl (hb hbytes d7) rfl (ii_ge_t (nlt32 (by omega) (Nat.le_refl _))) (by decide) rfl ?_
    refine XS.iload X9.here hexec rfl (hb hbytes d44) rfl ?_
    exact Steps.refl _)
  exact ⟨T9, some (.int (Int32.ofNat len)), _, _, _, X9, by simp, rfl, rfl, (fun h => by cases h), ⟨rfl, B9, p9.from hh0, f9⟩, fun fs hl => c11.trans (X9.ireturnOut hexec hret rfl (Or.inl rfl) (hb hbytes d46) hl)⟩
end Cmp5
namespace Cmp3
def yN : MethodName := ⟨"java/lang/StringUTF16", "compress", "([CII)[B"⟩
abbrev yB : ByteArray := jdk_52_method_16_code
theorem d0 : decode yB 0 = .ok (.iload_n 2, 1) := by decide +kernel
theorem d1 : decode yB 1 = .ok (.newarray .byte, 2) := by decide +kernel
theorem d3 : decode yB 3 = .ok (.astore_n 3, 1) := by decide +kernel
theorem d4 : decode yB 4 = .ok (.aload_n 0, 1) := by decide +kernel
theorem d5 : decode yB 5 = .ok (.iload_n 1, 1) := by decide +kernel
theorem d6 : decode yB 6 = .ok (.aload_n 3, 1) := by decide +kernel
theorem d7 : decode yB 7 = .ok (.iconst 0, 1) := by decide +kernel
theorem d8 : decode yB 8 = .ok (.iload_n 2, 1) := by decide +kernel
theorem d9 : decode yB 9 = .ok (.invokestatic 115, 3) := by decide +kernel
theorem d12 : decode yB 12 = .ok (.istore 4, 2) := by decide +kernel
theorem d14 : decode yB 14 = .ok (.iload 4, 2) := by decide +kernel
theorem d16 : decode yB 16 = .ok (.iload_n 2, 1) := by decide +kernel
theorem d17 : decode yB 17 = .ok (.if_icmp (.eq) 40, 3) := by decide +kernel
theorem d57 : decode yB 57 = .ok (.aload_n 3, 1) := by decide +kernel
theorem d58 : decode yB 58 = .ok (.areturn, 1) := by decide +kernel
def site : List Cond := [.arrayClass .byte, Cmp5.tab] ++ staticW U16 115 Cmp5.yN
def tab : Cond := tabOf yN yB 6 (some (.array .byte)) site
def P (b : Addr) (A : Cell) (o len : Nat) (args : Array Value) (s : State) : Prop := args = #[.ref b, .int (Int32.ofNat o), .int (Int32.ofNat len)] ∧ Ch b A s ∧ o + len ≤ A.slots.size ∧ len ≤ 536870912 ∧ ∀ i, i < len → ¬ 255 < cv A (o + i)
def E (b : Addr) (A : Cell) (o len : Nat) (r : Option Value) (s u : State) : Prop := NewArr .byte "[B" len (fun j => .int (lo8 (cv A (o + j)))) r s u ∧ u.heap.size = s.heap.size + 1
/-- no char of the range above 255: a new byte[] of their low bytes -/
theorem law (l : Launch) (b : Addr) (A : Cell) (o len : Nat) : Law l yN 3 3 1 18 yB 6 (some (.array .byte)) site (P b A o len) (E b A o len) [] 1 len := by
  refine Law.of_walk (plainFor_of_name (by decide +kernel)) (by decide +kernel) (by decide +kernel) (by decide) (fun _ _ h => by rw [h.1]; rfl) (fun _ U U' hal hh h => ⟨h.1, h.2.1.mv hal hh, h.2.2⟩) (fun r U U' V V' h1 hal h2 h => ⟨NewArr.mv r U U' V V' h1 hal h2 h.1, by rw [h1, h2]; exact h.2⟩) ?_
  intro p e s m args below meth c s₁ X0 hexec hbytes hml hret hlk hnm hown hh0 W hP
  obtain ⟨rfl, hA, l1, l2, hp⟩ := hP
  have a31 := hA.1.2.2.2
  have c1 : Steps p.tables e below (s₁.setTop (entryFrame m #[.ref b, .int (Int32.ofNat o), .int (Int32.ofNat len)] 6)) (s₁.setTop (mkF m 0 #[.val (.ref b), .val (.int (Int32.ofNat o)), .val (.int (Int32.ofNat len)), .unset, .unset, .unset] [])) := entry rfl
  have c2 : Steps p.tables e below (s₁.setTop (entryFrame m #[.ref b, .int (Int32.ofNat o), .int (Int32.ofNat len)] 6)) (s₁.setTop (mkF m 1 #[.val (.ref b), .val (.int (Int32.ofNat o)), .val (.int (Int32.ofNat len)), .unset, .unset, .unset] [.int (Int32.ofNat len)])) := c1.trans (by
    refine XS.iloadN X0.here hexec rfl (hb hbytes d0) rfl ?_
    exact Steps.refl _)
  obtain ⟨T3, B3, X3, ba3, bs3, bv3, bh3, bf3, st3⟩ := X0.anew hexec (atype := .byte) (wk W (.arrayClass .byte)) rfl (by show len * 1 ≤ _; omega) (by omega) (g := (mkF m 1 #[.val (.ref b), .val (.int (Int32.ofNat o)), .val (.int (Int32.ofNat len)), .unset, .unset, .unset] [.int (Int32.ofNat len)])) rfl (hb hbytes d1) (rest := []) rfl (Nat.le_refl _) (by show 0 + len ≤ len; omega)
  rw [hh0] at ba3 st3
  have kp3 : XT.Kept s T3 := (XT.Kept.of_eq hh0).push bh3
  have hA3 := hA.keep X3.warmed.alike (kp3 _ _ hA.1.1)
  have hne : b ≠ s.heap.size := hA.1.ne
  have c4 : Steps p.tables e below (s₁.setTop (entryFrame m #[.ref b, .int (Int32.ofNat o), .int (Int32.ofNat len)] 6)) (T3.setTop (mkF m 3 #[.val (.ref b), .val (.int (Int32.ofNat o)), .val (.int (Int32.ofNat len)), .unset, .unset, .unset] [.ref s.heap.size])) := c2.trans (st3 _ (Steps.refl _))
  have c5 : Steps p.tables e below (s₁.setTop (entryFrame m #[.ref b, .int (Int32.ofNat o), .int (Int32.ofNat len)] 6)) (T3.setTop (mkF m 9 #[.val (.ref b), .val (.int (Int32.ofNat o)), .val (.int (Int32.ofNat len)), .val (.ref s.heap.size), .unset, .unset] [.int (Int32.ofNat len), .int 0, .ref s.heap.size, .int (Int32.ofNat o), .ref b])) := c4.trans (by
    refine XS.astoreN X3.here hexec rfl (hb hbytes d3) rfl rfl rfl ?_
    refine XS.aloadN X3.here hexec rfl (hb hbytes d4) rfl rfl ?_
    refine XS.iloadN X3.here hexec rfl (hb hbytes d5) rfl ?_
    refine XS.aloadN X3.here hexec rfl (hb hbytes d6) rfl rfl ?_
    refine iconstV X3.here hexec rfl 0 (hb hbytes d7) (by decide) ?_
    refine XS.iloadN X3.here hexec rfl (hb hbytes d8) rfl ?_
    exact Steps.refl _)
  obtain ⟨v6, T6, X6, E6, g6⟩ := X3.callS hexec (Cmp5.law l b A s.heap.size B3 o 0 len) hown (wks W (staticW U16 115 Cmp5.yN)) (wk W Cmp5.tab) (W := 0) (Nat.le_of_ble_eq_true rfl) (Nat.le_of_ble_eq_true rfl) (Nat.le_refl _) (by show 0 + len + 0 ≤ len; omega) (g := (mkF m 9 #[.val (.ref b), .val (.int (Int32.ofNat o)), .val (.int (Int32.ofNat len)), .val (.ref s.heap.size), .unset, .unset] [.int (Int32.ofNat len), .int (Int32.ofNat 0), .ref s.heap.size, .int (Int32.ofNat o), .ref b])) rfl (by rw [hml]; rfl) c5 (argsL := [.ref b, .int (Int32.ofNat o), .ref s.heap.size, .int (Int32.ofNat 0), .int (Int32.ofNat len)]) (rest := []) rfl rfl (by show 2 * 0 + 0 ≤ _; decide) (hb hbytes d9) (⟨rfl, hA3, ba3, hne, l1, by rw [bs3]; simp, hp⟩)
  obtain ⟨rfl, B6, p6, f6⟩ := E6
  have c7 : Steps p.tables e below (s₁.setTop (entryFrame m #[.ref b, .int (Int32.ofNat o), .int (Int32.ofNat len)] 6)) (T6.setTop (mkF m 12 #[.val (.ref b), .val (.int (Int32.ofNat o)), .val (.int (Int32.ofNat len)), .val (.ref s.heap.size), .unset, .unset] [.int (Int32.ofNat len)])) := g6
  have c8 : Steps p.tables e below (s₁.setTop (entryFrame m #[.ref b, .int (Int32.ofNat o), .int (Int32.ofNat len)] 6)) (T6.setTop (mkF m 58 #[.val (.ref b), .val (.int (Int32.ofNat o)), .val (.int (Int32.ofNat len)), .val (.ref s.heap.size), .val (.int (Int32.ofNat len)), .unset] [.ref s.heap.size])) := c7.trans (by
    refine XS.istore X6.here hexec rfl (hb hbytes d12) rfl rfl ?_
    refine XS.iload X6.here hexec rfl (hb hbytes d14) rfl ?_
    refine XS.iloadN X6.here hexec rfl (hb hbytes d16) rfl ?_
    refine XS.icmpYes X6.here hexec rfl (pc0 := 17) rfl (hb hbytes d17) rfl (ii_eq_t rfl) (by decide) rfl ?_
    refine XS.aloadN X6.here hexec rfl (hb hbytes d57) rfl rfl ?_
    exact Steps.refl _)
  have X8 := X6.wide (L' := []) (cells' := 1) (slots' := len) (fun x hx hlt => by
    simp only [List.nil_append, copyLocs, List.mem_map, List.mem_range] at hx
    obtain ⟨i, -, rfl⟩ := hx
    exact absurd hlt (Nat.lt_irrefl _)) (Nat.le_refl _) (by omega)
  exact ⟨T6, some (.ref s.heap.size), _, _, _, X8, rfl, rfl, rfl, (fun h => by cases h), ⟨⟨rfl, B6, ba3.like (X3.warmed.alike.symm.trans X6.warmed.alike) p6.1 f6.1 f6.2.1 f6.2.2.1, f6.2.1.trans bv3, by rw [X6.warmed.alike.findClass, f6.1]; exact bf3, by rw [f6.2.2.1, bs3]; simp, fun j hj => by rw [f6.2.2.2 j, if_pos (by omega)]; rfl, kp3.put p6 (Nat.le_refl _)⟩, by rw [p6.2.2, bh3, hh0]; simp⟩, fun fs hl => c8.trans (X8.areturnOut hexec rfl hret rfl (hb hbytes d58) hl)⟩
end Cmp3
namespace CodL
def yN : MethodName := ⟨"java/lang/StringUTF16", "coderFromArrayLen", "([BI)B"⟩
abbrev yB : ByteArray := jdk_52_method_15_code
theorem d0 : decode yB 0 = .ok (.iload_n 1, 1) := by decide +kernel
theorem d1 : decode yB 1 = .ok (.aload_n 0, 1) := by decide +kernel
theorem d2 : decode yB 2 = .ok (.arraylength, 1) := by decide +kernel
theorem d3 : decode yB 3 = .ok (.isub, 1) := by decide +kernel
theorem d4 : decode yB 4 = .ok (.bipush 31, 2) := by decide +kernel
theorem d6 : decode yB 6 = .ok (.iushr, 1) := by decide +kernel
theorem d7 : decode yB 7 = .ok (.i2b, 1) := by decide +kernel
theorem d8 : decode yB 8 = .ok (.ireturn, 1) := by decide +kernel
def site : List Cond := []
def tab : Cond := tabOf yN yB 2 (some .byte) site
def P (d : Addr) (B : Cell) (args : Array Value) (s : State) : Prop := args = #[.ref d, .int (Int32.ofNat B.slots.size)] ∧ Arr .byte d B s
def E (r : Option Value) (s u : State) : Prop := XT.PureE (some (.int 0)) r s u
/-- an array as long as the number of chars: LATIN1 -/
theorem law (l : Launch) (d : Addr) (B : Cell) : Law l yN 2 2 0 0 yB 2 (some .byte) site (P d B) E [] 0 0 := by
  refine Law.of_walk (plainFor_of_name (by decide +kernel)) (by decide +kernel) (by decide +kernel) (by decide) (fun _ _ h => by rw [h.1]; rfl) (fun _ U U' hal hh h => ⟨h.1, h.2.mv hal hh⟩) (fun r U U' V V' h1 hal h2 h => XT.PureE.mv r U U' V V' h1 hal h2 h) ?_
  intro p e s m args below meth c s₁ X0 hexec hbytes hml hret hlk hnm hown hh0 W hP
  obtain ⟨rfl, hB⟩ := hP
  have hB0 := hB.mv X0.warmed.alike hh0
  have c1 : Steps p.tables e below (s₁.setTop (entryFrame m #[.ref d, .int (Int32.ofNat B.slots.size)] 2)) (s₁.setTop (mkF m 0 #[.val (.ref d), .val (.int (Int32.ofNat B.slots.size))] [])) := entry rfl
  have c2 : Steps p.tables e below (s₁.setTop (entryFrame m #[.ref d, .int (Int32.ofNat B.slots.size)] 2)) (s₁.setTop (mkF m 2 #[.val (.ref d), .val (.int (Int32.ofNat B.slots.size))] [.ref d, .int (Int32.ofNat B.slots.size)])) := c1.trans (by
    refine XS.iloadN X0.here hexec rfl (hb hbytes d0) rfl ?_
    refine XS.aloadN X0.here hexec rfl (hb hbytes d1) rfl rfl ?_
    exact Steps.refl _)
  have c3 : Steps p.tables e below (s₁.setTop (entryFrame m #[.ref d, .int (Int32.ofNat B.slots.size)] 2)) (s₁.setTop (mkF m 8 #[.val (.ref d), .val (.int (Int32.ofNat B.slots.size))] [.int (lo8 (ushr (Int32.ofNat B.slots.size - Int32.ofNat B.slots.size) 31))])) := c2.trans (by
    refine X0.alen hexec hB0 rfl rfl (hb hbytes d2) ?_
    refine XS.isub X0.here hexec rfl (hb hbytes d3) rfl ?_
    refine bipushV X0.here hexec rfl 31 (hb hbytes d4) (by decide) ?_
    refine iushr X0.here hexec rfl (hb hbytes d6) rfl ?_
    refine i2b X0.here hexec rfl (hb hbytes d7) rfl ?_
    exact Steps.refl _)
  have e0 : lo8 (ushr (Int32.ofNat B.slots.size - Int32.ofNat B.slots.size) 31) = 0 := by rw [Int32.sub_self]; decide
  rw [e0] at c3
  exact ⟨s₁, some (.int 0), _, _, _, X0, rfl, rfl, rfl, (fun h => by cases h), ⟨rfl, hh0⟩, fun fs hl => c3.trans (X0.ireturnOut hexec hret rfl (Or.inr (Or.inr (Or.inl rfl))) (hb hbytes d8) hl)⟩
end CodL
/-- the String at a is Latin-1 over a new byte[] (the heap's one new cell): the low bytes of the len chars of A from o on; every cell but a is kept -/
def Got (a : Addr) (D : Cell) (fV fC : Field) (A : Cell) (o len : Nat) (r : Option Value) (s u : State) : Prop := r = none ∧ ∃ D' V : Cell, Blank "java/lang/String" a D' u ∧ Same D D' [fV.slot, fC.slot] ∧ D'.slots[fV.slot]? = some (.ref s.heap.size) ∧ D'.slots[fC.slot]? = some (.int 0) ∧ Arr .byte s.heap.size V u ∧ V.vm = .none ∧ u.vm.findClass "[B" = some V.cls ∧ V.slots.size = len ∧ (∀ j, j < len → V.slots[j]? = some (.int (lo8 (cv A (o + j))))) ∧ (∀ (y : Addr) (c : Cell), y ≠ a → s.heap[y]? = some c → u.heap[y]? = some c) ∧ u.heap.size = s.heap.size + 1
theorem Got.mv {a : Addr} {D A : Cell} {fV fC : Field} {o len : Nat} : ∀ r (U U' V V' : State), U'.heap = U.heap → V.vm.Alike V'.vm → V'.heap = V.heap → Got a D fV fC A o len r U V → Got a D fV fC A o len r U' V' :=
  fun r U U' V V' h1 hal h2 ⟨e0, D', X, a1, a2, a3, a4, a5, a6, a7, a8, a9, a10, a11⟩ => ⟨e0, D', X, a1.mv hal h2, a2, by rw [h1]; exact a3, a4, by rw [h1]; exact a5.mv hal h2, a6, by rw [hal.findClass]; exact a7, a8, a9, by rw [h1, h2]; exact a10, by rw [h1, h2]; exact a11⟩
namespace New4
def yN : MethodName := ⟨"java/lang/String", "<init>", "([CIILjava/lang/Void;)V"⟩
abbrev yB : ByteArray := jdk_42_method_149_code
theorem d0 : decode yB 0 = .ok (.aload_n 0, 1) := by decide +kernel
theorem d1 : decode yB 1 = .ok (.invokespecial 1, 3) := by decide +kernel
theorem d4 : decode yB 4 = .ok (.iload_n 3, 1) := by decide +kernel
theorem d5 : decode yB 5 = .ok (.ifCond (.ne) 22, 3) := by decide +kernel
theorem d27 : decode yB 27 = .ok (.getstatic 38, 3) := by decide +kernel
theorem d30 : decode yB 30 = .ok (.ifCond (.eq) 28, 3) := by decide +kernel
theorem d33 : decode yB 33 = .ok (.aload_n 1, 1) := by decide +kernel
theorem d34 : decode yB 34 = .ok (.iload_n 2, 1) := by decide +kernel
theorem d35 : decode yB 35 = .ok (.iload_n 3, 1) := by decide +kernel
theorem d36 : decode yB 36 = .ok (.invokestatic 177, 3) := by decide +kernel
theorem d39 : decode yB 39 = .ok (.astore 5, 2) := by decide +kernel
theorem d41 : decode yB 41 = .ok (.aload_n 0, 1) := by decide +kernel
theorem d42 : decode yB 42 = .ok (.aload 5, 2) := by decide +kernel
theorem d44 : decode yB 44 = .ok (.iload_n 3, 1) := by decide +kernel
theorem d45 : decode yB 45 = .ok (.invokestatic 47, 3) := by decide +kernel
theorem d48 : decode yB 48 = .ok (.putfield 15, 3) := by decide +kernel
theorem d51 : decode yB 51 = .ok (.aload_n 0, 1) := by decide +kernel
theorem d52 : decode yB 52 = .ok (.aload 5, 2) := by decide +kernel
theorem d54 : decode yB 54 = .ok (.putfield 9, 3) := by decide +kernel
theorem d57 : decode yB 57 = .ok (.return_, 1) := by decide +kernel
def site : List Cond := [.fieldLink "java/lang/String" 38 "java/lang/String" "COMPACT_STRINGS" "Z", Cmp3.tab, CodL.tab, .laysFinal "java/lang/String" "java/lang/String" "value" "[B", .fieldLink "java/lang/String" 9 "java/lang/String" "value" "[B", .laysFinal "java/lang/String" "java/lang/String" "coder" "B", .fieldLink "java/lang/String" 15 "java/lang/String" "coder" "B"] ++ objW "java/lang/String" 1 ++ staticW "java/lang/String" 177 Cmp3.yN ++ staticW "java/lang/String" 47 CodL.yN
def tab : Cond := tabOf yN yB 6 none site
def P (a : Addr) (D : Cell) (fV fC : Field) (b : Addr) (A : Cell) (z : Int32) (o len : Nat) (args : Array Value) (s : State) : Prop := args = #[.ref a, .ref b, .int (Int32.ofNat o), .int (Int32.ofNat len), .null] ∧ Blank "java/lang/String" a D s ∧ Found "java/lang/String" "value" "[B" fV s ∧ Found "java/lang/String" "coder" "B" fC s ∧ Ch b A s ∧ StaticIs s "java/lang/String" "COMPACT_STRINGS" "Z" (.int z) ∧ ¬ z = 0 ∧ 0 < len ∧ o + len ≤ A.slots.size ∧ len ≤ 536870912 ∧ ∀ i, i < len → ¬ 255 < cv A (o + i)
def E (a : Addr) (D : Cell) (fV fC : Field) (A : Cell) (o len : Nat) (r : Option Value) (s u : State) : Prop := Got a D fV fC A o len r s u
/-- len > 0, no char of the range above 255: a Latin-1 String of their low bytes -/
theorem law (l : Launch) (a : Addr) (D : Cell) (fV fC : Field) (b : Addr) (A : Cell) (z : Int32) (o len : Nat) : Law l yN 5 4 2 35 yB 6 none site (P a D fV fC b A z o len) (E a D fV fC A o len) [⟨a, fC.slot⟩, ⟨a, fV.slot⟩] 1 len := by
  refine Law.of_walk (plainFor_of_name (by decide +kernel)) (by decide +kernel) (by decide +kernel) (by decide) (fun _ _ h => by rw [h.1]; rfl) (fun _ U U' hal hh h => ⟨h.1, h.2.1.mv hal hh, h.2.2.1.al hal, h.2.2.2.1.al hal, h.2.2.2.2.1.mv hal hh, h.2.2.2.2.2.1.there hal hh, h.2.2.2.2.2.2⟩) (fun r U U' V V' h1 hal h2 h => Got.mv r U U' V V' h1 hal h2 h) ?_
  intro p e s m args below meth c s₁ X0 hexec hbytes hml hret hlk hnm hown hh0 W hP
  obtain ⟨rfl, hB, f1, f2, hA, s1, hz, l0, l1, l2, hp⟩ := hP
  have a31 := hA.1.2.2.2
  have c1 : Steps p.tables e below (s₁.setTop (entryFrame m #[.ref a, .ref b, .int (Int32.ofNat o), .int (Int32.ofNat len), .null] 6)) (s₁.setTop (mkF m 0 #[.val (.ref a), .val (.ref b), .val (.int (Int32.ofNat o)), .val (.int (Int32.ofNat len)), .val .null, .unset] [])) := entry rfl
  have c2 : Steps p.tables e below (s₁.setTop (entryFrame m #[.ref a, .ref b, .int (Int32.ofNat o), .int (Int32.ofNat len), .null] 6)) (s₁.setTop (mkF m 1 #[.val (.ref a), .val (.ref b), .val (.int (Int32.ofNat o)), .val (.int (Int32.ofNat len)), .val .null, .unset] [.ref a])) := c1.trans (by
    refine XS.aloadN X0.here hexec rfl (hb hbytes d0) rfl rfl ?_
    exact Steps.refl _)
  obtain ⟨T3, X3, q3, st3⟩ := X0.oinit hexec hown (wks W (objW "java/lang/String" 1)) (g := (mkF m 1 #[.val (.ref a), .val (.ref b), .val (.int (Int32.ofNat o)), .val (.int (Int32.ofNat len)), .val .null, .unset] [.ref a])) rfl (by rw [hml]; rfl) (rest := []) rfl (hb hbytes d1) (W := 0) (by show 2 * 0 + 0 ≤ _; decide) (Nat.le_of_ble_eq_true rfl) (Nat.le_of_ble_eq_true rfl)
  have hh3 := q3.trans hh0
  have c4 : Steps p.tables e below (s₁.setTop (entryFrame m #[.ref a, .ref b, .int (Int32.ofNat o), .int (Int32.ofNat len), .null] 6)) (T3.setTop (mkF m 27 #[.val (.ref a), .val (.ref b), .val (.int (Int32.ofNat o)), .val (.int (Int32.ofNat len)), .val .null, .unset] [])) := (c2.trans (st3 _ (Steps.refl _))).trans (by
    refine XS.iloadN X3.here hexec rfl (hb hbytes d4) rfl ?_
    refine XS.ifYes X3.here hexec rfl (pc0 := 5) rfl (hb hbytes d5) rfl (i0_ne_t (nz32 (by omega) l0)) (by decide) rfl ?_
    exact Steps.refl _)
  obtain ⟨T5, X5, q5, st5⟩ := X3.sget hexec hown (wk W (.fieldLink "java/lang/String" 38 "java/lang/String" "COMPACT_STRINGS" "Z")) s1 (fun _ _ h => by rw [hh3]; exact h) (g := (mkF m 27 #[.val (.ref a), .val (.ref b), .val (.int (Int32.ofNat o)), .val (.int (Int32.ofNat len)), .val .null, .unset] [])) rfl (hb hbytes d27)
  have hh5 := q5.trans hh3
  have c6 : Steps p.tables e below (s₁.setTop (entryFrame m #[.ref a, .ref b, .int (Int32.ofNat o), .int (Int32.ofNat len), .null] 6)) (T5.setTop (mkF m 30 #[.val (.ref a), .val (.ref b), .val (.int (Int32.ofNat o)), .val (.int (Int32.ofNat len)), .val .null, .unset] [.int z])) := c4.trans (st5 _ (Steps.refl _))
  have c7 : Steps p.tables e below (s₁.setTop (entryFrame m #[.ref a, .ref b, .int (Int32.ofNat o), .int (Int32.ofNat len), .null] 6)) (T5.setTop (mkF m 36 #[.val (.ref a), .val (.ref b), .val (.int (Int32.ofNat o)), .val (.int (Int32.ofNat len)), .val .null, .unset] [.int (Int32.ofNat len), .int (Int32.ofNat o), .ref b])) := c6.trans (by
    refine XS.ifNo X5.here hexec rfl (hb hbytes d30) rfl (i0_eq_f hz) ?_
    refine XS.aloadN X5.here hexec rfl (hb hbytes d33) rfl rfl ?_
    refine XS.iloadN X5.here hexec rfl (hb hbytes d34) rfl ?_
    refine XS.iloadN X5.here hexec rfl (hb hbytes d35) rfl ?_
    exact Steps.refl _)
  obtain ⟨v8, T8, X8, E8, g8⟩ := X5.callS hexec (Cmp3.law l b A o len) hown (wks W (staticW "java/lang/String" 177 Cmp3.yN)) (wk W Cmp3.tab) (W := 0) (Nat.le_of_ble_eq_true rfl) (Nat.le_of_ble_eq_true rfl) (Nat.le_refl _) (by show 0 + len ≤ len; omega) (g := (mkF m 36 #[.val (.ref a), .val (.ref b), .val (.int (Int32.ofNat o)), .val (.int (Int32.ofNat len)), .val .null, .unset] [.int (Int32.ofNat len), .int (Int32.ofNat o), .ref b])) rfl (by rw [hml]; rfl) c7 (argsL := [.ref b, .int (Int32.ofNat o), .int (Int32.ofNat len)]) (rest := []) rfl rfl (by show 2 * 0 + 0 ≤ _; decide) (hb hbytes d36) (⟨rfl, hA.mv X5.warmed.alike hh5, l1, l2, hp⟩)
  obtain ⟨e8, z8⟩ := E8
  obtain ⟨rfl, N, n1, n2, n3, n4, n5, n6⟩ := NewArr.mv _ T5 s _ _ hh5.symm (Vm.Alike.refl _) rfl e8
  rw [hh5] at z8
  have hB1 := hB.keep X8.warmed.alike (n6 _ _ hB.1)
  have hne : s.heap.size ≠ a := (Nat.ne_of_lt (Array.getElem?_eq_some_iff.mp hB.1).1).symm
  have c9 : Steps p.tables e below (s₁.setTop (entryFrame m #[.ref a, .ref b, .int (Int32.ofNat o), .int (Int32.ofNat len), .null] 6)) (T8.setTop (mkF m 39 #[.val (.ref a), .val (.ref b), .val (.int (Int32.ofNat o)), .val (.int (Int32.ofNat len)), .val .null, .unset] [.ref s.heap.size])) := g8
  have c10 : Steps p.tables e below (s₁.setTop (entryFrame m #[.ref a, .ref b, .int (Int32.ofNat o), .int (Int32.ofNat len), .null] 6)) (T8.setTop (mkF m 45 #[.val (.ref a), .val (.ref b), .val (.int (Int32.ofNat o)), .val (.int (Int32.ofNat len)), .val .null, .val (.ref s.heap.size)] [.int (Int32.ofNat N.slots.size), .ref s.heap.size, .ref a])) := by
    have hc : Steps p.tables e below (s₁.setTop (entryFrame m #[.ref a, .ref b, .int (Int32.ofNat o), .int (Int32.ofNat len), .null] 6)) (T8.setTop (mkF m 45 #[.val (.ref a), .val (.ref b), .val (.int (Int32.ofNat o)), .val (.int (Int32.ofNat len)), .val .null, .val (.ref s.heap.size)] [.int (Int32.ofNat len), .ref s.heap.size, .ref a])) := c9.trans (by
      refine XS.astore X8.here hexec rfl (hb hbytes d39) rfl rfl rfl ?_
      refine XS.aloadN X8.here hexec rfl (hb hbytes d41) rfl rfl ?_
      refine XS.aload X8.here hexec rfl (hb hbytes d42) rfl rfl ?_
      refine XS.iloadN X8.here hexec rfl (hb hbytes d44) rfl ?_
      exact Steps.refl _)
    rw [n4]; exact hc
  obtain ⟨v11, T11, X11, E11, g11⟩ := X8.callS hexec (CodL.law l s.heap.size N) hown (wks W (staticW "java/lang/String" 47 CodL.yN)) (wk W CodL.tab) (W := 1) (Nat.le_of_ble_eq_true rfl) (Nat.le_of_ble_eq_true rfl) (Nat.le_refl _) (by show 0 + len + 0 ≤ len; omega) (g := (mkF m 45 #[.val (.ref a), .val (.ref b), .val (.int (Int32.ofNat o)), .val (.int (Int32.ofNat len)), .val .null, .val (.ref s.heap.size)] [.int (Int32.ofNat N.slots.size), .ref s.heap.size, .ref a])) rfl (by rw [hml]; rfl) c10 (argsL := [.ref s.heap.size, .int (Int32.ofNat N.slots.size)]) (rest := [.ref a]) rfl rfl (by show 2 * 0 + (1 + 0) ≤ _; decide) (hb hbytes d45) (⟨rfl, n1⟩)
  obtain ⟨rfl, q11⟩ := E11
  have hB11 := hB1.mv (X8.warmed.alike.symm.trans X11.warmed.alike) q11
  have c12 : Steps p.tables e below (s₁.setTop (entryFrame m #[.ref a, .ref b, .int (Int32.ofNat o), .int (Int32.ofNat len), .null] 6)) (T11.setTop (mkF m 48 #[.val (.ref a), .val (.ref b), .val (.int (Int32.ofNat o)), .val (.int (Int32.ofNat len)), .val .null, .val (.ref s.heap.size)] [.int 0, .ref a])) := g11
  obtain ⟨T13, X13, p13, bl13, sl13, st13⟩ := X11.finit hexec hown (wk W (.fieldLink "java/lang/String" 15 "java/lang/String" "coder" "B")) (Or.inr ⟨_, (wk W (.laysFinal "java/lang/String" "java/lang/String" "coder" "B"))⟩) (Or.inl ⟨rfl, hnm⟩) f2 (Or.inl rfl) hB11 (t := .byte) (by decide +kernel) rfl (g := (mkF m 48 #[.val (.ref a), .val (.ref b), .val (.int (Int32.ofNat o)), .val (.int (Int32.ofNat len)), .val .null, .val (.ref s.heap.size)] [.int 0, .ref a])) rfl (rest := []) rfl (hb hbytes d48)
  have c14 : Steps p.tables e below (s₁.setTop (entryFrame m #[.ref a, .ref b, .int (Int32.ofNat o), .int (Int32.ofNat len), .null] 6)) (T13.setTop (mkF m 54 #[.val (.ref a), .val (.ref b), .val (.int (Int32.ofNat o)), .val (.int (Int32.ofNat len)), .val .null, .val (.ref s.heap.size)] [.ref s.heap.size, .ref a])) := (c12.trans (st13 _ (Steps.refl _))).trans (by
    refine XS.aloadN X13.here hexec rfl (hb hbytes d51) rfl rfl ?_
    refine XS.aload X13.here hexec rfl (hb hbytes d52) rfl rfl ?_
    exact Steps.refl _)
  obtain ⟨T15, X15, p15, bl15, sl15, st15⟩ := X13.finit hexec hown (wk W (.fieldLink "java/lang/String" 9 "java/lang/String" "value" "[B")) (Or.inr ⟨_, (wk W (.laysFinal "java/lang/String" "java/lang/String" "value" "[B"))⟩) (Or.inl ⟨rfl, hnm⟩) f1 (Or.inl rfl) bl13 (t := (.array .byte)) (by decide +kernel) rfl (g := (mkF m 54 #[.val (.ref a), .val (.ref b), .val (.int (Int32.ofNat o)), .val (.int (Int32.ofNat len)), .val .null, .val (.ref s.heap.size)] [.ref s.heap.size, .ref a])) rfl (rest := []) rfl (hb hbytes d54)
  have c16 : Steps p.tables e below (s₁.setTop (entryFrame m #[.ref a, .ref b, .int (Int32.ofNat o), .int (Int32.ofNat len), .null] 6)) (T15.setTop (mkF m 57 #[.val (.ref a), .val (.ref b), .val (.int (Int32.ofNat o)), .val (.int (Int32.ofNat len)), .val .null, .val (.ref s.heap.size)] [])) := c14.trans (st15 _ (Steps.refl _))
  have ap := apart (Or.inr ⟨_, (wk W (.laysFinal "java/lang/String" "java/lang/String" "value" "[B"))⟩) (Or.inr ⟨_, (wk W (.laysFinal "java/lang/String" "java/lang/String" "coder" "B"))⟩) f1 f2 (t₁ := .array .byte) (t₂ := .byte) (by decide +kernel) (by decide +kernel) (by decide)
  have al := X8.warmed.alike.symm.trans X15.warmed.alike
  have n7 : T11.heap[s.heap.size]? = some N := by rw [q11]; exact n1.1
  exact ⟨T15, none, _, _, _, X15, by simp, rfl, by omega, (fun _ => rfl), ⟨rfl, _, N, bl15, ((Same.refl D _).set _ (by simp)).set _ (by simp), sl15, (Cell.slots_setSlot_ne _ ap).trans sl13, n1.keep al (p15.other hne (p13.other hne n7)), n2, by rw [al.findClass]; exact n3, n4, n5, fun y c h1 h2 => p15.other h1 (p13.other h1 (by rw [q11]; exact n6 y c h2)), by rw [p15.2.2, p13.2.2, q11]; exact z8⟩, fun fs hl => c16.trans (X15.returnOut hexec hret (hb hbytes d57) hl)⟩
end New4
namespace New1
def yN : MethodName := ⟨"java/lang/String", "<init>", "([C)V"⟩
abbrev yB : ByteArray := jdk_42_method_3_code
theorem d0 : decode yB 0 = .ok (.aload_n 0, 1) := by decide +kernel
theorem d1 : decode yB 1 = .ok (.aload_n 1, 1) := by decide +kernel
theorem d2 : decode yB 2 = .ok (.iconst 0, 1) := by decide +kernel
theorem d3 : decode yB 3 = .ok (.aload_n 1, 1) := by decide +kernel
theorem d4 : decode yB 4 = .ok (.arraylength, 1) := by decide +kernel
theorem d5 : decode yB 5 = .ok (.aconst_null, 1) := by decide +kernel
theorem d6 : decode yB 6 = .ok (.invokespecial 27, 3) := by decide +kernel
theorem d9 : decode yB 9 = .ok (.return_, 1) := by decide +kernel
def site : List Cond := [New4.tab] ++ initW "java/lang/String" 27 New4.yN
def tab : Cond := tabOf yN yB 2 none site
def P (a : Addr) (D : Cell) (fV fC : Field) (b : Addr) (A : Cell) (z : Int32) (args : Array Value) (s : State) : Prop := args = #[.ref a, .ref b] ∧ Blank "java/lang/String" a D s ∧ Found "java/lang/String" "value" "[B" fV s ∧ Found "java/lang/String" "coder" "B" fC s ∧ Ch b A s ∧ StaticIs s "java/lang/String" "COMPACT_STRINGS" "Z" (.int z) ∧ ¬ z = 0 ∧ 0 < A.slots.size ∧ A.slots.size ≤ 536870912 ∧ ∀ i, i < A.slots.size → ¬ 255 < cv A i
def E (a : Addr) (D : Cell) (fV fC : Field) (A : Cell) (r : Option Value) (s u : State) : Prop := Got a D fV fC A 0 A.slots.size r s u
/-- new String(chars), not empty, no char above 255: a Latin-1 String of their low bytes -/
theorem law (l : Launch) (a : Addr) (D : Cell) (fV fC : Field) (b : Addr) (A : Cell) (z : Int32) : Law l yN 2 1 3 52 yB 2 none site (P a D fV fC b A z) (E a D fV fC A) [⟨a, fC.slot⟩, ⟨a, fV.slot⟩] 1 A.slots.size := by
  refine Law.of_walk (plainFor_of_name (by decide +kernel)) (by decide +kernel) (by decide +kernel) (by decide) (fun _ _ h => by rw [h.1]; rfl) (fun _ U U' hal hh h => ⟨h.1, h.2.1.mv hal hh, h.2.2.1.al hal, h.2.2.2.1.al hal, h.2.2.2.2.1.mv hal hh, h.2.2.2.2.2.1.there hal hh, h.2.2.2.2.2.2⟩) (fun r U U' V V' h1 hal h2 h => Got.mv r U U' V V' h1 hal h2 h) ?_
  intro p e s m args below meth c s₁ X0 hexec hbytes hml hret hlk hnm hown hh0 W hP
  obtain ⟨rfl, hB, f1, f2, hA, s1, hz, l0, l2, hp⟩ := hP
  have c1 : Steps p.tables e below (s₁.setTop (entryFrame m #[.ref a, .ref b] 2)) (s₁.setTop (mkF m 0 #[.val (.ref a), .val (.ref b)] [])) := entry rfl
  have c2 : Steps p.tables e below (s₁.setTop (entryFrame m #[.ref a, .ref b] 2)) (s₁.setTop (mkF m 6 #[.val (.ref a), .val (.ref b)] [.null, .int (Int32.ofNat A.slots.size), .int 0, .ref b, .ref a])) := c1.trans (by
    refine XS.aloadN X0.here hexec rfl (hb hbytes d0) rfl rfl ?_
    refine XS.aloadN X0.here hexec rfl (hb hbytes d1) rfl rfl ?_
    refine iconstV X0.here hexec rfl 0 (hb hbytes d2) (by decide) ?_
    refine XS.aloadN X0.here hexec rfl (hb hbytes d3) rfl rfl ?_
    refine X0.alen hexec (hA.1.mv X0.warmed.alike hh0) rfl rfl (hb hbytes d4) ?_
    refine XS.aconstNull X0.here hexec rfl (hb hbytes d5) ?_
    exact Steps.refl _)
  obtain ⟨v3, T3, X3, E3, g3⟩ := X0.callN hexec (New4.law l a D fV fC b A z 0 A.slots.size) rfl hown (wks W (initW "java/lang/String" 27 New4.yN)) (W New4.tab (by simp only [site, List.mem_cons, List.mem_append, true_or, or_true])) (W := 0) (Nat.le_of_ble_eq_true rfl) (Nat.le_of_ble_eq_true rfl) (Nat.le_refl _) (by show 0 + A.slots.size ≤ A.slots.size; omega) (g := (mkF m 6 #[.val (.ref a), .val (.ref b)] [.null, .int (Int32.ofNat A.slots.size), .int (Int32.ofNat 0), .ref b, .ref a])) rfl (by rw [hml]; rfl) c2 (argsL := [.ref b, .int (Int32.ofNat 0), .int (Int32.ofNat A.slots.size), .null]) (rest := []) rfl rfl (by show 2 * 0 + 0 ≤ _; decide) (hb hbytes d6) (⟨rfl, hB.mv X0.warmed.alike hh0, f1.al X0.warmed.alike, f2.al X0.warmed.alike, hA.mv X0.warmed.alike hh0, s1.there X0.warmed.alike hh0, hz, l0, by omega, l2, fun i hi => by rw [Nat.zero_add]; exact hp i hi⟩)
  have e0 := Got.mv _ s₁ s _ _ hh0.symm (Vm.Alike.refl _) rfl E3
  obtain rfl := e0.1
  have c4 : Steps p.tables e below (s₁.setTop (entryFrame m #[.ref a, .ref b] 2)) (T3.setTop (mkF m 9 #[.val (.ref a), .val (.ref b)] [])) := g3
  exact ⟨T3, none, _, _, _, X3, by simp, rfl, by omega, (fun _ => rfl), e0, fun fs hl => c4.trans (X3.returnOut hexec hret (hb hbytes d9) hl)⟩
theorem pays {l : Launch} {R : Room} {p : Program} {e : Env} {below : List Frame} {s : State} {sargs : Array Value} {len W : Nat} (a : Addr) (D : Cell) (fV fC : Field) (b : Addr) (A : Cell) (z : Int32) (htab : tab.before sargs s = true) (hfr : 4 ≤ R.frames) (hlo : W + 65 ≤ R.locals) :
    Back l R p e below s sargs yN len W (fun A₁ a₁ => A₁.cells + 1 ≤ R.cells ∧ A₁.slots + A.slots.size ≤ R.slots ∧ P a D fV fC b A z a₁ A₁.U) (fun A₁ _ v₁ B₁ => E a D fV fC A v₁ A₁.U B₁.U ∧ B₁.locs = A₁.locs ++ [⟨a, fC.slot⟩, ⟨a, fV.slot⟩] ∧ B₁.cells = A₁.cells + 1 ∧ B₁.slots = A₁.slots + A.slots.size) :=
  (law l a D fV fC b A z).pays htab hfr (by omega)
end New1
end StrChars
namespace StrChars.Road
open Jvm Sem ClassFile Op Lib Jvm.Stand Jvm.Free Jvm.Free.XT
open Jvm.Lib.Cold (StaticIs)
abbrev ST : String := "java/lang/String"
/-- every table word that New1's law asks, flat -/
abbrev words : List Jvm.Cond := [.code New1.yN New1.yB 2 none, .initialized ST, .methodLink ST 27 New4.yN, .instanceMethod New4.yN,
  .code New4.yN New4.yB 6 none, .fieldLink ST 38 ST "COMPACT_STRINGS" "Z", .laysFinal ST ST "value" "[B", .fieldLink ST 9 ST "value" "[B", .laysFinal ST ST "coder" "B", .fieldLink ST 15 ST "coder" "B",
  .methodLink ST 1 Lib.objectInit, .instanceMethod Lib.objectInit, .code Lib.objectInit ⟨#[0xb1]⟩ 1 none, .methodLink ST 177 Cmp3.yN, .static Cmp3.yN, .methodLink ST 47 CodL.yN, .static CodL.yN,
  .code Cmp3.yN Cmp3.yB 6 (some (.array .byte)), .initialized U16, .arrayClass .byte, .methodLink U16 115 Cmp5.yN, .static Cmp5.yN, .code Cmp5.yN Cmp5.yB 7 (some .int), .code CodL.yN CodL.yB 2 (some .byte)]
theorem tab_of {a : Array Value} {s : State} (h : ∀ w ∈ words, w.before a s = true) : New1.tab.before a s = true := by
  have h5 : Cmp5.tab.before a s = true := unparts (wk h (.code Cmp5.yN Cmp5.yB 7 (some .int))) (wks h (.initialized Cmp5.yN.cls :: Cmp5.site))
  have hc : CodL.tab.before a s = true := unparts (wk h (.code CodL.yN CodL.yB 2 (some .byte))) (wks h (.initialized CodL.yN.cls :: CodL.site))
  have q5 : ∀ w ∈ Cmp5.tab :: words, w.before a s = true := fun w hw => (List.mem_cons.mp hw).elim (fun e => e ▸ h5) (h w)
  have h3 : Cmp3.tab.before a s = true := unparts (wk q5 (.code Cmp3.yN Cmp3.yB 6 (some (.array .byte)))) (wks q5 (.initialized Cmp3.yN.cls :: Cmp3.site))
  have q3 : ∀ w ∈ Cmp3.tab :: CodL.tab :: words, w.before a s = true := fun w hw => (List.mem_cons.mp hw).elim (fun e => e ▸ h3) fun hw => (List.mem_cons.mp hw).elim (fun e => e ▸ hc) (h w)
  have h4 : New4.tab.before a s = true := unparts (wk q3 (.code New4.yN New4.yB 6 none)) (wks q3 (.initialized New4.yN.cls :: New4.site))
  have q4 : ∀ w ∈ New4.tab :: words, w.before a s = true := fun w hw => (List.mem_cons.mp hw).elim (fun e => e ▸ h4) (h w)
  exact unparts (wk q4 (.code New1.yN New1.yB 2 none)) (wks q4 (.initialized New1.yN.cls :: New1.site))
/-- the words ride from the start Z to the walk's own state -/
theorem moved {Z s : State} {a0 args : Array Value} (hZ : Z.Warmed39 s.vm) (hw : ∀ d ∈ words, d.before a0 Z = true) : ∀ d ∈ words, d.before args s = true := fun d hd => by
  have q := hw d hd
  have t : ∀ d ∈ words, d = .arrayClass .byte ∨ (d.onTables && d.keepsFace) = true := by decide +kernel
  rcases t d hd with rfl | t
  · exact RoadKit.mvA hZ q
  · exact RoadKit.mv hZ q t
/-- WHAT COMES BACK, over the tables of the start Z: h the heap at the call, h' behind it -/
def Q (Z : State) (x : Addr) (A : Cell) (h : Heap) (v : Option Value) (h' : Heap) (L : List Loc) : Prop := v = none ∧ (∀ y ∈ L, y.base = x) ∧ RoadKit.Keep h h' [x] ∧ h'.size = h.size + 1 ∧ RoadKit.Exa Z h' x ST ∧ RoadKit.Fld Z h' x ST "value" "[B" (.ref h.size) ∧ RoadKit.Fld Z h' x ST "coder" "B" (.int 0) ∧
  (∃ V : Cell, RoadKit.Arr Z h' h.size V .byte ∧ V.vm = .none ∧ Z.vm.findClass "[B" = some V.cls ∧ V.slots.size = A.slots.size ∧ ∀ j, j < A.slots.size → V.slots[j]? = some (.int (lo8 (cv A j)))) ∧
  ∀ (O n d : String) (w : Value), RoadKit.Fld Z h x O n d w → RoadKit.slotOf Z O n d ≠ RoadKit.slotOf Z ST "value" "[B" → RoadKit.slotOf Z O n d ≠ RoadKit.slotOf Z ST "coder" "B" → RoadKit.Fld Z h' x O n d w
/-- **new String(chars) AT A CALL, IN THE ROAD'S FORM**: for specialBack behind newO: x the fresh String, b the char[] with the cell A -/
theorem back {p : Program} {l : Launch} {e : Env} {R : Room} {s : State} {args : Array Value} {below : List Frame} {len W : Nat} {Z : State} {a0 : Array Value} {h : Heap} (hZ : Z.Warmed39 s.vm) (hw : ∀ d ∈ words, d.before a0 Z = true) {kI : Nat} (wi : (Jvm.Cond.instantiable ST kI).before a0 Z = true)
    {x b : Addr} {A : Cell} {z : Int32} {v0 c0 : Value} (E : RoadKit.Exa Z h x ST) (V : RoadKit.Fld Z h x ST "value" "[B" v0) (C : RoadKit.Fld Z h x ST "coder" "B" c0) (K : RoadKit.Arr Z h b A .char) (hty : Typed .char A) (S : RoadKit.Sta Z h ST "COMPACT_STRINGS" "Z" (.int z)) (hz : ¬ z = 0)
    (l0 : 0 < A.slots.size) (l2 : A.slots.size ≤ 536870912) (hp : ∀ i, i < A.slots.size → ¬ 255 < cv A i) (hfr : 4 ≤ R.frames) (hlo : W + 65 ≤ R.locals) :
    Back l R p e below s args New1.yN len W (fun P a => a = #[.ref x, .ref b] ∧ P.U.heap = h ∧ P.cells + 1 ≤ R.cells ∧ P.slots + A.slots.size ≤ R.slots)
      (fun P _ v B => ∃ L, Q Z x A h v B.U.heap L ∧ B.locs = P.locs ++ L ∧ B.cells = P.cells + 1 ∧ B.slots = P.slots + A.slots.size) := by
  intro m meth c P g ig mk a X hg hsize hdg hW hn hp'
  obtain ⟨rfl, rfl, r1, r2⟩ := hp'
  have al : Z.vm.Alike P.U.vm := hZ.alike.trans X.warmed.alike
  obtain ⟨D, cfV, kV, iV, fV, hD, gV, stV, knV, obV, asV, slV⟩ := id V
  obtain ⟨D', cfC, kC, iC, fC, hD', gC, stC, -, -, asC, slC⟩ := id C
  cases hD.symm.trans hD'
  obtain ⟨D2, kD, e1, e2, e3, e4, e5⟩ := id E
  cases hD.symm.trans e1
  obtain ⟨c2, k2, i1, i2, i3, -⟩ := Cond.instantiable_spec wi
  cases e2.symm.trans i1
  cases e3.symm.trans i2
  obtain ⟨kU, u1, u2⟩ := al.2.2 _ _ e3
  have hB : Blank ST x D P.U := ⟨hD, ⟨knV, fun q hq => by rw [hq] at obV; cases obV⟩, by rw [al.findClass]; exact e2, kU, u1, by rw [u2]; exact i3, by rw [u2]; exact e5 i3⟩
  have F1 : Found ST "value" "[B" fV P.U := ⟨SBG.found_only al ⟨cfV, kV, iV, gV⟩, stV⟩
  have F2 : Found ST "coder" "B" fC P.U := ⟨SBG.found_only al ⟨cfC, kC, iC, gC⟩, stC⟩
  have hA : Ch b A P.U := ⟨⟨K.1, State.isArrayOf_alike al K.2.1, K.2.2, by omega⟩, hty⟩
  have hS : StaticIs P.U ST "COMPACT_STRINGS" "Z" (.int z) := by
    obtain ⟨cfS, iS, kS, fS, st, cS, t1, t2, t3, t4, t5, t6, t7⟩ := S
    exact StaticIs.there (s := { Z with heap := P.U.heap }) ⟨cfS, iS, kS, fS, st, cS, t1, t2, t3, t4, t5, (fun q => by rw [q] at t6; cases t6), t7⟩ al rfl
  obtain ⟨v, B, X', ⟨⟨hv, E', V', q1, q2, q3, q4, q5, q6, q7, q8, q9, q10, q11⟩, hl, hc, hs⟩, st⟩ := New1.pays x D fV fC b A z (tab_of (moved hZ hw)) hfr hlo m meth c P g ig mk _ X hg hsize hdg hW hn ⟨r1, r2, rfl, hB, F1, F2, hA, hS, hz, l0, l2, hp⟩
  have al' : Z.vm.Alike B.U.vm := hZ.alike.trans X'.warmed.alike
  have hsz : E'.slots.size = D.slots.size := by
    obtain ⟨-, -, -, kB, w1, w2, w3⟩ := q1
    obtain ⟨kB', y1, y2⟩ := al'.2.2 _ _ e3
    rw [q2.2.1] at w1
    cases w1.symm.trans y1
    rw [w3, e5 i3, y2]
  refine ⟨v, B, X', ⟨_, ⟨hv, ?_, ⟨by omega, fun y cy hy hn' => q10 y cy (by simpa using hn') hy, fun y cy hy => ?_⟩, q11, ⟨E', _, q1.1, by rw [q2.2.1]; exact e2, by rw [q2.2.1]; exact e3, by rw [q2.1]; exact obV, fun _ => by rw [hsz]; exact e5 i3⟩,
    ⟨E', cfV, kV, iV, fV, q1.1, gV, stV, by rw [q2.1]; exact knV, by rw [q2.1]; exact obV, by rw [q2.2.1]; exact asV, q3⟩, ⟨E', cfC, kC, iC, fC, q1.1, gC, stC, by rw [q2.1]; exact knV, by rw [q2.1]; exact obV, by rw [q2.2.1]; exact asC, q4⟩,
    ⟨V', ⟨q5.1, State.isArrayOf_alike al'.symm q5.2.1, q5.2.2.1⟩, q6, by rw [← al'.findClass]; exact q7, q8, fun j hj => by have := q9 j hj; rwa [Nat.zero_add] at this⟩, fun O n d w F n1 n2 => ?_⟩, hl, hc, hs⟩, st⟩
  · intro y hy
    simp only [List.mem_cons, List.not_mem_nil, or_false] at hy
    rcases hy with rfl | rfl <;> rfl
  · by_cases q : y = x
    · subst q
      cases hD.symm.trans hy
      exact ⟨E', q1.1, q2.2.1, q2.1, hsz⟩
    · exact ⟨cy, q10 y cy q hy, rfl, rfl, rfl⟩
  · obtain ⟨D3, cf, k, i, f, g1, g2, g3, g4, g5, g6, g7⟩ := F
    cases hD.symm.trans g1
    simp only [RoadKit.slotOf, g2, gV, gC, Option.map_some, Option.getD_some] at n1 n2
    exact ⟨E', cf, k, i, f, q1.1, g2, g3, by rw [q2.1]; exact g4, by rw [q2.1]; exact g5, by rw [q2.2.1]; exact g6, by rw [q2.2.2 f.slot (by simp [n1, n2])]; exact g7⟩
end StrChars.Road
namespace StrChars.Road
open Jvm Sem ClassFile Op Lib Jvm.Stand Jvm.Free Jvm.Free.XT
/-- WHAT COMES BACK, the byte[] as a list of values -/
def QA (Z : State) (x : Addr) (zn : Int32) (cs : List Int32) (h : Heap) (v : Option Value) (h' : Heap) (L : List Loc) : Prop := v = none ∧ (∀ y ∈ L, y.base = x) ∧ RoadKit.Keep h h' [x] ∧ h'.size = h.size + 1 ∧ RoadKit.Exa Z h' x ST ∧ RoadKit.Fld Z h' x ST "value" "[B" (.ref h.size) ∧ RoadKit.Fld Z h' x ST "coder" "B" (.int 0) ∧
  (∃ kb, Z.vm.findClass "[B" = some kb ∧ RoadKit.Arv Z h' h.size kb .byte zn (cs.map fun c => .int (lo8 c)) (.int 0)) ∧
  ∀ (O n d : String) (w : Value), RoadKit.Fld Z h x O n d w → RoadKit.slotOf Z O n d ≠ RoadKit.slotOf Z ST "value" "[B" → RoadKit.slotOf Z O n d ≠ RoadKit.slotOf Z ST "coder" "B" → RoadKit.Fld Z h' x O n d w
/-- **new String(chars) AT A CALL, THE ARRAYS AS LISTS**: the char[] at b holds cs, not empty, no char above 255 -/
theorem backArv {p : Program} {l : Launch} {e : Env} {R : Room} {s : State} {args : Array Value} {below : List Frame} {len W : Nat} {Z : State} {a0 : Array Value} {h : Heap} (hZ : Z.Warmed39 s.vm) (hw : ∀ d ∈ words, d.before a0 Z = true) {kI : Nat} (wi : (Jvm.Cond.instantiable ST kI).before a0 Z = true)
    {x b : Addr} {k : ClassId} {zn z : Int32} {cs : List Int32} {dv v0 c0 : Value} (E : RoadKit.Exa Z h x ST) (V : RoadKit.Fld Z h x ST "value" "[B" v0) (C : RoadKit.Fld Z h x ST "coder" "B" c0) (K : RoadKit.Arv Z h b k .char zn (cs.map Value.int) dv) (S : RoadKit.Sta Z h ST "COMPACT_STRINGS" "Z" (.int z)) (hz : ¬ z = 0)
    (hlen : zn.toNatClampNeg = cs.length) (h0 : 0 < cs.length) (hbig : cs.length ≤ 536870912) (hall : ∀ c ∈ cs, ¬ 255 < c) (hfr : 4 ≤ R.frames) (hlo : W + 65 ≤ R.locals) :
    Back l R p e below s args New1.yN len W (fun P a => a = #[.ref x, .ref b] ∧ P.U.heap = h ∧ P.cells + 1 ≤ R.cells ∧ P.slots + cs.length ≤ R.slots)
      (fun P _ v B => ∃ L, QA Z x zn cs h v B.U.heap L ∧ B.locs = P.locs ++ L ∧ B.cells = P.cells + 1 ∧ B.slots = P.slots + cs.length) := by
  obtain ⟨A, K1, K2, K3, K4, K5, K6⟩ := K
  have e : A.slots.size = cs.length := K3.trans hlen
  have hat : ∀ (i : Nat) (hi : i < cs.length), A.slots[i]? = some (.int cs[i]) := fun i hi => by rw [K5 i (by omega)]; simp [List.getD_eq_getElem?_getD, hi]
  have hcv : ∀ (i : Nat) (hi : i < cs.length), cv A i = cs[i] := fun i hi => by unfold cv; rw [hat i hi]
  have hty : Typed .char A := fun i v hv => by
    have hi : i < A.slots.size := (Array.getElem?_eq_some_iff.mp hv).1
    have q := K5 i hi
    rw [hv] at q
    rw [Option.some.inj q]
    exact K6 i hi
  refine Back.mono (back hZ hw wi E V C K1 hty S hz (by omega) (by omega) (fun i hi => by rw [hcv i (by omega)]; exact hall _ (List.getElem_mem _)) hfr hlo) (fun P a hp => ⟨hp.1, hp.2.1, hp.2.2.1, by rw [e]; exact hp.2.2.2⟩) (fun P a v B hp hq => ?_)
  obtain ⟨L, ⟨q1, q2, q3, q4, q5, q6, q7, ⟨V', v1, v2, v3, v4, v5⟩, q9⟩, hl, hc, hs⟩ := hq
  refine ⟨L, ⟨q1, q2, q3, q4, q5, q6, q7, ⟨V'.cls, v3, V', v1, rfl, by rw [v4, e, hlen], K4, fun i hi => ?_, fun i hi => ?_⟩, q9⟩, hl, hc, by rw [hs, e]⟩
  · have hi' : i < cs.length := by omega
    rw [v5 i (by omega), hcv i hi']; simp [List.getD_eq_getElem?_getD, hi']
  · have hi' : i < cs.length := by omega
    simp only [List.getD_eq_getElem?_getD, List.getElem?_map, List.getElem?_eq_getElem hi', Option.map_some, Option.getD_some]
    exact fits_lo8 _
end StrChars.Road
namespace StrChars.Road
open Jvm Sem ClassFile Op Lib Jvm.Stand Jvm.Free Jvm.Free.XT
/-- WHAT COMES BACK, in the writer's own shape -/
def QV (Z : State) (x : Addr) (N : Int32) (bs : List Int32) (h : Heap) (n0 : Nat) (v : Option Value) (h' : Heap) (L : List Loc) : Prop := v = none ∧ RoadKit.Fr n0 L ∧ RoadKit.Keep h h' [x] ∧ RoadKit.Exa Z h' x ST ∧ RoadKit.Fld Z h' x ST "coder" "B" (.int 0) ∧
  ∃ (t : Addr) (kb : ClassId), n0 ≤ t ∧ h.size ≤ t ∧ ¬ t = x ∧ RoadKit.Fld Z h' x ST "value" "[B" (.ref t) ∧ RoadKit.Arv Z h' t kb .byte N (bs.map Value.int) (.int 0)
/-- **new String(chars) AT A CALL, FOR THE WRITER**: a char[] of n known ints, each 0 to 255 -/
theorem backV {p : Program} {l : Launch} {e : Env} {R : Room} {s : State} {args : Array Value} {below : List Frame} {len W : Nat} {Z : State} {a0 : Array Value} {h : Heap} (hZ : Z.Warmed39 s.vm) (hw : ∀ d ∈ words, d.before a0 Z = true) {kI : Nat} (wi : (Jvm.Cond.instantiable ST kI).before a0 Z = true)
    {x b : Addr} {kC : ClassId} {cs bs : List Int32} {d v0 c0 : Value} {z N : Int32} {n n0 : Nat} (hx0 : n0 ≤ x) (hh0 : n0 ≤ h.size) (E : RoadKit.Exa Z h x ST) (V : RoadKit.Fld Z h x ST "value" "[B" v0) (C : RoadKit.Fld Z h x ST "coder" "B" c0) (K : RoadKit.Arv Z h b kC .char N (cs.map Value.int) d) (S : RoadKit.Sta Z h ST "COMPACT_STRINGS" "Z" (.int z)) (hz : ¬ z = 0)
    (hn : cs.length = n) (hN : N = Int32.ofNat n) (l0 : 0 < n) (l2 : n ≤ 4000) (hp : ∀ c ∈ cs, ¬ c < 0 ∧ ¬ (255 : Int32) < c) (hb : bs = cs.map (fun c => c.toInt8.toInt32)) (hfr : 4 ≤ R.frames) (hlo : W + 65 ≤ R.locals) :
    Back l R p e below s args (⟨"java/lang/String", "<init>", "([C)V"⟩ : MethodName) len W (fun P a => a = #[.ref x, .ref b] ∧ P.U.heap = h ∧ P.cells + 1 ≤ R.cells ∧ P.slots + n ≤ R.slots)
      (fun P _ v B => ∃ L, QV Z x N bs h n0 v B.U.heap L ∧ B.locs = P.locs ++ L ∧ B.cells = P.cells + 1 ∧ B.slots = P.slots + n) := by
  subst hn hN hb
  refine Back.mono (backArv hZ hw wi E V C K S hz (n32 (by omega)) l0 (by omega) (fun c hc => (hp c hc).2) hfr hlo) (fun P a hp => hp) (fun P a v B hp hq => ?_)
  obtain ⟨L, ⟨q1, q2, q3, q4, q5, q6, q7, ⟨kb, v1, v2⟩, q9⟩, hl, hc, hs⟩ := hq
  exact ⟨L, ⟨q1, fun y hy => by rw [q2 y hy]; exact hx0, q3, q5, q7, h.size, kb, hh0, Nat.le_refl _, Nat.ne_of_gt E.lt, q6, by rw [List.map_map]; exact v2⟩, hl, hc, hs⟩
end StrChars.Road
end Jvm.Pilot.@@N@@
namespace Jvm.Pilot.@@N@@
open Jvm Jvm.ClassFile Sem Op Lib Jvm.Free Jvm.Stand Jvm.LawKit Jvm.RoadKit Jvm.OwnKit Bundle Jvm.Pilot.@@N@@.Jvm.D
theorem wd0 {Z : State} {a0 : Array Value} (hw : ∀ d ∈ tables_1, d.before a0 Z = true) : (Jvm.Cond.methodLink "com/example/chunkwise/chunkwise/launch/BoundsAtLeastPinLaw" (7 : Nat) ({ cls := "java/lang/Math", name := "max", desc := "(JJ)J" } : Jvm.MethodName)).before a0 Z = true := hw _ (List.mem_of_getElem? (i := 0) rfl)
theorem wd1 {Z : State} {a0 : Array Value} (hw : ∀ d ∈ tables_1, d.before a0 Z = true) : (Jvm.Cond.static ({ cls := "java/lang/Math", name := "max", desc := "(JJ)J" } : Jvm.MethodName)).before a0 Z = true := hw _ (List.mem_of_getElem? (i := 1) rfl)
theorem wd2 {Z : State} {a0 : Array Value} (hw : ∀ d ∈ tables_1, d.before a0 Z = true) : (Jvm.Cond.initialized "java/lang/Math").before a0 Z = true := hw _ (List.mem_of_getElem? (i := 2) rfl)
theorem wd3 {Z : State} {a0 : Array Value} (hw : ∀ d ∈ tables_1, d.before a0 Z = true) : (Jvm.Cond.code ({ cls := "java/lang/Math", name := "max", desc := "(JJ)J" } : Jvm.MethodName) jdk_29_method_66_code (4 : Nat) (Option.some Jvm.ClassFile.FieldType.long)).before a0 Z = true := hw _ (List.mem_of_getElem? (i := 3) rfl)
theorem wd4 {Z : State} {a0 : Array Value} (hw : ∀ d ∈ tables_1, d.before a0 Z = true) : (Jvm.Cond.methodLink "com/example/chunkwise/chunkwise/launch/BoundsAtLeastPinLaw" (13 : Nat) ({ cls := "java/lang/Math", name := "min", desc := "(JJ)J" } : Jvm.MethodName)).before a0 Z = true := hw _ (List.mem_of_getElem? (i := 4) rfl)
theorem wd5 {Z : State} {a0 : Array Value} (hw : ∀ d ∈ tables_1, d.before a0 Z = true) : (Jvm.Cond.static ({ cls := "java/lang/Math", name := "min", desc := "(JJ)J" } : Jvm.MethodName)).before a0 Z = true := hw _ (List.mem_of_getElem? (i := 5) rfl)
theorem wd6 {Z : State} {a0 : Array Value} (hw : ∀ d ∈ tables_1, d.before a0 Z = true) : (Jvm.Cond.code ({ cls := "java/lang/Math", name := "min", desc := "(JJ)J" } : Jvm.MethodName) jdk_29_method_70_code (4 : Nat) (Option.some Jvm.ClassFile.FieldType.long)).before a0 Z = true := hw _ (List.mem_of_getElem? (i := 6) rfl)
theorem wd7 {Z : State} {a0 : Array Value} (hw : ∀ d ∈ tables_1, d.before a0 Z = true) : (Jvm.Cond.arrayClass Jvm.ClassFile.FieldType.char).before a0 Z = true := hw _ (List.mem_of_getElem? (i := 7) rfl)
theorem wd8 {Z : State} {a0 : Array Value} (hw : ∀ d ∈ tables_1, d.before a0 Z = true) : (Jvm.Cond.classLink "com/example/chunkwise/chunkwise/launch/BoundsAtLeastPinLaw" (16 : Nat) "java/lang/String").before a0 Z = true := hw _ (List.mem_of_getElem? (i := 8) rfl)
theorem wd9 {Z : State} {a0 : Array Value} (hw : ∀ d ∈ tables_1, d.before a0 Z = true) : (Jvm.Cond.instantiable "java/lang/String" (4 : Nat)).before a0 Z = true := hw _ (List.mem_of_getElem? (i := 9) rfl)
theorem wd10 {Z : State} {a0 : Array Value} (hw : ∀ d ∈ tables_1, d.before a0 Z = true) : (Jvm.Cond.initialized "java/lang/String").before a0 Z = true := hw _ (List.mem_of_getElem? (i := 10) rfl)
theorem wd11 {Z : State} {a0 : Array Value} (hw : ∀ d ∈ tables_1, d.before a0 Z = true) : (Jvm.Cond.methodLink "com/example/chunkwise/chunkwise/launch/BoundsAtLeastPinLaw" (18 : Nat) ({ cls := "java/lang/String", name := "<init>", desc := "([C)V" } : Jvm.MethodName)).before a0 Z = true := hw _ (List.mem_of_getElem? (i := 11) rfl)
theorem wd12 {Z : State} {a0 : Array Value} (hw : ∀ d ∈ tables_1, d.before a0 Z = true) : (Jvm.Cond.instanceMethod ({ cls := "java/lang/String", name := "<init>", desc := "([C)V" } : Jvm.MethodName)).before a0 Z = true := hw _ (List.mem_of_getElem? (i := 12) rfl)
theorem wd13 {Z : State} {a0 : Array Value} (hw : ∀ d ∈ tables_1, d.before a0 Z = true) : (Jvm.Cond.code ({ cls := "java/lang/String", name := "<init>", desc := "([C)V" } : Jvm.MethodName) jdk_42_method_3_code (2 : Nat) (Option.none : Option Jvm.ClassFile.FieldType)).before a0 Z = true := hw _ (List.mem_of_getElem? (i := 13) rfl)
theorem wd34 {Z : State} {a0 : Array Value} (hw : ∀ d ∈ tables_1, d.before a0 Z = true) : (Jvm.Cond.laysFinal "java/lang/String" "java/lang/String" "coder" "B").before a0 Z = true := hw _ (List.mem_of_getElem? (i := 34) rfl)
theorem wd36 {Z : State} {a0 : Array Value} (hw : ∀ d ∈ tables_1, d.before a0 Z = true) : (Jvm.Cond.laysFinal "java/lang/String" "java/lang/String" "value" "[B").before a0 Z = true := hw _ (List.mem_of_getElem? (i := 36) rfl)
theorem wd37 {Z : State} {a0 : Array Value} (hw : ∀ d ∈ tables_1, d.before a0 Z = true) : (Jvm.Cond.methodLink "com/example/chunkwise/chunkwise/launch/BoundsAtLeastPinLaw" (21 : Nat) ({ cls := "com/example/chunkwise/chunkwise/launch/Bounds", name := "atLeast", desc := "(Ljava/lang/String;JJ)J" } : Jvm.MethodName)).before a0 Z = true := hw _ (List.mem_of_getElem? (i := 37) rfl)
theorem wd38 {Z : State} {a0 : Array Value} (hw : ∀ d ∈ tables_1, d.before a0 Z = true) : (Jvm.Cond.static ({ cls := "com/example/chunkwise/chunkwise/launch/Bounds", name := "atLeast", desc := "(Ljava/lang/String;JJ)J" } : Jvm.MethodName)).before a0 Z = true := hw _ (List.mem_of_getElem? (i := 38) rfl)
theorem wd39 {Z : State} {a0 : Array Value} (hw : ∀ d ∈ tables_1, d.before a0 Z = true) : (Jvm.Cond.initialized "com/example/chunkwise/chunkwise/launch/Bounds").before a0 Z = true := hw _ (List.mem_of_getElem? (i := 39) rfl)
theorem wd40 {Z : State} {a0 : Array Value} (hw : ∀ d ∈ tables_1, d.before a0 Z = true) : (Jvm.Cond.code ({ cls := "com/example/chunkwise/chunkwise/launch/Bounds", name := "atLeast", desc := "(Ljava/lang/String;JJ)J" } : Jvm.MethodName) prog_87_method_2_code (5 : Nat) (Option.some Jvm.ClassFile.FieldType.long)).before a0 Z = true := hw _ (List.mem_of_getElem? (i := 40) rfl)
theorem pd_0 : parseMethodDescriptor "(JJ)J" = some ⟨[.long, .long], some .long⟩ := by decide +kernel
theorem pd_1 : parseMethodDescriptor "([C)V" = some ⟨[(.array .char)], none⟩ := by decide +kernel
theorem pd_2 : parseMethodDescriptor "(Ljava/lang/String;JJ)J" = some ⟨[(.object "java/lang/String"), .long, .long], some .long⟩ := by decide +kernel
theorem d1_0 : decode jdk_29_method_66_code 0 = .ok (.lload_n 0, 1) := by decide +kernel
theorem d1_1 : decode jdk_29_method_66_code 1 = .ok (.lload_n 2, 1) := by decide +kernel
theorem d1_2 : decode jdk_29_method_66_code 2 = .ok (.lcmp, 1) := by decide +kernel
theorem d1_3 : decode jdk_29_method_66_code 3 = .ok (.ifCond .lt 7, 3) := by decide +kernel
theorem d1_10 : decode jdk_29_method_66_code 10 = .ok (.lload_n 2, 1) := by decide +kernel
theorem d1_11 : decode jdk_29_method_66_code 11 = .ok (.lreturn, 1) := by decide +kernel
theorem d1_6 : decode jdk_29_method_66_code 6 = .ok (.lload_n 0, 1) := by decide +kernel
theorem d1_7 : decode jdk_29_method_66_code 7 = .ok (.goto 4, 3) := by decide +kernel
theorem d2_0 : decode jdk_29_method_70_code 0 = .ok (.lload_n 0, 1) := by decide +kernel
theorem d2_1 : decode jdk_29_method_70_code 1 = .ok (.lload_n 2, 1) := by decide +kernel
theorem d2_2 : decode jdk_29_method_70_code 2 = .ok (.lcmp, 1) := by decide +kernel
theorem d2_3 : decode jdk_29_method_70_code 3 = .ok (.ifCond .gt 7, 3) := by decide +kernel
theorem d2_10 : decode jdk_29_method_70_code 10 = .ok (.lload_n 2, 1) := by decide +kernel
theorem d2_11 : decode jdk_29_method_70_code 11 = .ok (.lreturn, 1) := by decide +kernel
theorem d2_6 : decode jdk_29_method_70_code 6 = .ok (.lload_n 0, 1) := by decide +kernel
theorem d2_7 : decode jdk_29_method_70_code 7 = .ok (.goto 4, 3) := by decide +kernel
theorem d9_0 : decode prog_87_method_2_code 0 = .ok (.lload_n 1, 1) := by decide +kernel
theorem d9_1 : decode prog_87_method_2_code 1 = .ok (.lload_n 3, 1) := by decide +kernel
theorem d9_2 : decode prog_87_method_2_code 2 = .ok (.lcmp, 1) := by decide +kernel
theorem d9_3 : decode prog_87_method_2_code 3 = .ok (.ifCond .ge 19, 3) := by decide +kernel
theorem d9_22 : decode prog_87_method_2_code 22 = .ok (.lload_n 1, 1) := by decide +kernel
theorem d9_23 : decode prog_87_method_2_code 23 = .ok (.lreturn, 1) := by decide +kernel
theorem and255_chars (x : Int32) : ¬ nar .char ((x &&& (255 : Int32)).toUInt32.toUInt16.toUInt32.toInt32) < 0 ∧ ¬ (255 : Int32) < nar .char ((x &&& (255 : Int32)).toUInt32.toUInt16.toUInt32.toInt32) := by
  have t : ∀ k : Fin 256, ¬ nar .char ((Int32.ofNat k.val).toUInt32.toUInt16.toUInt32.toInt32) < 0 ∧ ¬ (255 : Int32) < nar .char ((Int32.ofNat k.val).toUInt32.toUInt16.toUInt32.toInt32) := by decide +kernel
  have h : (x &&& 255).toBitVec.toNat < 256 := by
    simp only [Int32.toBitVec_and, BitVec.toNat_and]
    exact Nat.lt_succ_of_le Nat.and_le_right
  have e : (x &&& 255) = Int32.ofNat (x &&& 255).toBitVec.toNat := by
    apply Int32.toBitVec_inj.mp
    show _ = BitVec.ofNat 32 _
    rw [BitVec.ofNat_toNat]; simp
  rw [e]
  exact t ⟨_, h⟩
theorem pays_init {l : Launch} {Z : State} {a0 : Array Value} (hw : ∀ d ∈ tables_1, d.before a0 Z = true) {n0 : Nat} {R : Room} {W : Nat} {h : Heap} {x b : Addr} {kC : ClassId} {cs : List Int32} {d v0 c0 : Value} {z N : Int32} {n : Nat} (hx0 : n0 ≤ x) (E : Exa Z h x "java/lang/String") (V : Fld Z h x "java/lang/String" "value" "[B" v0) (C : Fld Z h x "java/lang/String" "coder" "B" c0) (K : Arv Z h b kC .char N (cs.map Value.int) d) (S : Sta Z Z.heap "java/lang/String" "COMPACT_STRINGS" "Z" (.int z)) (hz : ¬ z = 0)
    (hn : cs.length = n) (hN : N = Int32.ofNat n) (l0 : 0 < n) (l2 : n ≤ 4000) (hp : ∀ c ∈ cs, ¬ c < 0 ∧ ¬ (255 : Int32) < c) (hfr : 4 ≤ R.frames) (hlo : W + 65 ≤ R.locals) :
    Pays l Z n0 R (⟨"java/lang/String", "<init>", "([C)V"⟩ : MethodName) 3 W #[.ref x, .ref b] h 1 n (fun v h' => v = none ∧ Keep h h' [x] ∧ Exa Z h' x "java/lang/String" ∧ Fld Z h' x "java/lang/String" "coder" "B" (.int 0) ∧ ∃ (t : Addr) (kb : ClassId), h.size ≤ t ∧ t < h'.size ∧ Fld Z h' x "java/lang/String" "value" "[B" (.ref t) ∧ Arv Z h' t kb .byte N ((cs.map (fun c => c.toInt8.toInt32)).map Value.int) (.int 0)) := fun hO p e below s args hZ => by
  have hws : ∀ d ∈ StrChars.Road.words, d.before a0 Z = true := fun d hd => hw d ((by decide +kernel : ∀ d ∈ StrChars.Road.words, d ∈ tables_1) d hd)
  refine Back.mono (StrChars.Road.backV hZ hws (kI := 4) (wd9 hw) (n0 := n0) hx0 (hO.1 ▸ hO.2.1) E V C K (S.ext hO.2) hz hn hN l0 l2 hp rfl hfr hlo) (fun P a q => q) (fun P a v B q r => ?_)
  obtain ⟨L, ⟨q1, q2, q3, q4, q5, t, kb, q6, q7, q8, q9, q10⟩, r2⟩ := r
  exact ⟨L, ⟨⟨q1, q3, q4, q5, t, kb, q7, q10.lt, q9, q10⟩, q2⟩, r2⟩
def lmax (a b : Int64) : Int64 := if lcmpW a b < 0 then b else a
def lmin (a b : Int64) : Int64 := if 0 < lcmpW a b then b else a
theorem lmax_ge (a b : Int64) : ¬ lcmpW (lmax a b) (lmin a b) < 0 := by
  unfold lmax lmin
  simp only [lw_lt, lw_gt]
  intro q
  split at q <;> split at q <;> simp only [Int64.lt_iff_toInt_lt] at * <;> omega
theorem lcmp_self (a : Int64) : lcmpW a a = 0 := (lw_eq a a).mpr rfl
set_option maxRecDepth 65536 in
set_option maxHeartbeats 40000000 in
theorem ok_max {l : Launch} {Z : State} {a0 : Array Value} (hw : ∀ d ∈ tables_1, d.before a0 Z = true) {n0 : Nat} (q1 q2 : Int64) {h0 : Heap} :
    Ok false l Z [] n0 [] (⟨"java/lang/Math", "max", "(JJ)J"⟩ : MethodName) jdk_29_method_66_code 4 (Option.some Jvm.ClassFile.FieldType.long) ({ frames := 0, cells := 0, slots := 0, locals := 0 } : Room) #[(.long q1), (.long q2)] h0 (fun v h => v = some (.long (lmax q1 q2)) ∧ h = h0) (fun _ => []) := by
  refine Ok.of_run (ls0 := #[.val (.long q1), .second, .val (.long q2), .second]) (Jvm.Free.JP.mathPlain rfl (by decide +kernel)) (fun m => by first | (simp [entryFrame, mkF, argsToLocals, Value.category]; done) | rfl) rfl ?_
  refine Run.old fun hO => ?_
  have hn0 : n0 ≤ h0.size := hO.1 ▸ hO.2.1
  refine r_lloadN d1_0 rfl rfl ?_
  refine r_lloadN d1_1 rfl rfl ?_
  refine r_lcmp d1_2 rfl ?_
  refine r_iflt (pc2 := 10) d1_3 rfl rfl (fun c1 => ?_) (fun c1 => ?_)
  · refine r_lloadN d1_10 rfl rfl ?_
    exact r_lreturn d1_11 rfl ⟨by rw [lmax]; simp [c1], rfl⟩ (by simp) (by decide) (by decide)
  · refine r_lloadN d1_6 rfl rfl ?_
    refine r_goto (pc' := 11) d1_7 rfl ?_
    exact r_lreturn d1_11 rfl ⟨by rw [lmax]; simp [c1], rfl⟩ (by simp) (by decide) (by decide)
set_option maxRecDepth 65536 in
set_option maxHeartbeats 40000000 in
theorem ok_min {l : Launch} {Z : State} {a0 : Array Value} (hw : ∀ d ∈ tables_1, d.before a0 Z = true) {n0 : Nat} (q1 q2 : Int64) {h0 : Heap} :
    Ok false l Z [] n0 [] (⟨"java/lang/Math", "min", "(JJ)J"⟩ : MethodName) jdk_29_method_70_code 4 (Option.some Jvm.ClassFile.FieldType.long) ({ frames := 0, cells := 0, slots := 0, locals := 0 } : Room) #[(.long q1), (.long q2)] h0 (fun v h => v = some (.long (lmin q1 q2)) ∧ h = h0) (fun _ => []) := by
  refine Ok.of_run (ls0 := #[.val (.long q1), .second, .val (.long q2), .second]) (Jvm.Free.JP.mathPlain rfl (by decide +kernel)) (fun m => by first | (simp [entryFrame, mkF, argsToLocals, Value.category]; done) | rfl) rfl ?_
  refine Run.old fun hO => ?_
  have hn0 : n0 ≤ h0.size := hO.1 ▸ hO.2.1
  refine r_lloadN d2_0 rfl rfl ?_
  refine r_lloadN d2_1 rfl rfl ?_
  refine r_lcmp d2_2 rfl ?_
  refine r_ifgt (pc2 := 10) d2_3 rfl rfl (fun c1 => ?_) (fun c1 => ?_)
  · refine r_lloadN d2_10 rfl rfl ?_
    exact r_lreturn d2_11 rfl ⟨by rw [lmin]; simp [c1], rfl⟩ (by simp) (by decide) (by decide)
  · refine r_lloadN d2_6 rfl rfl ?_
    refine r_goto (pc' := 11) d2_7 rfl ?_
    exact r_lreturn d2_11 rfl ⟨by rw [lmin]; simp [c1], rfl⟩ (by simp) (by decide) (by decide)
set_option maxRecDepth 65536 in
set_option maxHeartbeats 40000000 in
theorem ok_atl {l : Launch} {Z : State} {a0 : Array Value} (hw : ∀ d ∈ tables_1, d.before a0 Z = true) {n0 : Nat} (a : Addr) (q1 q2 : Int64) {h0 : Heap} (hge : ¬ lcmpW q1 q2 < 0) :
    Ok false l Z [] n0 [] (⟨"com/example/chunkwise/chunkwise/launch/Bounds", "atLeast", "(Ljava/lang/String;JJ)J"⟩ : MethodName) prog_87_method_2_code 5 (Option.some Jvm.ClassFile.FieldType.long) ({ frames := 0, cells := 0, slots := 0, locals := 0 } : Room) #[(.ref a), (.long q1), (.long q2)] h0 (fun v h => v = some (.long q1) ∧ h = h0) (fun _ => []) := by
  refine Ok.of_run (ls0 := #[.val (.ref a), .val (.long q1), .second, .val (.long q2), .second]) (plainFor_of_name (by first | (simp [plainName, overriddenIn]; done) | decide +kernel)) (fun m => by first | (simp [entryFrame, mkF, argsToLocals, Value.category]; done) | rfl) rfl ?_
  refine Run.old fun hO => ?_
  have hn0 : n0 ≤ h0.size := hO.1 ▸ hO.2.1
  refine r_lloadN d9_0 rfl rfl ?_
  refine r_lloadN d9_1 rfl rfl ?_
  refine r_lcmp d9_2 rfl ?_
  refine r_ifge (pc2 := 22) d9_3 rfl rfl (fun _ => ?_) (fun cc => absurd cc hge)
  refine r_lloadN d9_22 rfl rfl ?_
  exact r_lreturn d9_23 rfl ⟨rfl, rfl⟩ (by simp) (by decide) (by decide)
set_option maxRecDepth 65536 in
set_option maxHeartbeats 40000000 in
theorem ok_law {l : Launch} {Z : State} {a0 : Array Value} (hw : ∀ d ∈ tables_1, d.before a0 Z = true) {n0 : Nat} (q1 q2 : Int64) (p3 : Int32) {zC : Int32} {h0 : Heap} (SC : Sta Z Z.heap "java/lang/String" "COMPACT_STRINGS" "Z" (.int zC)) (nC : ¬ zC = 0) :
    Ok false l Z [] n0 [] (⟨"com/example/chunkwise/chunkwise/launch/BoundsAtLeastPinLaw", "law", "(JJI)Z"⟩ : MethodName) code maxLocals ret room_1 #[(.long q1), (.long q2), (.int p3)] h0 (fun v h => v = some (.int 1)) (fun _ => []) := by
  refine Ok.of_run (ls0 := #[.val (.long q1), .second, .val (.long q2), .second, .val (.int p3), .unset, .unset, .unset, .unset, .unset, .unset, .unset, .unset]) (plainFor_of_name (by first | (simp [plainName, overriddenIn]; done) | decide +kernel)) (fun m => by first | (simp [entryFrame, mkF, argsToLocals, Value.category, maxLocals]; done) | rfl) rfl ?_
  refine Run.old fun hO => ?_
  have hn0 : n0 ≤ h0.size := hO.1 ▸ hO.2.1
  refine r_lloadN at_0 rfl rfl ?_
  refine r_lloadN at_1 rfl rfl ?_
  refine r_static (y := (⟨"java/lang/Math", "max", "(JJ)J"⟩ : MethodName)) (argsL := [(.long q1), (.long q2)]) (rest := []) (W := 0) (kc := 0) (ks := 0) (wl := []) at_2 rfl (wd0 hw) (wd1 hw) (wd2 hw) (wd3 hw) (by decide) (lenOf pd_0 rfl) rfl rfl (Nat.le_of_ble_eq_true rfl) (Ok.pays (ok_max hw q1 q2) (wd3 hw) (wd2 hw) (by decide) (by decide)) (fun v h' q => q.2 ▸ Keep.refl _ _) all0 (by decide) (by decide) ?_
  rintro _ h1 ⟨rfl, rfl⟩
  refine Run.cast (st' := [(.long (lmax q1 q2))]) rfl ?_
  refine r_lstore (l' := #[.val (.long q1), .second, .val (.long q2), .second, .val (.int p3), .val (.long (lmax q1 q2)), .second, .unset, .unset, .unset, .unset, .unset, .unset]) at_5 rfl rfl rfl ?_
  refine r_lloadN at_7 rfl rfl ?_
  refine r_lloadN at_8 rfl rfl ?_
  refine r_static (y := (⟨"java/lang/Math", "min", "(JJ)J"⟩ : MethodName)) (argsL := [(.long q1), (.long q2)]) (rest := []) (W := 0) (kc := 0) (ks := 0) (wl := []) at_9 rfl (wd4 hw) (wd5 hw) (wd2 hw) (wd6 hw) (by decide) (lenOf pd_0 rfl) rfl rfl (Nat.le_of_ble_eq_true rfl) (Ok.pays (ok_min hw q1 q2) (wd6 hw) (wd2 hw) (by decide) (by decide)) (fun v h' q => q.2 ▸ Keep.refl _ _) all0 (by decide) (by decide) ?_
  rintro _ h2 ⟨rfl, rfl⟩
  refine Run.cast (st' := [(.long (lmin q1 q2))]) rfl ?_
  refine r_lstore (l' := #[.val (.long q1), .second, .val (.long q2), .second, .val (.int p3), .val (.long (lmax q1 q2)), .second, .val (.long (lmin q1 q2)), .second, .unset, .unset, .unset, .unset]) at_12 rfl rfl rfl ?_
  refine r_iconst (v := 2) at_14 rfl rfl ?_
  refine r_newP (cap := 2) (ad := "[C") at_15 rfl (wd7 hw) (by decide) (by decide) (by decide) (by decide) (by decide) (by decide) ?_
  intro h4 b3 k8 gb3 ltb3 E5 A6 K7
  have szh4 := E5.1
  have geb3 : n0 ≤ b3 := by omega
  have K9 : Arv Z h4 b3 k8 .char (2 : Int32) [(.int 0), (.int 0)] (.int 0) := Arv.pad K7 (pad_rep [] (.int 0) 2)
  refine r_astore (l' := #[.val (.long q1), .second, .val (.long q2), .second, .val (.int p3), .val (.long (lmax q1 q2)), .second, .val (.long (lmin q1 q2)), .second, .val (.ref b3), .unset, .unset, .unset]) at_17 rfl rfl rfl rfl ?_
  refine r_aload at_19 rfl rfl rfl ?_
  refine r_iconst (v := 0) at_21 rfl rfl ?_
  refine r_iload at_22 rfl rfl ?_
  refine r_sipush (v := 255) at_24 rfl rfl ?_
  refine r_iand at_27 rfl ?_
  refine r_i2c at_28 rfl ?_
  refine r_castore 0 at_29 rfl K9 ⟨by decide, by decide⟩ rfl (Nat.le_of_ble_eq_true rfl) geb3 ?_
  intro h10 W11 K12
  have szh10 := Wr.size W11
  have K13 : Arv Z h10 b3 k8 .char (2 : Int32) [(.int (nar .char ((p3 &&& (255 : Int32)).toUInt32.toUInt16.toUInt32.toInt32))), (.int 0)] (.int 0) := K12
  refine r_aload at_30 rfl rfl rfl ?_
  refine r_iconst (v := 1) at_32 rfl rfl ?_
  refine r_iload at_33 rfl rfl ?_
  refine r_bipush (v := 8) at_35 rfl rfl ?_
  refine r_iushr at_37 rfl ?_
  refine r_sipush (v := 255) at_38 rfl rfl ?_
  refine r_iand at_41 rfl ?_
  refine r_i2c at_42 rfl ?_
  refine r_castore 1 at_43 rfl K13 ⟨by decide, by decide⟩ rfl (Nat.le_of_ble_eq_true rfl) geb3 ?_
  intro h14 W15 K16
  have szh14 := Wr.size W15
  have K17 : Arv Z h14 b3 k8 .char (2 : Int32) [(.int (nar .char ((p3 &&& (255 : Int32)).toUInt32.toUInt16.toUInt32.toInt32))), (.int (nar .char ((((p3.toUInt32 >>> ((8 : Int32) &&& 31).toUInt32).toInt32) &&& (255 : Int32)).toUInt32.toUInt16.toUInt32.toInt32)))] (.int 0) := K16
  refine r_new at_44 rfl (wd8 hw) (wd9 hw) (wd10 hw) (by decide) (by decide) ?_
  intro h19 b18 gb18 ltb18 E20 A21 D22 U23
  have szh19 := E20.1
  have geb18 : n0 ≤ b18 := by omega
  have F24 : Fld Z h19 b18 "java/lang/String" "coder" "B" (.int (0 : Int32)) := D22 (Or.inr (wd34 hw)) (ty := .byte) (by decide)
  have F25 : Fld Z h19 b18 "java/lang/String" "value" "[B" .null := D22 (Or.inr (wd36 hw)) (ty := (.array .byte)) (by decide)
  refine r_dup at_47 rfl rfl ?_
  refine r_aload at_48 rfl rfl rfl ?_
  have K26 : Arv Z h19 b3 k8 .char (2 : Int32) [(.int (nar .char ((p3 &&& (255 : Int32)).toUInt32.toUInt16.toUInt32.toInt32))), (.int (nar .char ((((p3.toUInt32 >>> ((8 : Int32) &&& 31).toUInt32).toInt32) &&& (255 : Int32)).toUInt32.toUInt16.toUInt32.toInt32)))] (.int 0) := (K17.ext E20)
  have hp : ∀ c ∈ ([(nar .char ((p3 &&& (255 : Int32)).toUInt32.toUInt16.toUInt32.toInt32)), (nar .char ((((p3.toUInt32 >>> ((8 : Int32) &&& 31).toUInt32).toInt32) &&& (255 : Int32)).toUInt32.toUInt16.toUInt32.toInt32))] : List Int32), ¬ c < 0 ∧ ¬ (255 : Int32) < c := by
    intro c hc
    simp only [List.mem_cons, List.not_mem_nil, or_false] at hc
    rcases hc with rfl | rfl
    · exact and255_chars _
    · exact and255_chars _
  refine r_special (y := (⟨"java/lang/String", "<init>", "([C)V"⟩ : MethodName)) (argsL := [(.ref b3)]) (rest := [(.ref b18)]) (W := 1) (kc := 1) (ks := 2) (wl := [b18]) at_50 rfl rfl (wd11 hw) (wd12 hw) (wd13 hw) (by decide) (lenOf pd_1 rfl) rfl rfl (Nat.le_of_ble_eq_true rfl) (pays_init hw (cs := [(nar .char ((p3 &&& (255 : Int32)).toUInt32.toUInt16.toUInt32.toInt32)), (nar .char ((((p3.toUInt32 >>> ((8 : Int32) &&& 31).toUInt32).toInt32) &&& (255 : Int32)).toUInt32.toUInt16.toUInt32.toInt32))]) (n := 2) geb18 A21 F25 F24 K26 SC nC rfl rfl (by decide) (by decide) hp (by decide) (by decide)) (fun v h' q => q.2.1) (allS ⟨geb18, (Or.inl rfl)⟩ all0) (by decide) (by decide) ?_
  rintro _ h27 ⟨rfl, K1, E1, C1, t1, kb1, ht1, ht1', V1, B1⟩
  refine Run.cast (st' := [(.ref b18)]) rfl ?_
  refine r_astore (l' := #[.val (.long q1), .second, .val (.long q2), .second, .val (.int p3), .val (.long (lmax q1 q2)), .second, .val (.long (lmin q1 q2)), .second, .val (.ref b3), .val (.ref b18), .unset, .unset]) at_53 rfl rfl rfl rfl ?_
  refine r_aload at_55 rfl rfl rfl ?_
  refine r_lload at_57 rfl rfl ?_
  refine r_lload at_59 rfl rfl ?_
  refine r_static (y := (⟨"com/example/chunkwise/chunkwise/launch/Bounds", "atLeast", "(Ljava/lang/String;JJ)J"⟩ : MethodName)) (argsL := [(.ref b18), (.long (lmax q1 q2)), (.long (lmin q1 q2))]) (rest := []) (W := 0) (kc := 0) (ks := 0) (wl := []) at_61 rfl (wd37 hw) (wd38 hw) (wd39 hw) (wd40 hw) (by decide) (lenOf pd_2 rfl) rfl rfl (Nat.le_of_ble_eq_true rfl) (Ok.pays (ok_atl hw b18 _ _ (lmax_ge q1 q2)) (wd40 hw) (wd39 hw) (by decide) (by decide)) (fun v h' q => q.2 ▸ Keep.refl _ _) all0 (by decide) (by decide) ?_
  rintro _ h28 ⟨rfl, rfl⟩
  refine Run.cast (st' := [(.long (lmax q1 q2))]) rfl ?_
  refine r_lstore (l' := #[.val (.long q1), .second, .val (.long q2), .second, .val (.int p3), .val (.long (lmax q1 q2)), .second, .val (.long (lmin q1 q2)), .second, .val (.ref b3), .val (.ref b18), .val (.long (lmax q1 q2)), .second]) at_64 rfl rfl rfl ?_
  refine r_lload at_66 rfl rfl ?_
  refine r_lload at_68 rfl rfl ?_
  refine r_lcmp at_70 rfl ?_
  refine r_ifne (pc2 := 78) at_71 rfl rfl (fun cc => absurd (lcmp_self _) cc) (fun _ => ?_)
  refine r_iconst (v := 1) at_74 rfl rfl ?_
  refine r_goto (pc' := 79) at_75 rfl ?_
  exact r_ireturnN (t := .boolean) at_79 rfl (by simp) rfl (by simp) (by decide) (by decide)
set_option maxRecDepth 65536 in
set_option maxHeartbeats 40000000 in
theorem comes_1 {Post : Tables → Env → Array Value → State → Outcome → State → Prop} (hpost : ∀ tb e args s v u, (limb_1_1.after args s (.returned v) u = true ∧ limb_1_2.after args s (.returned v) u = true ∧ True) → FrameEnd s (.returned v) u (Jvm.fieldLocs frame_1_writes args s ++ Jvm.arrayLocs frame_1_arrays args s ++ Jvm.staticLocs frame_1_statics s) 16 128 → Post tb e args s (.returned v) u) :
    ArmFor flags0 classFile x code maxLocals ret World_1 tables_1 room_1 Calls_1 rest_1 Pre_1 Post := by
  intro l hfl _ _ p e ha hc hk s m args below hf hA hF happ hP
  obtain ⟨hcalls, hrest, hpre⟩ := hP
  obtain ⟨-, -, -, hnamed, -, -, -, hat⟩ := (Spec.applies_iff hf).mp happ
  obtain ⟨hg, hn⟩ := and_e (Cond.before_iff.mp (show (Jvm.Cond.and given_1 narrow_1).before args s = true from hpre))
  obtain ⟨gc, gr0⟩ := and_e hg
  obtain ⟨ga0, gr1⟩ := and_e gr0
  obtain ⟨ga1, gr2⟩ := and_e gr1
  obtain ⟨w0, w1, w2, rfl⟩ : ∃ w0 w1 w2 : Value, args = #[w0, w1, w2] := by
    have hs : args.size = 3 := by simpa [Cond.value, given_1] using gc
    obtain ⟨L⟩ := args
    match L, hs with
    | [w0, w1, w2], _ => exact ⟨w0, w1, w2, rfl⟩
  have hw := fun d (hd : d ∈ tables_1) => atoms_spec (ws := Jvm.Cond.code x code maxLocals ret :: tables_1) hat d (List.mem_cons_of_mem _ hd)
  have hfit : Fit s := fun {y c} hc i hi => by
    obtain ⟨ha, rfl⟩ := Array.getElem?_eq_some_iff.mp hc
    have q := List.all_eq_true.mp ((Array.all_eq_true_iff_forall_mem.mp hF) _ (Array.getElem_mem ha)) i (List.mem_range.mpr hi)
    simpa [Array.getElem?_eq_getElem hi] using q
  obtain ⟨hsets, hown0⟩ := atoms_of _ (rest_1_c_eq ▸ (show rest_1_c.before _ s = true from hrest))
  obtain ⟨i0, ei0⟩ := isL_v ga0
  obtain rfl : w0 = (.long i0) := Option.some.inj ei0
  obtain ⟨i1, ei1⟩ := isL_v ga1
  obtain rfl : w1 = (.long i1) := Option.some.inj ei1
  obtain ⟨i2, ei2⟩ := is_v gr2
  obtain rfl : w2 = (.int i2) := Option.some.inj ei2
  have n5 := not_v (Cond.before_iff.mp (hsets _ (List.mem_of_getElem? (i := 2) rfl)))
  obtain ⟨zC, eC⟩ := is_v (Cond.before_iff.mp (hsets _ (List.mem_of_getElem? (i := 1) rfl)))
  have SC : Sta s s.heap "java/lang/String" "COMPACT_STRINGS" "Z" (.int zC) := Sta.start eC (Or.inl (hsets _ (List.mem_of_getElem? (i := 0) rfl)))
  have nC : ¬ (zC = (0 : Int32)) := gotF (Cond.eq_ints eC (Term.int_eval (0))) n5
  obtain ⟨n, o, h1, h2, h3, v, L, rfl, rfl, N, hE⟩ := (ok_law hw i0 i1 i2 SC nC) tables_1 p e ha hc hk s m _ below hf ((Spec.applies_iff_loose hf).mp happ).1 ⟨rfl, State.Warmed39.refl s, rfl, Old.start s, fun q => by cases q⟩ trivial
  have hq := hE.1 rfl
  exact ⟨n, _, h1, h2, h3, hpost _ _ _ _ _ _ ⟨Cond.after_iff.mpr rfl, Cond.after_iff.mpr (eq_i res_at (Term.int_eval (1)) rfl), trivial⟩ ⟨hq.1, hq.2.1, (hq.2.2.sift fun y hy => Or.inr (N y hy)).mono (by decide) (by decide)⟩⟩
theorem main_1_1 : Claimed_1_1 := comes_1 fun _ _ _ _ _ _ h hF => ⟨h.1, hF⟩
theorem main_1_2 : Claimed_1_2 := comes_1 fun _ _ _ _ _ _ h hF => ⟨h.2.1, hF⟩
end Jvm.Pilot.@@N@@
namespace Jvm.Pilot.@@N@@
open Jvm Jvm.ClassFile Sem Op Lib Jvm.Free Jvm.Stand Jvm.Pilot.@@N@@.Jvm.D
/-! MADE BY PROGRAM (witnessworld.py) out of the Statement's table words and the real class files: 21 classes; the members and pool entries that the words name. The judged class is class 1, her method 1. -/
namespace start1
open Jvm.ClassFile
def u (s : String) : CpInfo := .utf8 (stringToUtf16 s)
/-- a pool by its gaps: so many unusable entries, then the entry; so many at the end -/
def gap : Nat → List CpInfo → List CpInfo
  | 0, r => r
  | n + 1, r => .unusable :: gap n r
def poolList (es : List (Nat × CpInfo)) (last : Nat) : List CpInfo := es.foldr (fun e r => gap e.1 (e.2 :: r)) (gap last [])
def pool (es : List (Nat × CpInfo)) (last : Nat) : Array CpInfo := ⟨poolList es last⟩
def fileOf (pool : Array CpInfo) (this : Nat) (attrs : Array Attribute := #[]) (ms : Array MethodInfo := #[]) (fl : Nat := 33) (sup : Nat := 0) (ifs : Array Nat := #[]) (fds : Array FieldInfo := #[]) : ClassFile where
  minorVersion := 0
  majorVersion := 65
  constantPool := pool
  accessFlags := fl
  thisClass := this
  superClass := sup
  interfaces := ifs
  fields := fds
  methods := ms
  attributes := attrs
def plain (name : String) (sup : Option ClassId) : Class where
  name := name
  kind := .ordinary
  loader := none
  accessFlags := 33
  super := sup
  interfaces := #[]
  cf := none
  fields := #[]
  methods := #[]
  instanceTypes := #[]
  staticTypes := #[]
  resolved := #[]
  callSites := []
  init := .initialized
  statics := none
  mirror := none

def pool0 : Array CpInfo := pool [(5, u "<init>"), (0, u "()V"), (1, .class_ 10), (1, u "java/lang/Object")] 113

def k0c0 : Code := { maxStack := 0, maxLocals := 1, code := object_method_1_code, exceptionTable := #[], attributes := #[] }
def k0m0 : Method := { name := "<init>", desc := "()V", sig := { parameters := [], returnType := none }, accessFlags := 1, code := some k0c0 }
/-- java/lang/Object -/
def k0 : Class := { plain "java/lang/Object" none with
  accessFlags := 33
  interfaces := #[]
  cf := some (fileOf pool0 8 #[] #[{ accessFlags := 1, nameIndex := 5, descriptorIndex := 6, attributes := #[] }] 33 0 #[] #[])
  fields := #[]
  methods := #[k0m0]
  instanceTypes := #[]
  staticTypes := #[]
  resolved := Array.replicate 124 none
  statics := none }

def pool1 : Array CpInfo := pool [(2, .class_ 4), (1, u "java/lang/Object"), (0, u "<init>"), (0, u "()V"), (0, .methodref 8 9), (0, .class_ 10), (0, .nameAndType 11 12), (0, u "java/lang/Math"), (0, u "max"), (0, u "(JJ)J"), (0, .methodref 8 14), (0, .nameAndType 15 12), (0, u "min"), (0, .class_ 17), (0, u "java/lang/String"), (0, .methodref 16 19), (0, .nameAndType 5 20), (0, u "([C)V"), (0, .methodref 22 23), (0, .class_ 24), (0, .nameAndType 25 26), (0, u "com/example/chunkwise/chunkwise/launch/Bounds"), (0, u "atLeast"), (0, u "(Ljava/lang/String;JJ)J"), (0, .class_ 28), (0, u "com/example/chunkwise/chunkwise/launch/BoundsAtLeastPinLaw"), (2, u "law"), (0, u "(JJI)Z")] 5

def k1m0 : Method := { name := "<init>", desc := "()V", sig := { parameters := [], returnType := none }, accessFlags := 2, code := none }
def k1c1 : Code := { maxStack := 5, maxLocals := 13, code := code, exceptionTable := #[], attributes := #[] }
def k1m1 : Method := { name := "law", desc := "(JJI)Z", sig := { parameters := [.long, .long, .int], returnType := some .boolean }, accessFlags := 9, code := some k1c1 }
/-- com/example/chunkwise/chunkwise/launch/BoundsAtLeastPinLaw -/
def k1 : Class := { plain "com/example/chunkwise/chunkwise/launch/BoundsAtLeastPinLaw" (some 0) with
  accessFlags := 49
  interfaces := #[]
  cf := some (fileOf pool1 27 #[] #[{ accessFlags := 2, nameIndex := 5, descriptorIndex := 6, attributes := #[] }, { accessFlags := 9, nameIndex := 31, descriptorIndex := 32, attributes := #[] }] 49 2 #[] #[])
  fields := #[]
  methods := #[k1m0, k1m1]
  instanceTypes := #[]
  staticTypes := #[]
  resolved := Array.replicate 38 none
  statics := none }

def pool2 : Array CpInfo := pool [(1, .class_ 2), (0, u "java/lang/Math"), (1, .class_ 6), (1, u "java/lang/Object"), (0, u "<init>"), (0, u "()V"), (89, .class_ 100), (1, u "java/lang/Math$RandomNumberGeneratorHolder"), (20, u "(JJ)J"), (50, u "negativeZeroFloatBits"), (0, u "J"), (2, u "negativeZeroDoubleBits"), (21, u "max"), (2, u "min"), (43, u "$assertionsDisabled"), (0, u "Z"), (91, u "twoToTheDoubleScaleDown"), (0, u "D"), (4, u "twoToTheDoubleScaleUp"), (9, u "E"), (3, u "PI"), (2, u "TAU"), (2, u "DEGREES_TO_RADIANS"), (0, u "RADIANS_TO_DEGREES")] 94

def k2m0 : Method := { name := "<init>", desc := "()V", sig := { parameters := [], returnType := none }, accessFlags := 2, code := none }
def k2c1 : Code := { maxStack := 4, maxLocals := 4, code := jdk_29_method_66_code, exceptionTable := #[], attributes := #[] }
def k2m1 : Method := { name := "max", desc := "(JJ)J", sig := { parameters := [.long, .long], returnType := some .long }, accessFlags := 9, code := some k2c1 }
def k2c2 : Code := { maxStack := 4, maxLocals := 4, code := jdk_29_method_70_code, exceptionTable := #[], attributes := #[] }
def k2m2 : Method := { name := "min", desc := "(JJ)J", sig := { parameters := [.long, .long], returnType := some .long }, accessFlags := 9, code := some k2c2 }
/-- java/lang/Math -/
def k2 : Class := { plain "java/lang/Math" (some 0) with
  accessFlags := 49
  interfaces := #[]
  cf := some (fileOf pool2 1 #[.nestMembers #[98]] #[{ accessFlags := 2, nameIndex := 7, descriptorIndex := 8, attributes := #[] }, { accessFlags := 9, nameIndex := 198, descriptorIndex := 121, attributes := #[] }, { accessFlags := 9, nameIndex := 201, descriptorIndex := 121, attributes := #[] }] 49 4 #[] #[{ accessFlags := 25, nameIndex := 354, descriptorIndex := 339, attributes := #[] }, { accessFlags := 25, nameIndex := 358, descriptorIndex := 339, attributes := #[] }, { accessFlags := 25, nameIndex := 361, descriptorIndex := 339, attributes := #[] }, { accessFlags := 26, nameIndex := 364, descriptorIndex := 339, attributes := #[] }, { accessFlags := 26, nameIndex := 365, descriptorIndex := 339, attributes := #[] }, { accessFlags := 26, nameIndex := 172, descriptorIndex := 173, attributes := #[] }, { accessFlags := 26, nameIndex := 176, descriptorIndex := 173, attributes := #[] }, { accessFlags := 8, nameIndex := 344, descriptorIndex := 339, attributes := #[] }, { accessFlags := 8, nameIndex := 338, descriptorIndex := 339, attributes := #[] }, { accessFlags := 4120, nameIndex := 245, descriptorIndex := 246, attributes := #[] }])
  fields := #[{ name := "E", type := .double, accessFlags := 25, slot := 0, constantValue := 0 }, { name := "PI", type := .double, accessFlags := 25, slot := 1, constantValue := 0 }, { name := "TAU", type := .double, accessFlags := 25, slot := 2, constantValue := 0 }, { name := "DEGREES_TO_RADIANS", type := .double, accessFlags := 26, slot := 3, constantValue := 0 }, { name := "RADIANS_TO_DEGREES", type := .double, accessFlags := 26, slot := 4, constantValue := 0 }, { name := "negativeZeroFloatBits", type := .long, accessFlags := 26, slot := 5, constantValue := 0 }, { name := "negativeZeroDoubleBits", type := .long, accessFlags := 26, slot := 6, constantValue := 0 }, { name := "twoToTheDoubleScaleUp", type := .double, accessFlags := 8, slot := 7, constantValue := 0 }, { name := "twoToTheDoubleScaleDown", type := .double, accessFlags := 8, slot := 8, constantValue := 0 }, { name := "$assertionsDisabled", type := .boolean, accessFlags := 4120, slot := 9, constantValue := 0 }]
  methods := #[k2m0, k2m1, k2m2]
  instanceTypes := #[]
  staticTypes := #[.double, .double, .double, .double, .double, .long, .long, .double, .double, .boolean]
  resolved := Array.replicate 460 none
  statics := none }

def pool3 : Array CpInfo := pool [(1, .class_ 2), (0, u "java/io/Serializable"), (0, .class_ 4), (0, u "java/lang/Object")] 2

/-- java/io/Serializable -/
def k3 : Class := { plain "java/io/Serializable" (some 0) with
  accessFlags := 1537
  interfaces := #[]
  cf := some (fileOf pool3 1 #[] #[] 1537 3 #[] #[])
  fields := #[]
  methods := #[]
  instanceTypes := #[]
  staticTypes := #[]
  resolved := Array.replicate 7 none
  statics := none }

def pool4 : Array CpInfo := pool [(1, .class_ 2), (0, u "java/lang/Comparable"), (0, .class_ 4), (0, u "java/lang/Object")] 7

/-- java/lang/Comparable -/
def k4 : Class := { plain "java/lang/Comparable" (some 0) with
  accessFlags := 1537
  interfaces := #[]
  cf := some (fileOf pool4 1 #[] #[] 1537 3 #[] #[])
  fields := #[]
  methods := #[]
  instanceTypes := #[]
  staticTypes := #[]
  resolved := Array.replicate 12 none
  statics := none }

def pool5 : Array CpInfo := pool [(2, .class_ 4), (1, u "java/lang/CharSequence"), (42, .class_ 48), (0, u "java/lang/CharSequence$1CodePointIterator"), (10, .class_ 60), (0, u "java/lang/CharSequence$1CharIterator"), (5, .class_ 67), (0, u "java/lang/Object")] 63

/-- java/lang/CharSequence -/
def k5 : Class := { plain "java/lang/CharSequence" (some 0) with
  accessFlags := 1537
  interfaces := #[]
  cf := some (fileOf pool5 2 #[.nestMembers #[47, 59]] #[] 1537 66 #[] #[])
  fields := #[]
  methods := #[]
  instanceTypes := #[]
  staticTypes := #[]
  resolved := Array.replicate 131 none
  statics := none }

def pool6 : Array CpInfo := pool [(1, .class_ 2), (0, u "java/lang/constant/Constable"), (0, .class_ 4), (0, u "java/lang/Object")] 6

/-- java/lang/constant/Constable -/
def k6 : Class := { plain "java/lang/constant/Constable" (some 0) with
  accessFlags := 1537
  interfaces := #[]
  cf := some (fileOf pool6 1 #[] #[] 1537 3 #[] #[])
  fields := #[]
  methods := #[]
  instanceTypes := #[]
  staticTypes := #[]
  resolved := Array.replicate 11 none
  statics := none }

def pool7 : Array CpInfo := pool [(1, .class_ 2), (0, u "java/lang/constant/ConstantDesc"), (0, .class_ 4), (0, u "java/lang/Object")] 32

/-- java/lang/constant/ConstantDesc -/
def k7 : Class := { plain "java/lang/constant/ConstantDesc" (some 0) with
  accessFlags := 1537
  interfaces := #[]
  cf := some (fileOf pool7 1 #[] #[] 1537 3 #[] #[])
  fields := #[]
  methods := #[]
  instanceTypes := #[]
  staticTypes := #[]
  resolved := Array.replicate 37 none
  statics := none }

def pool8 : Array CpInfo := pool [(1, .methodref 2 3), (0, .class_ 4), (0, .nameAndType 5 6), (0, u "java/lang/Object"), (0, u "<init>"), (0, u "()V"), (2, .fieldref 10 11), (0, .class_ 12), (0, .nameAndType 13 14), (0, u "java/lang/String"), (0, u "value"), (0, u "[B"), (0, .fieldref 10 16), (0, .nameAndType 17 18), (0, u "coder"), (0, u "B"), (2, u "hash"), (0, u "I"), (2, u "hashIsZero"), (0, u "Z"), (0, .methodref 10 28), (0, .nameAndType 5 29), (0, u "([CIILjava/lang/Void;)V"), (8, .fieldref 10 39), (0, .nameAndType 40 26), (0, u "COMPACT_STRINGS"), (1, .class_ 44), (1, u "java/lang/StringUTF16"), (0, u "compress"), (1, .methodref 42 48), (0, .nameAndType 49 50), (0, u "coderFromArrayLen"), (0, u "([BI)B"), (126, .methodref 42 178), (0, .nameAndType 45 179), (0, u "([CII)[B"), (395, .class_ 576), (0, u "java/lang/CharSequence"), (22, u "CASE_INSENSITIVE_ORDER"), (0, u "Ljava/util/Comparator;"), (409, u "([C)V"), (90, u "serialPersistentFields"), (0, u "[Ljava/io/ObjectStreamField;"), (0, .class_ 1104), (0, u "java/lang/String$CaseInsensitiveComparator"), (1, .class_ 1107), (0, u "java/io/Serializable"), (0, .class_ 1109), (0, u "java/lang/Comparable"), (0, .class_ 1111), (0, u "java/lang/constant/Constable"), (0, .class_ 1113), (0, u "java/lang/constant/ConstantDesc"), (2, u "serialVersionUID"), (0, u "J"), (3, u "REPL"), (0, u "C"), (2, u "LATIN1"), (1, u "UTF16")] 323

def k8m0 : Method := { name := "<init>", desc := "()V", sig := { parameters := [], returnType := none }, accessFlags := 1, code := none }
def k8c1 : Code := { maxStack := 5, maxLocals := 2, code := jdk_42_method_3_code, exceptionTable := #[], attributes := #[] }
def k8m1 : Method := { name := "<init>", desc := "([C)V", sig := { parameters := [(.array .char)], returnType := none }, accessFlags := 1, code := some k8c1 }
def k8c2 : Code := { maxStack := 4, maxLocals := 6, code := jdk_42_method_149_code, exceptionTable := #[], attributes := #[] }
def k8m2 : Method := { name := "<init>", desc := "([CIILjava/lang/Void;)V", sig := { parameters := [(.array .char), .int, .int, (.object "java/lang/Void")], returnType := none }, accessFlags := 2, code := some k8c2 }
/-- java/lang/String -/
def k8 : Class := { plain "java/lang/String" (some 0) with
  accessFlags := 49
  interfaces := #[3, 4, 5, 6, 7]
  cf := some (fileOf pool8 10 #[.nestMembers #[1103]] #[{ accessFlags := 1, nameIndex := 5, descriptorIndex := 6, attributes := #[] }, { accessFlags := 1, nameIndex := 5, descriptorIndex := 1010, attributes := #[] }, { accessFlags := 2, nameIndex := 5, descriptorIndex := 29, attributes := #[] }] 49 2 #[1106, 1108, 575, 1110, 1112] #[{ accessFlags := 18, nameIndex := 13, descriptorIndex := 14, attributes := #[] }, { accessFlags := 18, nameIndex := 17, descriptorIndex := 18, attributes := #[] }, { accessFlags := 2, nameIndex := 21, descriptorIndex := 22, attributes := #[] }, { accessFlags := 2, nameIndex := 25, descriptorIndex := 26, attributes := #[] }, { accessFlags := 26, nameIndex := 1116, descriptorIndex := 1117, attributes := #[] }, { accessFlags := 24, nameIndex := 40, descriptorIndex := 26, attributes := #[] }, { accessFlags := 26, nameIndex := 1101, descriptorIndex := 1102, attributes := #[] }, { accessFlags := 26, nameIndex := 1121, descriptorIndex := 1122, attributes := #[] }, { accessFlags := 25, nameIndex := 599, descriptorIndex := 600, attributes := #[] }, { accessFlags := 24, nameIndex := 1125, descriptorIndex := 18, attributes := #[] }, { accessFlags := 24, nameIndex := 1127, descriptorIndex := 18, attributes := #[] }])
  fields := #[{ name := "value", type := (.array .byte), accessFlags := 18, slot := 0, constantValue := 0 }, { name := "coder", type := .byte, accessFlags := 18, slot := 1, constantValue := 0 }, { name := "hash", type := .int, accessFlags := 2, slot := 2, constantValue := 0 }, { name := "hashIsZero", type := .boolean, accessFlags := 2, slot := 3, constantValue := 0 }, { name := "serialVersionUID", type := .long, accessFlags := 26, slot := 0, constantValue := 0 }, { name := "COMPACT_STRINGS", type := .boolean, accessFlags := 24, slot := 1, constantValue := 0 }, { name := "serialPersistentFields", type := (.array (.object "java/io/ObjectStreamField")), accessFlags := 26, slot := 2, constantValue := 0 }, { name := "REPL", type := .char, accessFlags := 26, slot := 3, constantValue := 0 }, { name := "CASE_INSENSITIVE_ORDER", type := (.object "java/util/Comparator"), accessFlags := 25, slot := 4, constantValue := 0 }, { name := "LATIN1", type := .byte, accessFlags := 24, slot := 5, constantValue := 0 }, { name := "UTF16", type := .byte, accessFlags := 24, slot := 6, constantValue := 0 }]
  methods := #[k8m0, k8m1, k8m2]
  instanceTypes := #[(.array .byte), .byte, .int, .boolean]
  staticTypes := #[.long, .boolean, (.array (.object "java/io/ObjectStreamField")), .char, (.object "java/util/Comparator"), .byte, .byte]
  resolved := Array.replicate 1451 none
  statics := some 0 }

def pool9 : Array CpInfo := pool [(6, .class_ 8), (1, u "java/lang/Object"), (0, u "<init>"), (0, u "()V"), (1, .class_ 14), (1, u "java/lang/StringUTF16"), (31, u "$assertionsDisabled"), (0, u "Z"), (13, u "HI_BYTE_SHIFT"), (0, u "I"), (2, u "LO_BYTE_SHIFT"), (49, .methodref 12 116), (0, .nameAndType 117 118), (0, u "compress"), (0, u "([CI[BII)I"), (3, u "([CII)[B"), (138, u "coderFromArrayLen"), (0, u "([BI)B"), (106, .class_ 371), (1, u "java/lang/StringUTF16$LinesSpliterator"), (58, u "MAX_LENGTH"), (196, .class_ 628), (0, u "java/lang/StringUTF16$CodePointsSpliterator"), (0, .class_ 630), (0, u "java/lang/StringUTF16$CharsSpliterator")] 4

def k9m0 : Method := { name := "<init>", desc := "()V", sig := { parameters := [], returnType := none }, accessFlags := 0, code := none }
def k9c1 : Code := { maxStack := 2, maxLocals := 2, code := jdk_52_method_15_code, exceptionTable := #[], attributes := #[] }
def k9m1 : Method := { name := "coderFromArrayLen", desc := "([BI)B", sig := { parameters := [(.array .byte), .int], returnType := some .byte }, accessFlags := 8, code := some k9c1 }
def k9c2 : Code := { maxStack := 5, maxLocals := 6, code := jdk_52_method_16_code, exceptionTable := #[], attributes := #[] }
def k9m2 : Method := { name := "compress", desc := "([CII)[B", sig := { parameters := [(.array .char), .int, .int], returnType := some (.array .byte) }, accessFlags := 9, code := some k9c2 }
def k9c3 : Code := { maxStack := 3, maxLocals := 7, code := jdk_52_method_21_code, exceptionTable := #[], attributes := #[] }
def k9m3 : Method := { name := "compress", desc := "([CI[BII)I", sig := { parameters := [(.array .char), .int, (.array .byte), .int, .int], returnType := some .int }, accessFlags := 9, code := some k9c3 }
/-- java/lang/StringUTF16 -/
def k9 : Class := { plain "java/lang/StringUTF16" (some 0) with
  accessFlags := 48
  interfaces := #[]
  cf := some (fileOf pool9 12 #[.nestMembers #[627, 629, 369]] #[{ accessFlags := 0, nameIndex := 9, descriptorIndex := 10, attributes := #[] }, { accessFlags := 8, nameIndex := 261, descriptorIndex := 262, attributes := #[] }, { accessFlags := 9, nameIndex := 117, descriptorIndex := 122, attributes := #[] }, { accessFlags := 9, nameIndex := 117, descriptorIndex := 118, attributes := #[] }] 48 6 #[] #[{ accessFlags := 26, nameIndex := 61, descriptorIndex := 62, attributes := #[] }, { accessFlags := 26, nameIndex := 65, descriptorIndex := 62, attributes := #[] }, { accessFlags := 24, nameIndex := 430, descriptorIndex := 62, attributes := #[] }, { accessFlags := 4120, nameIndex := 46, descriptorIndex := 47, attributes := #[] }])
  fields := #[{ name := "HI_BYTE_SHIFT", type := .int, accessFlags := 26, slot := 0, constantValue := 0 }, { name := "LO_BYTE_SHIFT", type := .int, accessFlags := 26, slot := 1, constantValue := 0 }, { name := "MAX_LENGTH", type := .int, accessFlags := 24, slot := 2, constantValue := 0 }, { name := "$assertionsDisabled", type := .boolean, accessFlags := 4120, slot := 3, constantValue := 0 }]
  methods := #[k9m0, k9m1, k9m2, k9m3]
  instanceTypes := #[]
  staticTypes := #[.int, .int, .int, .boolean]
  resolved := Array.replicate 635 none
  statics := none }

def pool10 : Array CpInfo := pool [(2, .class_ 4), (1, u "java/lang/Object"), (0, u "<init>"), (0, u "()V"), (9, .class_ 17), (0, u "com/example/chunkwise/chunkwise/launch/Bounds"), (2, u "atLeast"), (0, u "(Ljava/lang/String;JJ)J")] 18

def k10m0 : Method := { name := "<init>", desc := "()V", sig := { parameters := [], returnType := none }, accessFlags := 2, code := none }
def k10c1 : Code := { maxStack := 7, maxLocals := 5, code := prog_87_method_2_code, exceptionTable := #[], attributes := #[] }
def k10m1 : Method := { name := "atLeast", desc := "(Ljava/lang/String;JJ)J", sig := { parameters := [(.object "java/lang/String"), .long, .long], returnType := some .long }, accessFlags := 8, code := some k10c1 }
/-- com/example/chunkwise/chunkwise/launch/Bounds -/
def k10 : Class := { plain "com/example/chunkwise/chunkwise/launch/Bounds" (some 0) with
  accessFlags := 48
  interfaces := #[]
  cf := some (fileOf pool10 16 #[] #[{ accessFlags := 2, nameIndex := 5, descriptorIndex := 6, attributes := #[] }, { accessFlags := 8, nameIndex := 20, descriptorIndex := 21, attributes := #[] }] 48 2 #[] #[])
  fields := #[]
  methods := #[k10m0, k10m1]
  instanceTypes := #[]
  staticTypes := #[]
  resolved := Array.replicate 40 none
  statics := none }

def pool11 : Array CpInfo := pool [(4, .class_ 6), (1, u "java/lang/Object"), (0, u "<init>"), (0, u "()V"), (5, .class_ 16), (1, u "java/lang/StringLatin1"), (104, u "$assertionsDisabled"), (0, u "Z"), (98, .class_ 223), (1, u "java/lang/StringLatin1$LinesSpliterator"), (166, .class_ 391), (0, u "java/lang/StringLatin1$CharsSpliterator")] 3

def k11m0 : Method := { name := "<init>", desc := "()V", sig := { parameters := [], returnType := none }, accessFlags := 0, code := none }
/-- java/lang/StringLatin1 -/
def k11 : Class := { plain "java/lang/StringLatin1" (some 0) with
  accessFlags := 48
  interfaces := #[]
  cf := some (fileOf pool11 14 #[.nestMembers #[390, 221]] #[{ accessFlags := 0, nameIndex := 7, descriptorIndex := 8, attributes := #[] }] 48 4 #[] #[{ accessFlags := 4120, nameIndex := 121, descriptorIndex := 122, attributes := #[] }])
  fields := #[{ name := "$assertionsDisabled", type := .boolean, accessFlags := 4120, slot := 0, constantValue := 0 }]
  methods := #[k11m0]
  instanceTypes := #[]
  staticTypes := #[.boolean]
  resolved := Array.replicate 395 none
  statics := none }

def pool12 : Array CpInfo := pool [(2, .class_ 4), (1, u "java/lang/Object"), (0, u "<init>"), (0, u "()V"), (17, .class_ 26), (1, u "jdk/internal/util/Preconditions"), (28, .class_ 56), (0, u "jdk/internal/util/Preconditions$4"), (57, .class_ 115), (0, u "jdk/internal/util/Preconditions$1"), (7, u "SIOOBE_FORMATTER"), (0, u "Ljava/util/function/BiFunction;"), (0, .class_ 126), (0, u "jdk/internal/util/Preconditions$2"), (3, u "AIOOBE_FORMATTER"), (0, .class_ 132), (0, u "jdk/internal/util/Preconditions$3"), (3, u "IOOBE_FORMATTER")] 57

def k12m0 : Method := { name := "<init>", desc := "()V", sig := { parameters := [], returnType := none }, accessFlags := 1, code := none }
/-- jdk/internal/util/Preconditions -/
def k12 : Class := { plain "jdk/internal/util/Preconditions" (some 0) with
  accessFlags := 33
  interfaces := #[]
  cf := some (fileOf pool12 24 #[.nestMembers #[55, 131, 125, 114]] #[{ accessFlags := 1, nameIndex := 5, descriptorIndex := 6, attributes := #[] }] 33 2 #[] #[{ accessFlags := 25, nameIndex := 123, descriptorIndex := 124, attributes := #[] }, { accessFlags := 25, nameIndex := 130, descriptorIndex := 124, attributes := #[] }, { accessFlags := 25, nameIndex := 136, descriptorIndex := 124, attributes := #[] }])
  fields := #[{ name := "SIOOBE_FORMATTER", type := (.object "java/util/function/BiFunction"), accessFlags := 25, slot := 0, constantValue := 0 }, { name := "AIOOBE_FORMATTER", type := (.object "java/util/function/BiFunction"), accessFlags := 25, slot := 1, constantValue := 0 }, { name := "IOOBE_FORMATTER", type := (.object "java/util/function/BiFunction"), accessFlags := 25, slot := 2, constantValue := 0 }]
  methods := #[k12m0]
  instanceTypes := #[]
  staticTypes := #[(.object "java/util/function/BiFunction"), (.object "java/util/function/BiFunction"), (.object "java/util/function/BiFunction")]
  resolved := Array.replicate 194 none
  statics := some 1 }

def pool13 : Array CpInfo := pool [(9, u "<init>"), (6, .class_ 18), (1, u "java/lang/Object"), (0, u "()V"), (1, .class_ 23), (1, u "jdk/internal/util/ArraysSupport"), (0, u "LOG2_ARRAY_LONG_INDEX_SCALE"), (0, u "I"), (2, u "U"), (0, u "Ljdk/internal/misc/Unsafe;"), (8, u "BIG_ENDIAN"), (0, u "Z"), (8, u "LOG2_BYTE_BIT_SIZE"), (4, u "LOG2_ARRAY_INT_INDEX_SCALE"), (54, u "JLA"), (0, u "Ljdk/internal/access/JavaLangAccess;"), (11, u "LOG2_ARRAY_BOOLEAN_INDEX_SCALE"), (9, u "LOG2_ARRAY_BYTE_INDEX_SCALE"), (5, u "LOG2_ARRAY_CHAR_INDEX_SCALE"), (5, u "LOG2_ARRAY_SHORT_INDEX_SCALE"), (18, u "LOG2_ARRAY_FLOAT_INDEX_SCALE"), (24, u "LOG2_ARRAY_DOUBLE_INDEX_SCALE"), (89, u "T_BOOLEAN"), (2, u "T_CHAR"), (1, u "T_FLOAT"), (1, u "T_DOUBLE"), (1, u "T_BYTE"), (1, u "T_SHORT"), (1, u "T_INT"), (1, u "T_LONG"), (1, u "SOFT_MAX_ARRAY_LENGTH")] 83

def k13m0 : Method := { name := "<init>", desc := "()V", sig := { parameters := [], returnType := none }, accessFlags := 2, code := none }
/-- jdk/internal/util/ArraysSupport -/
def k13 : Class := { plain "jdk/internal/util/ArraysSupport" (some 0) with
  accessFlags := 33
  interfaces := #[]
  cf := some (fileOf pool13 21 #[] #[{ accessFlags := 2, nameIndex := 9, descriptorIndex := 19, attributes := #[] }] 33 16 #[] #[{ accessFlags := 24, nameIndex := 28, descriptorIndex := 29, attributes := #[] }, { accessFlags := 26, nameIndex := 38, descriptorIndex := 39, attributes := #[] }, { accessFlags := 25, nameIndex := 121, descriptorIndex := 25, attributes := #[] }, { accessFlags := 25, nameIndex := 131, descriptorIndex := 25, attributes := #[] }, { accessFlags := 25, nameIndex := 137, descriptorIndex := 25, attributes := #[] }, { accessFlags := 25, nameIndex := 143, descriptorIndex := 25, attributes := #[] }, { accessFlags := 25, nameIndex := 53, descriptorIndex := 25, attributes := #[] }, { accessFlags := 25, nameIndex := 24, descriptorIndex := 25, attributes := #[] }, { accessFlags := 25, nameIndex := 162, descriptorIndex := 25, attributes := #[] }, { accessFlags := 25, nameIndex := 187, descriptorIndex := 25, attributes := #[] }, { accessFlags := 26, nameIndex := 48, descriptorIndex := 25, attributes := #[] }, { accessFlags := 25, nameIndex := 277, descriptorIndex := 25, attributes := #[] }, { accessFlags := 25, nameIndex := 280, descriptorIndex := 25, attributes := #[] }, { accessFlags := 25, nameIndex := 282, descriptorIndex := 25, attributes := #[] }, { accessFlags := 25, nameIndex := 284, descriptorIndex := 25, attributes := #[] }, { accessFlags := 25, nameIndex := 286, descriptorIndex := 25, attributes := #[] }, { accessFlags := 25, nameIndex := 288, descriptorIndex := 25, attributes := #[] }, { accessFlags := 25, nameIndex := 290, descriptorIndex := 25, attributes := #[] }, { accessFlags := 25, nameIndex := 292, descriptorIndex := 25, attributes := #[] }, { accessFlags := 26, nameIndex := 108, descriptorIndex := 109, attributes := #[] }, { accessFlags := 25, nameIndex := 294, descriptorIndex := 25, attributes := #[] }])
  fields := #[{ name := "U", type := (.object "jdk/internal/misc/Unsafe"), accessFlags := 24, slot := 0, constantValue := 0 }, { name := "BIG_ENDIAN", type := .boolean, accessFlags := 26, slot := 1, constantValue := 0 }, { name := "LOG2_ARRAY_BOOLEAN_INDEX_SCALE", type := .int, accessFlags := 25, slot := 2, constantValue := 0 }, { name := "LOG2_ARRAY_BYTE_INDEX_SCALE", type := .int, accessFlags := 25, slot := 3, constantValue := 0 }, { name := "LOG2_ARRAY_CHAR_INDEX_SCALE", type := .int, accessFlags := 25, slot := 4, constantValue := 0 }, { name := "LOG2_ARRAY_SHORT_INDEX_SCALE", type := .int, accessFlags := 25, slot := 5, constantValue := 0 }, { name := "LOG2_ARRAY_INT_INDEX_SCALE", type := .int, accessFlags := 25, slot := 6, constantValue := 0 }, { name := "LOG2_ARRAY_LONG_INDEX_SCALE", type := .int, accessFlags := 25, slot := 7, constantValue := 0 }, { name := "LOG2_ARRAY_FLOAT_INDEX_SCALE", type := .int, accessFlags := 25, slot := 8, constantValue := 0 }, { name := "LOG2_ARRAY_DOUBLE_INDEX_SCALE", type := .int, accessFlags := 25, slot := 9, constantValue := 0 }, { name := "LOG2_BYTE_BIT_SIZE", type := .int, accessFlags := 26, slot := 10, constantValue := 0 }, { name := "T_BOOLEAN", type := .int, accessFlags := 25, slot := 11, constantValue := 0 }, { name := "T_CHAR", type := .int, accessFlags := 25, slot := 12, constantValue := 0 }, { name := "T_FLOAT", type := .int, accessFlags := 25, slot := 13, constantValue := 0 }, { name := "T_DOUBLE", type := .int, accessFlags := 25, slot := 14, constantValue := 0 }, { name := "T_BYTE", type := .int, accessFlags := 25, slot := 15, constantValue := 0 }, { name := "T_SHORT", type := .int, accessFlags := 25, slot := 16, constantValue := 0 }, { name := "T_INT", type := .int, accessFlags := 25, slot := 17, constantValue := 0 }, { name := "T_LONG", type := .int, accessFlags := 25, slot := 18, constantValue := 0 }, { name := "JLA", type := (.object "jdk/internal/access/JavaLangAccess"), accessFlags := 26, slot := 19, constantValue := 0 }, { name := "SOFT_MAX_ARRAY_LENGTH", type := .int, accessFlags := 25, slot := 20, constantValue := 0 }]
  methods := #[k13m0]
  instanceTypes := #[]
  staticTypes := #[(.object "jdk/internal/misc/Unsafe"), .boolean, .int, .int, .int, .int, .int, .int, .int, .int, .int, .int, .int, .int, .int, .int, .int, .int, .int, (.object "jdk/internal/access/JavaLangAccess"), .int]
  resolved := Array.replicate 378 none
  statics := none }

def pool14 : Array CpInfo := pool [(1, u "java/lang/Cloneable"), (0, .class_ 1), (0, u "java/lang/Object"), (0, .class_ 3)] 3

/-- java/lang/Cloneable -/
def k14 : Class := { plain "java/lang/Cloneable" (some 0) with
  accessFlags := 1537
  interfaces := #[]
  cf := some (fileOf pool14 2 #[] #[] 1537 4 #[] #[])
  fields := #[]
  methods := #[]
  instanceTypes := #[]
  staticTypes := #[]
  resolved := Array.replicate 8 none
  statics := none }

/-- the primitive byte -/
def k15 : Class := { plain "byte" none with kind := .primitive 'B', accessFlags := 0x411 }
/-- [B -/
def k16 : Class := { plain "[B" (some 0) with kind := .array 15 .byte, interfaces := #[14, 3], accessFlags := 1041 }

/-- the primitive char -/
def k17 : Class := { plain "char" none with kind := .primitive 'C', accessFlags := 0x411 }
/-- [C -/
def k18 : Class := { plain "[C" (some 0) with kind := .array 17 .char, interfaces := #[14, 3], accessFlags := 1041 }

/-- the primitive int -/
def k19 : Class := { plain "int" none with kind := .primitive 'I', accessFlags := 0x411 }
/-- [I -/
def k20 : Class := { plain "[I" (some 0) with kind := .array 19 .int, interfaces := #[14, 3], accessFlags := 1041 }

def heap : Heap := #[{ cls := 8, slots := #[.long 0, .int 1, .null, .int 0, .null, .int 0, .int 0], vm := .statics 8 },
  { cls := 12, slots := #[.null, .null, .null], vm := .statics 12 }]
def classes : Array Class := #[k0, k1, k2, k3, k4, k5, k6, k7, k8, k9, k10, k11, k12, k13, k14, k15, k16, k17, k18, k19, k20]
def interned : List (Array UInt16 × Addr) := []
def slotsUsed : Nat := 10
def theMethod : MethodId := ⟨1, 1⟩
def args0 : Array Value := #[.long 5, .long 7, .int 5]
def aboutOver (below : List Frame) : State where
  vm := { classes := classes, interned := interned.toArray }
  heap := heap
  slotsUsed := slotsUsed
  threads := #[{ frames := .invoking theMethod args0 :: below }]
def below0 : List Frame := [.native { method := ⟨0, 0⟩, args := #[] }]
def about1 : State := aboutOver below0
def p0 : Program := .bare "" "" ""
def e0 : Env := launch0.env 0 0 0
theorem w_frames : about1.frames = Frame.invoking theMethod args0 :: below0 := rfl
set_option maxRecDepth 65536 in
theorem w_args : argsFit about1.vm theMethod args0 = true := by decide +kernel
set_option maxRecDepth 65536 in
theorem w_heap : heapFits about1 = true := by decide +kernel
set_option maxRecDepth 65536 in
theorem w_runnable : about1.curStatus? = some .runnable := by decide +kernel
set_option maxRecDepth 65536 in
theorem w_alone : about1.alone = true := by decide +kernel
set_option maxRecDepth 65536 in
theorem w_named : about1.methodNamed? x = some theMethod := by decide +kernel
set_option maxRecDepth 65536 in
theorem w_hears : about1.hears theMethod below0 = true := by decide +kernel
set_option maxRecDepth 65536 in
theorem w_ripe : about1.ripe theMethod args0 below0 = true := by decide +kernel
theorem w_running : about1.status = .running := rfl
set_option maxRecDepth 65536 in
theorem w_room : about1.hasRoom e0.platform room_1 = true :=
  launch0.hasRoom_least _ room_1 (by decide +kernel) (by decide +kernel) (by decide +kernel) (by decide +kernel) (by decide +kernel) (by decide +kernel)
theorem allAtoms_all (ts : List Jvm.Cond) (a : Array Jvm.Value) (st : Jvm.State) : (allAtoms ts).before a st = ts.all (fun c => c.before a st) := by
  induction ts with
  | nil => rfl
  | cons c t ih =>
    show (Jvm.Cond.and c (allAtoms t)).before a st = _
    rw [Jvm.Cond.before_and, ih, List.all_cons]
def words1 : List Jvm.Cond := Jvm.Cond.code x code maxLocals ret :: tables_1
/-- a 'code' word, met by the world's own term for the bytes: nothing is compared byte by byte -/
theorem code_word {y : MethodName} {bytes : ByteArray} {mx : Nat} {rt : Option FieldType} {a : Array Value} {s : State} {m : MethodId} {meth : Method} {c : Code} (h1 : s.methodNamed? y = some m) (h2 : s.vm.method? m = some meth) (h3 : meth.code = some c) (h4 : c.code = bytes)
    (h5 : (c.maxLocals == mx && c.exceptionTable.isEmpty && decide (c.maxStack ≤ mostOperands) && decide (meth.sig.returnType = rt) && !meth.locks && decide (parseMethodDescriptor y.desc = some meth.sig)) = true) : (Jvm.Cond.code y bytes mx rt).before a s = true := by
  simp only [Bool.and_eq_true, beq_iff_eq, Bool.not_eq_true', decide_eq_true_eq] at h5
  obtain ⟨⟨⟨⟨⟨g1, g2⟩, g3⟩, g4⟩, g5⟩, g6⟩ := h5
  simp [Cond.before, Cond.holds, Cond.value, h1, h2, h3, h4, g1, g2, g3, g4, g5, g6]
def isCode : Jvm.Cond → Bool
  | .code _ _ _ _ => true
  | _ => false
theorem all_split {L : List Jvm.Cond} {P : Jvm.Cond → Bool} (h1 : L.all (fun c => isCode c || P c) = true) (h2 : ∀ c ∈ L.filter isCode, P c = true) : L.all P = true := by
  refine List.all_eq_true.mpr fun c hc => ?_
  have h := List.all_eq_true.mp h1 c hc
  rcases Bool.eq_false_or_eq_true (isCode c) with hi | hi
  · exact h2 c (List.mem_filter.mpr ⟨hc, hi⟩)
  · simpa [hi] using h
set_option maxRecDepth 65536 in
theorem w_c0 : (Jvm.Cond.code x code maxLocals ret).before args0 about1 = true := code_word (m := ⟨1, 1⟩) (meth := k1m1) (c := k1c1) (by decide +kernel) rfl rfl rfl (by decide +kernel)
set_option maxRecDepth 65536 in
theorem w_c1 : (Jvm.Cond.code ({ cls := "java/lang/Math", name := "max", desc := "(JJ)J" } : Jvm.MethodName) jdk_29_method_66_code (4 : Nat) (Option.some Jvm.ClassFile.FieldType.long)).before args0 about1 = true := code_word (m := ⟨2, 1⟩) (meth := k2m1) (c := k2c1) (by decide +kernel) rfl rfl rfl (by decide +kernel)
set_option maxRecDepth 65536 in
theorem w_c2 : (Jvm.Cond.code ({ cls := "java/lang/Math", name := "min", desc := "(JJ)J" } : Jvm.MethodName) jdk_29_method_70_code (4 : Nat) (Option.some Jvm.ClassFile.FieldType.long)).before args0 about1 = true := code_word (m := ⟨2, 2⟩) (meth := k2m2) (c := k2c2) (by decide +kernel) rfl rfl rfl (by decide +kernel)
set_option maxRecDepth 65536 in
theorem w_c3 : (Jvm.Cond.code ({ cls := "java/lang/String", name := "<init>", desc := "([C)V" } : Jvm.MethodName) jdk_42_method_3_code (2 : Nat) (Option.none : Option Jvm.ClassFile.FieldType)).before args0 about1 = true := code_word (m := ⟨8, 1⟩) (meth := k8m1) (c := k8c1) (by decide +kernel) rfl rfl rfl (by decide +kernel)
set_option maxRecDepth 65536 in
theorem w_c4 : (Jvm.Cond.code ({ cls := "java/lang/String", name := "<init>", desc := "([CIILjava/lang/Void;)V" } : Jvm.MethodName) jdk_42_method_149_code (6 : Nat) (Option.none : Option Jvm.ClassFile.FieldType)).before args0 about1 = true := code_word (m := ⟨8, 2⟩) (meth := k8m2) (c := k8c2) (by decide +kernel) rfl rfl rfl (by decide +kernel)
set_option maxRecDepth 65536 in
theorem w_c5 : (Jvm.Cond.code ({ cls := "java/lang/Object", name := "<init>", desc := "()V" } : Jvm.MethodName) object_method_1_code (1 : Nat) (Option.none : Option Jvm.ClassFile.FieldType)).before args0 about1 = true := code_word (m := ⟨0, 0⟩) (meth := k0m0) (c := k0c0) (by decide +kernel) rfl rfl rfl (by decide +kernel)
set_option maxRecDepth 65536 in
theorem w_c6 : (Jvm.Cond.code ({ cls := "java/lang/StringUTF16", name := "compress", desc := "([CII)[B" } : Jvm.MethodName) jdk_52_method_16_code (6 : Nat) (Option.some (Jvm.ClassFile.FieldType.array Jvm.ClassFile.FieldType.byte))).before args0 about1 = true := code_word (m := ⟨9, 2⟩) (meth := k9m2) (c := k9c2) (by decide +kernel) rfl rfl rfl (by decide +kernel)
set_option maxRecDepth 65536 in
theorem w_c7 : (Jvm.Cond.code ({ cls := "java/lang/StringUTF16", name := "compress", desc := "([CI[BII)I" } : Jvm.MethodName) jdk_52_method_21_code (7 : Nat) (Option.some Jvm.ClassFile.FieldType.int)).before args0 about1 = true := code_word (m := ⟨9, 3⟩) (meth := k9m3) (c := k9c3) (by decide +kernel) rfl rfl rfl (by decide +kernel)
set_option maxRecDepth 65536 in
theorem w_c8 : (Jvm.Cond.code ({ cls := "java/lang/StringUTF16", name := "coderFromArrayLen", desc := "([BI)B" } : Jvm.MethodName) jdk_52_method_15_code (2 : Nat) (Option.some Jvm.ClassFile.FieldType.byte)).before args0 about1 = true := code_word (m := ⟨9, 1⟩) (meth := k9m1) (c := k9c1) (by decide +kernel) rfl rfl rfl (by decide +kernel)
set_option maxRecDepth 65536 in
theorem w_c9 : (Jvm.Cond.code ({ cls := "com/example/chunkwise/chunkwise/launch/Bounds", name := "atLeast", desc := "(Ljava/lang/String;JJ)J" } : Jvm.MethodName) prog_87_method_2_code (5 : Nat) (Option.some Jvm.ClassFile.FieldType.long)).before args0 about1 = true := code_word (m := ⟨10, 1⟩) (meth := k10m1) (c := k10c1) (by decide +kernel) rfl rfl rfl (by decide +kernel)
def codes1 : List Jvm.Cond := [Jvm.Cond.code x code maxLocals ret, Jvm.Cond.code ({ cls := "java/lang/Math", name := "max", desc := "(JJ)J" } : Jvm.MethodName) jdk_29_method_66_code (4 : Nat) (Option.some Jvm.ClassFile.FieldType.long), Jvm.Cond.code ({ cls := "java/lang/Math", name := "min", desc := "(JJ)J" } : Jvm.MethodName) jdk_29_method_70_code (4 : Nat) (Option.some Jvm.ClassFile.FieldType.long), Jvm.Cond.code ({ cls := "java/lang/String", name := "<init>", desc := "([C)V" } : Jvm.MethodName) jdk_42_method_3_code (2 : Nat) (Option.none : Option Jvm.ClassFile.FieldType), Jvm.Cond.code ({ cls := "java/lang/String", name := "<init>", desc := "([CIILjava/lang/Void;)V" } : Jvm.MethodName) jdk_42_method_149_code (6 : Nat) (Option.none : Option Jvm.ClassFile.FieldType), Jvm.Cond.code ({ cls := "java/lang/Object", name := "<init>", desc := "()V" } : Jvm.MethodName) object_method_1_code (1 : Nat) (Option.none : Option Jvm.ClassFile.FieldType), Jvm.Cond.code ({ cls := "java/lang/StringUTF16", name := "compress", desc := "([CII)[B" } : Jvm.MethodName) jdk_52_method_16_code (6 : Nat) (Option.some (Jvm.ClassFile.FieldType.array Jvm.ClassFile.FieldType.byte)), Jvm.Cond.code ({ cls := "java/lang/StringUTF16", name := "compress", desc := "([CI[BII)I" } : Jvm.MethodName) jdk_52_method_21_code (7 : Nat) (Option.some Jvm.ClassFile.FieldType.int), Jvm.Cond.code ({ cls := "java/lang/StringUTF16", name := "coderFromArrayLen", desc := "([BI)B" } : Jvm.MethodName) jdk_52_method_15_code (2 : Nat) (Option.some Jvm.ClassFile.FieldType.byte), Jvm.Cond.code ({ cls := "com/example/chunkwise/chunkwise/launch/Bounds", name := "atLeast", desc := "(Ljava/lang/String;JJ)J" } : Jvm.MethodName) prog_87_method_2_code (5 : Nat) (Option.some Jvm.ClassFile.FieldType.long)]
set_option maxRecDepth 65536 in
theorem codes_eq : words1.filter isCode = codes1 := rfl
theorem w_codes : ∀ c ∈ words1.filter isCode, c.before args0 about1 = true := by
  rw [codes_eq]
  intro c hc
  simp only [codes1, List.mem_cons, List.not_mem_nil, or_false] at hc
  rcases hc with rfl | rfl | rfl | rfl | rfl | rfl | rfl | rfl | rfl | rfl
  · exact w_c0
  · exact w_c1
  · exact w_c2
  · exact w_c3
  · exact w_c4
  · exact w_c5
  · exact w_c6
  · exact w_c7
  · exact w_c8
  · exact w_c9
set_option maxRecDepth 65536 in
theorem w_t1 : (words1.take 24).all (fun c => isCode c || c.before args0 about1) = true := by decide +kernel
set_option maxRecDepth 65536 in
theorem w_t2 : (words1.drop 24).all (fun c => isCode c || c.before args0 about1) = true := by decide +kernel
theorem w_tables : (allAtoms (Jvm.Cond.code x code maxLocals ret :: tables_1)).before args0 about1 = true := by
  rw [allAtoms_all]
  show words1.all (fun c => c.before args0 about1) = true
  refine all_split ?_ w_codes
  rw [← List.take_append_drop 24 words1, List.all_append, w_t1, w_t2]
  rfl
set_option maxRecDepth 65536 in
theorem w_rest : rest_1_c.before args0 about1 = true := by decide +kernel
set_option maxRecDepth 65536 in
theorem w_case : (Jvm.Cond.and given_1 narrow_1).before args0 about1 = true := by decide +kernel
theorem w_applies : (headSpec (Jvm.Cond.code x code maxLocals ret :: tables_1) room_1).applies x e0.platform about1 = true :=
  (Spec.applies_iff w_frames).mpr ⟨w_running, w_runnable, w_alone, w_named, w_hears, w_ripe, w_room, w_tables⟩
theorem atStart : AtStart classFile x code maxLocals ret World_1 tables_1 room_1 Calls_1 rest_1 Pre_1 launch0 p0 e0 about1 theMethod args0 below0 :=
  ⟨lists_1, trivial, launch0.admits_env _ _ _, launch0.least_env, fairChoices_fair.cas, fairChoices_fair.clock, w_frames, w_args, w_heap, w_applies, trivial, w_rest, w_case⟩
end start1
theorem witness_1 : WitnessClaimed_1 := ⟨start1.p0, start1.e0, start1.about1, start1.theMethod, start1.args0, start1.below0, start1.atStart⟩
end Jvm.Pilot.@@N@@
