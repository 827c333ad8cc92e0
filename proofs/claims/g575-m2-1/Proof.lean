import JvmDerived
import JvmDerived.Pilot.@@N@@Statement
import JvmDerived.Pilot.@@N@@Code
set_option linter.unusedVariables false
set_option linter.unusedSimpArgs false
namespace Jvm.Pilot.@@N@@
namespace GK
open Jvm Jvm.ClassFile Sem Op Lib Jvm.Free Jvm.Stand Jvm.LawKit Jvm.RoadKit Bundle
/-! A small program logic over the library's walks: 'Go' says that from a frame at pc the body runs to its return, and what holds there. -/
abbrev Md := Option (List (String × Nat))
def Bk0 (md : Md) (Z s : State) (sf : List Addr) (vm0 : Vm) (h : Heap) : Prop :=
  match md with
  | none => vm0 = s.vm
  | some EL => (∃ k, s.Since vm0 k ∧ k ≤ h.size) ∧ (∃ a0, EW Z a0 EL) ∧ CHr Z EL s.vm s.heap vm0 h ∧ ∀ x ∈ sf, x < h.size ∧ Safe Z EL vm0 h x
/-- what is kept along a walk: the start's cells stand; the tables' book -/
def Bok (md : Md) (Z : State) (n0 : Nat) (s : State) (sf : List Addr) (vm0 : Vm) (h : Heap) : Prop := Old Z n0 h ∧ Bk0 md Z s sf vm0 h
def SafeAll (md : Md) (Z : State) (sf : List Addr) (vm : Vm) (h : Heap) : Prop :=
  match md with
  | none => True
  | some EL => ∀ x ∈ sf, x < h.size ∧ Safe Z EL vm h x
def FinE (md : Md) (Z s : State) (o : Outcome) (t : State) (L : List Loc) (k n : Nat) : Prop :=
  match md with
  | none => FrameEnd s o t L k n
  | some EL => CHr Z EL s.vm s.heap t.vm t.heap ∧ ReturnedEndW s o t L k n
section B
variable {md : Md} {EL : List (String × Nat)} {Z s : State} {n0 : Nat} {sf sf' ws : List Addr} {vm0 vm1 : Vm} {h h' h2 : Heap} {x a : Addr} {sl : Nat} {v : Value}
theorem extR (h : Heap) : Ext h h := ⟨Nat.le_refl _, fun _ _ q => q⟩
theorem extT (E : Ext h h') (E' : Ext h' h2) : Ext h h2 := ⟨Nat.le_trans E.1 E'.1, fun a c q => E'.2 a c (E.2 a c q)⟩
/-- a write beyond h -/
theorem extW (E : Ext h h') (W : Wr h' h2 a sl v) (q : h.size ≤ a) : Ext h h2 := by
  obtain ⟨c, -, -, -, rfl⟩ := W
  refine ⟨by simpa using E.1, fun b cb hb => ?_⟩
  have hlt := (Array.getElem?_eq_some_iff.mp hb).1
  rw [Array.getElem?_setIfInBounds_ne (by omega)]
  exact E.2 b cb hb
theorem extK (E : Ext h h') (K : Keep h' h2 ws) (q : ∀ x ∈ ws, h.size ≤ x) : Ext h h2 :=
  ⟨Nat.le_trans E.1 K.1, fun b cb hb => K.2.1 b cb (E.2 b cb hb) fun z => by
    have hlt := (Array.getElem?_eq_some_iff.mp hb).1
    have := q b z; omega⟩
theorem keepE (E : Ext h h') (ws : List Addr) : Keep h h' ws := (Keep.refl h ws).ext E
theorem Bok.n0le (B : Bok md Z n0 s sf vm0 h) : n0 ≤ h.size := B.1.1 ▸ B.1.2.1
theorem Bok.sub (B : Bok md Z n0 s sf vm0 h) (q : ∀ x ∈ sf', x ∈ sf) : Bok md Z n0 s sf' vm0 h := by
  cases md with
  | none => exact B
  | some EL => exact ⟨B.1, B.2.1, B.2.2.1, B.2.2.2.1, fun x hx => B.2.2.2.2 x (q x hx)⟩
theorem Bok.keep (B : Bok md Z n0 s sf vm0 h) (K : Keep h h' ws) (q : ∀ x ∈ ws, x ∈ sf) (q0 : ∀ x ∈ ws, n0 ≤ x) : Bok md Z n0 s sf vm0 h' := by
  refine ⟨B.1.keep K q0, ?_⟩
  cases md with
  | none => exact B.2
  | some EL =>
    obtain ⟨-, ⟨k, h1, h2⟩, h3, h4, h5⟩ := B
    have C := CHr.keep K (fun x hx => (h5 x (q x hx)).2) h4.1
    exact ⟨⟨k, h1, Nat.le_trans h2 K.1⟩, h3, h4.trans C, fun x hx => ⟨Nat.lt_of_lt_of_le (h5 x hx).1 K.1, C.safe (h5 x hx).1 (h5 x hx).2⟩⟩
theorem Bok.wr (B : Bok md Z n0 s sf vm0 h) (W : Wr h h' a sl v) (q : a ∈ sf) (q0 : n0 ≤ a) : Bok md Z n0 s sf vm0 h' :=
  B.keep (Keep.of_wr W) (fun x hx => by cases List.mem_singleton.mp hx; exact q) (fun x hx => by cases List.mem_singleton.mp hx; exact q0)
theorem Bok.ext (B : Bok md Z n0 s sf vm0 h) (E : Ext h h') : Bok md Z n0 s sf vm0 h' :=
  B.keep (keepE E []) (fun x hx => nomatch hx) (fun x hx => nomatch hx)
theorem Bok.new (B : Bok md Z n0 s sf vm0 h) (E : Ext h h') (q : x < h'.size) (r : h.size ≤ x) : Bok md Z n0 s (x :: sf) vm0 h' := by
  have B' := B.ext E
  cases md with
  | none => exact B'
  | some EL =>
    refine ⟨B'.1, B'.2.1, B'.2.2.1, B'.2.2.2.1, fun y hy => ?_⟩
    rcases List.mem_cons.mp hy with rfl | hy
    · exact ⟨q, fun b => Safe.new r ((B.2.2.2.1.1.step fun _ _ _ q => E.2 _ _ q).2 _ b)⟩
    · exact B'.2.2.2.2 y hy
end B
/-- Java's x >>> y -/
def ushr (x y : Int32) : Int32 := (x.toUInt32 >>> (y &&& 31).toUInt32).toInt32
def ushrL (x : Int64) (y : Int32) : Int64 := (x.toUInt64 >>> (y &&& 0x3f).toInt64.toUInt64).toInt64
/-- (char) x -/
def chr (x : Int32) : Int32 := x.toUInt32.toUInt16.toUInt32.toInt32
def Go (md : Md) (l : Launch) (Z : State) (n0 : Nat) (R : Room) (bytes : ByteArray) (ml : Nat) (ret : Option FieldType) (own mn : String) (Ψ : Option Value → Heap → List Addr → Prop)
    (cells slots : Nat) (sf : List Addr) (h : Heap) (pc : Nat) (L : Array Slot) (S : List Value) : Prop :=
  ∀ (p : Program) (e : Env) (s : State) (m : MethodId) (args : Array Value) (below : List Frame) (meth : Method) (c : Code) (vm0 : Vm) (T : State) (locs : List Loc),
    p.tables.exec = Jvm.exec → c.code = bytes → c.maxLocals = ml → meth.sig.returnType = ret → meth.locks = false → meth.name = mn → Z.vm.findClass own = some m.cls →
    Stand p l e R (s.setVm vm0) m args below meth c T locs cells slots → T.heap = h → Z.Warmed39 vm0 → Bok md Z n0 s sf vm0 h → Fr n0 locs →
    ∃ (s₂ : State) (o : Outcome), Steps p.tables e below (T.setTop (mkF m pc L S)) s₂ ∧ s₂.status = .running ∧ Ended s₂ below o ∧
      ∃ (v : Option Value) (L' : List Loc) (sf' : List Addr), o = .returned v ∧ Ψ v s₂.heap sf' ∧ Old Z n0 s₂.heap ∧ Fr n0 L' ∧ SafeAll md Z sf' s₂.vm s₂.heap ∧ FinE md Z s o s₂ L' R.cells R.slots
section G
variable {md : Md} {EL : List (String × Nat)} {l : Launch} {Z : State} {n0 : Nat} {R : Room} {bytes : ByteArray} {ml : Nat} {ret : Option FieldType} {own mn : String} {Ψ : Option Value → Heap → List Addr → Prop}
  {cells slots : Nat} {sf : List Addr} {h h' : Heap} {pc : Nat} {L : Array Slot} {S : List Value} {a0 : Array Value}
theorem Go.more {cells' slots' : Nat} {sf' : List Addr} (G : Go md l Z n0 R bytes ml ret own mn Ψ cells' slots' sf' h pc L S) (hc : cells ≤ cells') (hs : slots ≤ slots') (q : ∀ x ∈ sf', x ∈ sf) : Go md l Z n0 R bytes ml ret own mn Ψ cells slots sf h pc L S := by
  intro p e s m args below meth c vm0 T locs hx hby hml hr hlk hn ho X eT hZ B N
  exact G p e s m args below meth c vm0 T locs hx hby hml hr hlk hn ho (X.more hc hs) eT hZ (B.sub q) N
theorem Go.old (G : Old Z n0 h → n0 ≤ h.size → Go md l Z n0 R bytes ml ret own mn Ψ cells slots sf h pc L S) : Go md l Z n0 R bytes ml ret own mn Ψ cells slots sf h pc L S := by
  intro p e s m args below meth c vm0 T locs hx hby hml hr hlk hn ho X eT hZ B N
  exact G B.1 B.n0le p e s m args below meth c vm0 T locs hx hby hml hr hlk hn ho X eT hZ B N
theorem Go.pure {L' : Array Slot} {S' : List Value} (pc' : Nat) (k : ∀ (p : Program) (e : Env) (below : List Frame) (T target : State) (m : MethodId) (c : Code), At T m c below → p.tables.exec = Jvm.exec → c.code = bytes → Steps p.tables e below (T.setTop (mkF m pc' L' S')) target → Steps p.tables e below (T.setTop (mkF m pc L S)) target)
    (G : Go md l Z n0 R bytes ml ret own mn Ψ cells slots sf h pc' L' S') : Go md l Z n0 R bytes ml ret own mn Ψ cells slots sf h pc L S := by
  intro p e s m args below meth c vm0 T locs hx hby hml hr hlk hn ho X eT hZ B N
  obtain ⟨s₂, o, h1, r⟩ := G p e s m args below meth c vm0 T locs hx hby hml hr hlk hn ho X eT hZ B N
  exact ⟨s₂, o, k _ _ _ _ _ _ _ X.here hx hby h1, r⟩
/-- a step that may warm the tables and leaves the heap as it was -/
theorem Go.warm {L' : Array Slot} {S' : List Value} (pc' : Nat) (k : ∀ (p : Program) (e : Env) (s : State) (m : MethodId) (args : Array Value) (below : List Frame) (meth : Method) (c : Code) (T : State) (locs : List Loc), p.tables.exec = Jvm.exec → c.code = bytes → c.maxLocals = ml → Z.Warmed39 s.vm → s.vm.findClass own = some m.cls →
      Stand p l e R s m args below meth c T locs cells slots → T.heap = h → ∃ T', Stand p l e R s m args below meth c T' locs cells slots ∧ T'.heap = h ∧ ∀ target, Steps p.tables e below (T'.setTop (mkF m pc' L' S')) target → Steps p.tables e below (T.setTop (mkF m pc L S)) target)
    (G : Go md l Z n0 R bytes ml ret own mn Ψ cells slots sf h pc' L' S') : Go md l Z n0 R bytes ml ret own mn Ψ cells slots sf h pc L S := by
  intro p e s m args below meth c vm0 T locs hx hby hml hr hlk hn ho X eT hZ B N
  obtain ⟨T', X', e', st⟩ := k p e (s.setVm vm0) m args below meth c T locs hx hby hml hZ (by rw [show (s.setVm vm0).vm = vm0 from rfl, hZ.alike.findClass]; exact ho) X eT
  obtain ⟨s₂, o, h1, r⟩ := G p e s m args below meth c vm0 T' locs hx hby hml hr hlk hn ho X' e' hZ B N
  exact ⟨s₂, o, st _ h1, r⟩
/-- a write at a place of the object a -/
theorem Go.write {L' : Array Slot} {S' : List Value} {a : Addr} {sl : Nat} {v : Value} (pc' : Nat) (ha : a ∈ sf) (hn0 : n0 ≤ a) (k : ∀ (p : Program) (e : Env) (s : State) (m : MethodId) (args : Array Value) (below : List Frame) (meth : Method) (c : Code) (T : State) (locs : List Loc), p.tables.exec = Jvm.exec → c.code = bytes → c.maxLocals = ml → meth.name = mn → Z.Warmed39 s.vm → s.vm.findClass own = some m.cls →
      Stand p l e R s m args below meth c T locs cells slots → T.heap = h → ∃ T' h', Stand p l e R s m args below meth c T' (locs ++ [⟨a, sl⟩]) cells slots ∧ T'.heap = h' ∧ Wr h h' a sl v ∧ ∀ target, Steps p.tables e below (T'.setTop (mkF m pc' L' S')) target → Steps p.tables e below (T.setTop (mkF m pc L S)) target)
    (G : ∀ h', Wr h h' a sl v → Go md l Z n0 R bytes ml ret own mn Ψ cells slots sf h' pc' L' S') : Go md l Z n0 R bytes ml ret own mn Ψ cells slots sf h pc L S := by
  intro p e s m args below meth c vm0 T locs hx hby hml hr hlk hn ho X eT hZ B N
  obtain ⟨T', h', X', e', W, st⟩ := k p e (s.setVm vm0) m args below meth c T locs hx hby hml hn hZ (by rw [show (s.setVm vm0).vm = vm0 from rfl, hZ.alike.findClass]; exact ho) X eT
  obtain ⟨s₂, o, h1, r⟩ := G h' W p e s m args below meth c vm0 T' _ hx hby hml hr hlk hn ho X' e' hZ (B.wr W ha hn0) (Fr.snoc X' N hn0)
  exact ⟨s₂, o, st _ h1, r⟩
/-! the ends -/
theorem fin_ret {p : Program} {e : Env} {s : State} {m : MethodId} {args : Array Value} {below : List Frame} {meth : Method} {c : Code} {vm0 : Vm} {T : State} {locs : List Loc} {sf' : List Addr} {g : JFrame}
    (X : Stand p l e R (s.setVm vm0) m args below meth c T locs cells slots) (eT : T.heap = h) (hZ : Z.Warmed39 vm0) (B : Bok md Z n0 s sf vm0 h) (N : Fr n0 locs) {v : Option Value} (hv : meth.sig.returnType = none → v = none) (hlk : meth.locks = false) (hc : cells ≤ R.cells) (hs : slots ≤ R.slots)
    (Q : Ψ v h sf') (hsub : ∀ x ∈ sf', x ∈ sf)
    (st : ∀ fs, (∀ (f : JFrame) (acts : List Action), f.method = m → f.locked = none → f.entered = [] → (doReturn e (T.setTop f) acts v).1 = T.setFrames fs) → Steps p.tables e below (T.setTop g) (T.setFrames fs)) :
    ∃ (s₂ : State) (o : Outcome), Steps p.tables e below (T.setTop g) s₂ ∧ s₂.status = .running ∧ Ended s₂ below o ∧
      ∃ (v : Option Value) (L' : List Loc) (sf' : List Addr), o = .returned v ∧ Ψ v s₂.heap sf' ∧ Old Z n0 s₂.heap ∧ Fr n0 L' ∧ SafeAll md Z sf' s₂.vm s₂.heap ∧ FinE md Z s o s₂ L' R.cells R.slots := by
  have eh : ∀ fs, (T.setFrames fs).heap = h := fun fs => eT
  cases md with
  | none =>
    obtain rfl : vm0 = s.vm := B.2
    obtain ⟨fs, hr, hrun, hended, hW, hsame⟩ := X.leave hv hlk
    exact ⟨_, _, st fs hr, hrun, hended, v, locs, sf', rfl, by rw [eh]; exact Q, by rw [eh]; exact B.1, N, trivial, ⟨_, rfl⟩, hW, hsame.mono hc hs⟩
  | some EL =>
    obtain ⟨h0, ⟨k, h1, h2⟩, ⟨a0, h3⟩, h4, h5⟩ := B
    obtain ⟨fs, hr, hrun, hended, hW⟩ := X.leaveW h1 (by rw [eT]; exact h2) hv hlk
    have C : CHr Z EL vm0 h T.vm h := CHv.at X hZ h3 h4.1
    refine ⟨_, _, st fs hr, hrun, hended, v, locs, sf', rfl, by rw [eh]; exact Q, by rw [eh]; exact h0, N, fun x hx => ?_, ?_, hW.1, hW.2.1, hW.2.2.1, hW.2.2.2.mono hc hs⟩
    · rw [eh]; exact ⟨(h5 x (hsub x hx)).1, C.safe (h5 x (hsub x hx)).1 (h5 x (hsub x hx)).2⟩
    · rw [eh]; exact h4.trans C
theorem Go.ret0 (hd : decode bytes pc = .ok (.return_, 1)) (hret : ret = none) {sf' : List Addr} (Q : Ψ none h sf') (hsub : ∀ x ∈ sf', x ∈ sf) (hc : cells ≤ R.cells) (hs : slots ≤ R.slots) : Go md l Z n0 R bytes ml ret own mn Ψ cells slots sf h pc L [] := by
  intro p e s m args below meth c vm0 T locs hx hby hml hr hlk hn ho X eT hZ B N
  exact fin_ret X eT hZ B N (fun _ => rfl) hlk hc hs Q hsub fun fs hl => X.returnOut hx (hr.trans hret) (hb hby hd) hl
theorem Go.retW {t : FieldType} {w : Value} {i : Instr} (hd : decode bytes pc = .ok (i, 1)) (hret : ret = some t) (hn' : narrow t w = w)
    (hi : (i = .ireturn ∧ (t = .int ∨ t = .boolean ∨ t = .byte ∨ t = .char ∨ t = .short) ∧ ∃ z, w = .int z) ∨ (i = .lreturn ∧ t = .long ∧ ∃ z, w = .long z) ∨ (i = .dreturn ∧ t = .double ∧ ∃ z, w = .double z) ∨ (i = .freturn ∧ t = .float ∧ ∃ z, w = .float z) ∨ (i = .areturn ∧ t.isReference = true ∧ w.isRef = true))
    {sf' : List Addr} (Q : Ψ (some w) h sf') (hsub : ∀ x ∈ sf', x ∈ sf) (hc : cells ≤ R.cells) (hs : slots ≤ R.slots) : Go md l Z n0 R bytes ml ret own mn Ψ cells slots sf h pc L (w :: S) := by
  intro p e s m args below meth c vm0 T locs hx hby hml hr hlk hn ho X eT hZ B N
  exact fin_ret X eT hZ B N (fun q => by rw [hr, hret] at q; cases q) hlk hc hs Q hsub fun fs hl => retOut X hx (hr.trans hret) hn' hi (hb hby hd) hl
theorem Go.retI {z : Int32} (hd : decode bytes pc = .ok (.ireturn, 1)) (hret : ret = some .int) {sf' : List Addr} (Q : Ψ (some (.int z)) h sf') (hsub : ∀ x ∈ sf', x ∈ sf) (hc : cells ≤ R.cells) (hs : slots ≤ R.slots) : Go md l Z n0 R bytes ml ret own mn Ψ cells slots sf h pc L (.int z :: S) :=
  Go.retW hd hret rfl (Or.inl ⟨rfl, Or.inl rfl, _, rfl⟩) Q hsub hc hs
theorem Go.retJ {z : Int64} (hd : decode bytes pc = .ok (.lreturn, 1)) (hret : ret = some .long) {sf' : List Addr} (Q : Ψ (some (.long z)) h sf') (hsub : ∀ x ∈ sf', x ∈ sf) (hc : cells ≤ R.cells) (hs : slots ≤ R.slots) : Go md l Z n0 R bytes ml ret own mn Ψ cells slots sf h pc L (.long z :: S) :=
  Go.retW hd hret rfl (Or.inr (Or.inl ⟨rfl, rfl, _, rfl⟩)) Q hsub hc hs
theorem Go.retA {t : FieldType} {w : Value} (hd : decode bytes pc = .ok (.areturn, 1)) (hret : ret = some t) (ht : t.isReference = true) (hw : w.isRef = true) {sf' : List Addr} (Q : Ψ (some w) h sf') (hsub : ∀ x ∈ sf', x ∈ sf) (hc : cells ≤ R.cells) (hs : slots ≤ R.slots) : Go md l Z n0 R bytes ml ret own mn Ψ cells slots sf h pc L (w :: S) :=
  Go.retW hd hret (by cases t <;> cases w <;> first | rfl | cases ht | cases hw) (Or.inr (Or.inr (Or.inr (Or.inr ⟨rfl, ht, hw⟩)))) Q hsub hc hs
theorem Go.retN {t : FieldType} {z : Int32} (v : Int32) (hd : decode bytes pc = .ok (.ireturn, 1)) (hret : ret = some t) (ht : t = .boolean ∨ t = .byte ∨ t = .char ∨ t = .short) (hv : nar t z = v) {sf' : List Addr} (Q : Ψ (some (.int v)) h sf') (hsub : ∀ x ∈ sf', x ∈ sf) (hc : cells ≤ R.cells) (hs : slots ≤ R.slots) :
    Go md l Z n0 R bytes ml ret own mn Ψ cells slots sf h pc L (.int z :: S) := by
  subst hv
  intro p e s m args below meth c vm0 T locs hx hby hml hr hlk hn ho X eT hZ B N
  exact fin_ret X eT hZ B N (fun q => by rw [hr, hret] at q; cases q) hlk hc hs Q hsub fun fs hl => Jvm.RoadKit.retN X hx (hr.trans hret) ht (hb hby hd) hl
/-! plain steps -/
theorem Go.aload {k : Nat} {v : Value} (pc' : Nat) (hd : decode bytes pc = .ok (.aload k, 2)) (hp : pc + 2 = pc') (hl : L[k]? = some (.val v)) (hv : v.isRef = true) (G : Go md l Z n0 R bytes ml ret own mn Ψ cells slots sf h pc' L (v :: S)) : Go md l Z n0 R bytes ml ret own mn Ψ cells slots sf h pc L S := by
  subst hp; exact Go.pure _ (fun p e below T target m c A hx hby k => XS.aload A hx rfl (hb hby hd) hl hv k) G
theorem Go.aloadN {k : Fin 4} {v : Value} (pc' : Nat) (hd : decode bytes pc = .ok (.aload_n k, 1)) (hp : pc + 1 = pc') (hl : L[k.val]? = some (.val v)) (hv : v.isRef = true) (G : Go md l Z n0 R bytes ml ret own mn Ψ cells slots sf h pc' L (v :: S)) : Go md l Z n0 R bytes ml ret own mn Ψ cells slots sf h pc L S := by
  subst hp; exact Go.pure _ (fun p e below T target m c A hx hby k => XS.aloadN A hx rfl (hb hby hd) hl hv k) G
theorem Go.iload {k : Nat} {v : Int32} (pc' : Nat) (hd : decode bytes pc = .ok (.iload k, 2)) (hp : pc + 2 = pc') (hl : L[k]? = some (.val (.int v))) (G : Go md l Z n0 R bytes ml ret own mn Ψ cells slots sf h pc' L (.int v :: S)) : Go md l Z n0 R bytes ml ret own mn Ψ cells slots sf h pc L S := by
  subst hp; exact Go.pure _ (fun p e below T target m c A hx hby k => XS.iload A hx rfl (hb hby hd) hl k) G
theorem Go.iloadN {k : Fin 4} {v : Int32} (pc' : Nat) (hd : decode bytes pc = .ok (.iload_n k, 1)) (hp : pc + 1 = pc') (hl : L[k.val]? = some (.val (.int v))) (G : Go md l Z n0 R bytes ml ret own mn Ψ cells slots sf h pc' L (.int v :: S)) : Go md l Z n0 R bytes ml ret own mn Ψ cells slots sf h pc L S := by
  subst hp; exact Go.pure _ (fun p e below T target m c A hx hby k => XS.iloadN A hx rfl (hb hby hd) hl k) G
theorem Go.lload {k : Nat} {v : Int64} (pc' : Nat) (hd : decode bytes pc = .ok (.lload k, 2)) (hp : pc + 2 = pc') (hl : L[k]? = some (.val (.long v))) (G : Go md l Z n0 R bytes ml ret own mn Ψ cells slots sf h pc' L (.long v :: S)) : Go md l Z n0 R bytes ml ret own mn Ψ cells slots sf h pc L S := by
  subst hp; exact Go.pure _ (fun p e below T target m c A hx hby k => XS.lload A hx rfl (hb hby hd) hl k) G
theorem Go.lloadN {k : Fin 4} {v : Int64} (pc' : Nat) (hd : decode bytes pc = .ok (.lload_n k, 1)) (hp : pc + 1 = pc') (hl : L[k.val]? = some (.val (.long v))) (G : Go md l Z n0 R bytes ml ret own mn Ψ cells slots sf h pc' L (.long v :: S)) : Go md l Z n0 R bytes ml ret own mn Ψ cells slots sf h pc L S := by
  subst hp; exact Go.pure _ (fun p e below T target m c A hx hby k => XS.lloadN A hx rfl (hb hby hd) hl k) G
theorem Go.astore {k : Nat} {v : Value} (pc' : Nat) (L' : Array Slot) (hd : decode bytes pc = .ok (.astore k, 2)) (hp : pc + 2 = pc') (hv : v.isRef = true) (hl : storeLocals L k v = some L') (G : Go md l Z n0 R bytes ml ret own mn Ψ cells slots sf h pc' L' S) : Go md l Z n0 R bytes ml ret own mn Ψ cells slots sf h pc L (v :: S) := by
  subst hp; exact Go.pure _ (fun p e below T target m c A hx hby k => XS.astore A hx rfl (hb hby hd) rfl hv hl k) G
theorem Go.astoreN {k : Fin 4} {v : Value} (pc' : Nat) (L' : Array Slot) (hd : decode bytes pc = .ok (.astore_n k, 1)) (hp : pc + 1 = pc') (hv : v.isRef = true) (hl : storeLocals L k.val v = some L') (G : Go md l Z n0 R bytes ml ret own mn Ψ cells slots sf h pc' L' S) : Go md l Z n0 R bytes ml ret own mn Ψ cells slots sf h pc L (v :: S) := by
  subst hp; exact Go.pure _ (fun p e below T target m c A hx hby k => XS.astoreN A hx rfl (hb hby hd) rfl hv hl k) G
theorem Go.istore {k : Nat} {x : Int32} (pc' : Nat) (L' : Array Slot) (hd : decode bytes pc = .ok (.istore k, 2)) (hp : pc + 2 = pc') (hl : storeLocals L k (.int x) = some L') (G : Go md l Z n0 R bytes ml ret own mn Ψ cells slots sf h pc' L' S) : Go md l Z n0 R bytes ml ret own mn Ψ cells slots sf h pc L (.int x :: S) := by
  subst hp; exact Go.pure _ (fun p e below T target m c A hx hby k => XS.istore A hx rfl (hb hby hd) rfl hl k) G
theorem Go.istoreN {k : Fin 4} {x : Int32} (pc' : Nat) (L' : Array Slot) (hd : decode bytes pc = .ok (.istore_n k, 1)) (hp : pc + 1 = pc') (hl : storeLocals L k.val (.int x) = some L') (G : Go md l Z n0 R bytes ml ret own mn Ψ cells slots sf h pc' L' S) : Go md l Z n0 R bytes ml ret own mn Ψ cells slots sf h pc L (.int x :: S) := by
  subst hp; exact Go.pure _ (fun p e below T target m c A hx hby k => XS.istoreN A hx rfl (hb hby hd) rfl hl k) G
theorem Go.lstore {k : Nat} {x : Int64} (pc' : Nat) (L' : Array Slot) (hd : decode bytes pc = .ok (.lstore k, 2)) (hp : pc + 2 = pc') (hl : storeLocals L k (.long x) = some L') (G : Go md l Z n0 R bytes ml ret own mn Ψ cells slots sf h pc' L' S) : Go md l Z n0 R bytes ml ret own mn Ψ cells slots sf h pc L (.long x :: S) := by
  subst hp; exact Go.pure _ (fun p e below T target m c A hx hby k => XS.lstore A hx rfl (hb hby hd) rfl hl k) G
theorem Go.lstoreN {k : Fin 4} {x : Int64} (pc' : Nat) (L' : Array Slot) (hd : decode bytes pc = .ok (.lstore_n k, 1)) (hp : pc + 1 = pc') (hl : storeLocals L k.val (.long x) = some L') (G : Go md l Z n0 R bytes ml ret own mn Ψ cells slots sf h pc' L' S) : Go md l Z n0 R bytes ml ret own mn Ψ cells slots sf h pc L (.long x :: S) := by
  subst hp; exact Go.pure _ (fun p e below T target m c A hx hby k => XS.lstoreN A hx rfl (hb hby hd) rfl hl k) G
theorem Go.iinc {k : Nat} {cst : Int} {x : Int32} (pc' : Nat) (L' : Array Slot) (v : Int32) (hd : decode bytes pc = .ok (.iinc k cst, 3)) (hp : pc + 3 = pc') (hl : L[k]? = some (.val (.int x))) (hv : Int32.ofInt cst = v) (hl' : storeLocals L k (.int (x + v)) = some L') (G : Go md l Z n0 R bytes ml ret own mn Ψ cells slots sf h pc' L' S) : Go md l Z n0 R bytes ml ret own mn Ψ cells slots sf h pc L S := by
  subst hp; subst hv; exact Go.pure _ (fun p e below T target m c A hx hby k => XS.iinc A hx rfl (hb hby hd) hl hl' k) G
theorem Go.iconst {i : Int} (pc' : Nat) (v : Int32) (hd : decode bytes pc = .ok (.iconst i, 1)) (hp : pc + 1 = pc') (hv : Int32.ofInt i = v) (G : Go md l Z n0 R bytes ml ret own mn Ψ cells slots sf h pc' L (.int v :: S)) : Go md l Z n0 R bytes ml ret own mn Ψ cells slots sf h pc L S := by
  subst hp; subst hv; exact Go.pure _ (fun p e below T target m c A hx hby k => XS.iconst A hx rfl (hb hby hd) k) G
theorem Go.bipush {i : Int} (pc' : Nat) (v : Int32) (hd : decode bytes pc = .ok (.bipush i, 2)) (hp : pc + 2 = pc') (hv : (Int8.ofInt i).toInt32 = v) (G : Go md l Z n0 R bytes ml ret own mn Ψ cells slots sf h pc' L (.int v :: S)) : Go md l Z n0 R bytes ml ret own mn Ψ cells slots sf h pc L S := by
  subst hp; subst hv; exact Go.pure _ (fun p e below T target m c A hx hby k => XS.bipush A hx rfl (hb hby hd) k) G
theorem Go.sipush {i : Int} (pc' : Nat) (v : Int32) (hd : decode bytes pc = .ok (.sipush i, 3)) (hp : pc + 3 = pc') (hv : (Int16.ofInt i).toInt32 = v) (G : Go md l Z n0 R bytes ml ret own mn Ψ cells slots sf h pc' L (.int v :: S)) : Go md l Z n0 R bytes ml ret own mn Ψ cells slots sf h pc L S := by
  subst hp; subst hv; exact Go.pure _ (fun p e below T target m c A hx hby k => XS.sipush A hx rfl (hb hby hd) k) G
theorem Go.lconst {i : Fin 2} (pc' : Nat) (v : Int64) (hd : decode bytes pc = .ok (.lconst i, 1)) (hp : pc + 1 = pc') (hv : Int64.ofNat i = v) (G : Go md l Z n0 R bytes ml ret own mn Ψ cells slots sf h pc' L (.long v :: S)) : Go md l Z n0 R bytes ml ret own mn Ψ cells slots sf h pc L S := by
  subst hp; subst hv; exact Go.pure _ (fun p e below T target m c A hx hby k => XS.lconst A hx rfl (hb hby hd) k) G
theorem Go.aconstNull (pc' : Nat) (hd : decode bytes pc = .ok (.aconst_null, 1)) (hp : pc + 1 = pc') (G : Go md l Z n0 R bytes ml ret own mn Ψ cells slots sf h pc' L (.null :: S)) : Go md l Z n0 R bytes ml ret own mn Ψ cells slots sf h pc L S := by
  subst hp; exact Go.pure _ (fun p e below T target m c A hx hby k => XS.aconstNull A hx rfl (hb hby hd) k) G
theorem Go.dup {v : Value} (pc' : Nat) (hd : decode bytes pc = .ok (.dup, 1)) (hp : pc + 1 = pc') (hv : v.category = 1) (G : Go md l Z n0 R bytes ml ret own mn Ψ cells slots sf h pc' L (v :: v :: S)) : Go md l Z n0 R bytes ml ret own mn Ψ cells slots sf h pc L (v :: S) := by
  subst hp; exact Go.pure _ (fun p e below T target m c A hx hby k => XS.dup A hx rfl (hb hby hd) rfl hv k) G
theorem Go.pop {v : Value} (pc' : Nat) (hd : decode bytes pc = .ok (.pop, 1)) (hp : pc + 1 = pc') (hv : v.category = 1) (G : Go md l Z n0 R bytes ml ret own mn Ψ cells slots sf h pc' L S) : Go md l Z n0 R bytes ml ret own mn Ψ cells slots sf h pc L (v :: S) := by
  subst hp; exact Go.pure _ (fun p e below T target m c A hx hby k => XS.pop A hx rfl (hb hby hd) rfl hv k) G
theorem Go.goto {o : Int} (pc' : Nat) (hd : decode bytes pc = .ok (.goto o, 3)) (ho' : 0 ≤ (pc : Int) + o) (hp : ((pc : Int) + o).toNat = pc') (G : Go md l Z n0 R bytes ml ret own mn Ψ cells slots sf h pc' L S) : Go md l Z n0 R bytes ml ret own mn Ψ cells slots sf h pc L S :=
  Go.pure pc' (fun p e below T target m c A hx hby k => XS.goto A hx rfl (pc0 := pc) (pc' := pc') rfl (hb hby hd) ho' hp k) G
theorem Go.ifY {cd : ClassFile.Cond} {x : Int32} {o : Int} (pc' : Nat) (hd : decode bytes pc = .ok (.ifCond cd o, 3)) (ho' : 0 ≤ (pc : Int) + o) (hp : ((pc : Int) + o).toNat = pc') (hc : if_icmp.holds cd x 0 = true) (G : Go md l Z n0 R bytes ml ret own mn Ψ cells slots sf h pc' L S) : Go md l Z n0 R bytes ml ret own mn Ψ cells slots sf h pc L (.int x :: S) :=
  Go.pure pc' (fun p e below T target m c A hx hby k => XS.ifYes A hx rfl (pc0 := pc) (pc' := pc') rfl (hb hby hd) rfl ((if0 _ _).trans hc) ho' hp k) G
theorem Go.ifN {cd : ClassFile.Cond} {x : Int32} {o : Int} (pc' : Nat) (hd : decode bytes pc = .ok (.ifCond cd o, 3)) (hp : pc + 3 = pc') (hc : if_icmp.holds cd x 0 = false) (G : Go md l Z n0 R bytes ml ret own mn Ψ cells slots sf h pc' L S) : Go md l Z n0 R bytes ml ret own mn Ψ cells slots sf h pc L (.int x :: S) := by
  subst hp; exact Go.pure _ (fun p e below T target m c A hx hby k => XS.ifNo A hx rfl (hb hby hd) rfl ((if0 _ _).trans hc) k) G
theorem Go.icmpY {cd : ClassFile.Cond} {x y : Int32} {o : Int} (pc' : Nat) (hd : decode bytes pc = .ok (.if_icmp cd o, 3)) (ho' : 0 ≤ (pc : Int) + o) (hp : ((pc : Int) + o).toNat = pc') (hc : if_icmp.holds cd x y = true) (G : Go md l Z n0 R bytes ml ret own mn Ψ cells slots sf h pc' L S) : Go md l Z n0 R bytes ml ret own mn Ψ cells slots sf h pc L (.int y :: .int x :: S) :=
  Go.pure pc' (fun p e below T target m c A hx hby k => XS.icmpYes A hx rfl (pc0 := pc) (pc' := pc') rfl (hb hby hd) rfl hc ho' hp k) G
theorem Go.icmpN {cd : ClassFile.Cond} {x y : Int32} {o : Int} (pc' : Nat) (hd : decode bytes pc = .ok (.if_icmp cd o, 3)) (hp : pc + 3 = pc') (hc : if_icmp.holds cd x y = false) (G : Go md l Z n0 R bytes ml ret own mn Ψ cells slots sf h pc' L S) : Go md l Z n0 R bytes ml ret own mn Ψ cells slots sf h pc L (.int y :: .int x :: S) := by
  subst hp; exact Go.pure _ (fun p e below T target m c A hx hby k => XS.icmpNo A hx rfl (hb hby hd) rfl hc k) G
theorem Go.acmpY {cd : ClassFile.ACond} {x y : Value} {o : Int} (pc' : Nat) (hd : decode bytes pc = .ok (.if_acmp cd o, 3)) (ho' : 0 ≤ (pc : Int) + o) (hp : ((pc : Int) + o).toNat = pc') (hx' : x.isRef = true) (hy' : y.isRef = true) (hc : acV cd (decide (x = y)) = true) (G : Go md l Z n0 R bytes ml ret own mn Ψ cells slots sf h pc' L S) : Go md l Z n0 R bytes ml ret own mn Ψ cells slots sf h pc L (y :: x :: S) :=
  Go.warm pc' (fun p e s m args below meth c T locs hx hby hml hZ hown X eT => ⟨T, X, eT, fun target k => Jvm.RoadKit.acmp (g := mkF m pc L (y :: x :: S)) X hx rfl hx' hy' (pc0 := pc) rfl (hb hby hd) rfl rfl ho' (by rw [if_pos hc]; exact hp.symm) k⟩) G
theorem Go.acmpN {cd : ClassFile.ACond} {x y : Value} {o : Int} (pc' : Nat) (hd : decode bytes pc = .ok (.if_acmp cd o, 3)) (ho' : 0 ≤ (pc : Int) + o) (hp : pc + 3 = pc') (hx' : x.isRef = true) (hy' : y.isRef = true) (hc : acV cd (decide (x = y)) = false) (G : Go md l Z n0 R bytes ml ret own mn Ψ cells slots sf h pc' L S) : Go md l Z n0 R bytes ml ret own mn Ψ cells slots sf h pc L (y :: x :: S) :=
  Go.warm pc' (fun p e s m args below meth c T locs hx hby hml hZ hown X eT => ⟨T, X, eT, fun target k => Jvm.RoadKit.acmp (g := mkF m pc L (y :: x :: S)) X hx rfl hx' hy' (pc0 := pc) rfl (hb hby hd) rfl rfl ho' (by rw [if_neg (by rw [hc]; exact Bool.false_ne_true)]; exact hp.symm) k⟩) G
theorem Go.nullY {o : Int} (pc' : Nat) (hd : decode bytes pc = .ok (.ifnull o, 3)) (ho' : 0 ≤ (pc : Int) + o) (hp : ((pc : Int) + o).toNat = pc') (G : Go md l Z n0 R bytes ml ret own mn Ψ cells slots sf h pc' L S) : Go md l Z n0 R bytes ml ret own mn Ψ cells slots sf h pc L (.null :: S) :=
  Go.pure pc' (fun p e below T target m c A hx hby k => XS.ifnullYes A hx rfl (pc0 := pc) (pc' := pc') rfl (hb hby hd) rfl ho' hp k) G
theorem Go.nullN {o : Int} {a : Addr} (pc' : Nat) (hd : decode bytes pc = .ok (.ifnull o, 3)) (hp : pc + 3 = pc') (G : Go md l Z n0 R bytes ml ret own mn Ψ cells slots sf h pc' L S) : Go md l Z n0 R bytes ml ret own mn Ψ cells slots sf h pc L (.ref a :: S) := by
  subst hp; exact Go.pure _ (fun p e below T target m c A hx hby k => XS.ifnullNo A hx rfl (hb hby hd) rfl k) G
theorem Go.nonnullY {o : Int} {a : Addr} (pc' : Nat) (hd : decode bytes pc = .ok (.ifnonnull o, 3)) (ho' : 0 ≤ (pc : Int) + o) (hp : ((pc : Int) + o).toNat = pc') (G : Go md l Z n0 R bytes ml ret own mn Ψ cells slots sf h pc' L S) : Go md l Z n0 R bytes ml ret own mn Ψ cells slots sf h pc L (.ref a :: S) :=
  Go.pure pc' (fun p e below T target m c A hx hby k => XS.ifnonnullYes A hx rfl (pc0 := pc) (pc' := pc') rfl (hb hby hd) rfl ho' hp k) G
theorem Go.nonnullN {o : Int} (pc' : Nat) (hd : decode bytes pc = .ok (.ifnonnull o, 3)) (hp : pc + 3 = pc') (G : Go md l Z n0 R bytes ml ret own mn Ψ cells slots sf h pc' L S) : Go md l Z n0 R bytes ml ret own mn Ψ cells slots sf h pc L (.null :: S) := by
  subst hp; exact Go.pure _ (fun p e below T target m c A hx hby k => XS.ifnonnullNo A hx rfl (hb hby hd) rfl k) G
theorem Go.iadd {x y : Int32} (pc' : Nat) (hd : decode bytes pc = .ok (.iadd, 1)) (hp : pc + 1 = pc') (G : Go md l Z n0 R bytes ml ret own mn Ψ cells slots sf h pc' L (.int (x + y) :: S)) : Go md l Z n0 R bytes ml ret own mn Ψ cells slots sf h pc L (.int y :: .int x :: S) := by
  subst hp; exact Go.pure _ (fun p e below T target m c A hx hby k => XS.iadd A hx rfl (hb hby hd) rfl k) G
theorem Go.isub {x y : Int32} (pc' : Nat) (hd : decode bytes pc = .ok (.isub, 1)) (hp : pc + 1 = pc') (G : Go md l Z n0 R bytes ml ret own mn Ψ cells slots sf h pc' L (.int (x - y) :: S)) : Go md l Z n0 R bytes ml ret own mn Ψ cells slots sf h pc L (.int y :: .int x :: S) := by
  subst hp; exact Go.pure _ (fun p e below T target m c A hx hby k => XS.isub A hx rfl (hb hby hd) rfl k) G
theorem Go.imul {x y : Int32} (pc' : Nat) (hd : decode bytes pc = .ok (.imul, 1)) (hp : pc + 1 = pc') (G : Go md l Z n0 R bytes ml ret own mn Ψ cells slots sf h pc' L (.int (x * y) :: S)) : Go md l Z n0 R bytes ml ret own mn Ψ cells slots sf h pc L (.int y :: .int x :: S) := by
  subst hp; exact Go.pure _ (fun p e below T target m c A hx hby k => XS.imul A hx rfl (hb hby hd) rfl k) G
theorem Go.iand {x y : Int32} (pc' : Nat) (hd : decode bytes pc = .ok (.iand, 1)) (hp : pc + 1 = pc') (G : Go md l Z n0 R bytes ml ret own mn Ψ cells slots sf h pc' L (.int (x &&& y) :: S)) : Go md l Z n0 R bytes ml ret own mn Ψ cells slots sf h pc L (.int y :: .int x :: S) := by
  subst hp; exact Go.pure _ (fun p e below T target m c A hx hby k => XS.iand A hx rfl (hb hby hd) rfl k) G
theorem Go.ior {x y : Int32} (pc' : Nat) (hd : decode bytes pc = .ok (.ior, 1)) (hp : pc + 1 = pc') (G : Go md l Z n0 R bytes ml ret own mn Ψ cells slots sf h pc' L (.int (x ||| y) :: S)) : Go md l Z n0 R bytes ml ret own mn Ψ cells slots sf h pc L (.int y :: .int x :: S) := by
  subst hp; exact Go.pure _ (fun p e below T target m c A hx hby k => XS.ior A hx rfl (hb hby hd) rfl k) G
theorem Go.ixor {x y : Int32} (pc' : Nat) (hd : decode bytes pc = .ok (.ixor, 1)) (hp : pc + 1 = pc') (G : Go md l Z n0 R bytes ml ret own mn Ψ cells slots sf h pc' L (.int (x ^^^ y) :: S)) : Go md l Z n0 R bytes ml ret own mn Ψ cells slots sf h pc L (.int y :: .int x :: S) := by
  subst hp; exact Go.pure _ (fun p e below T target m c A hx hby k => XS.ixor A hx rfl (hb hby hd) rfl k) G
theorem Go.ishl {x y : Int32} (pc' : Nat) (hd : decode bytes pc = .ok (.ishl, 1)) (hp : pc + 1 = pc') (G : Go md l Z n0 R bytes ml ret own mn Ψ cells slots sf h pc' L (.int (x <<< (y &&& 31)) :: S)) : Go md l Z n0 R bytes ml ret own mn Ψ cells slots sf h pc L (.int y :: .int x :: S) := by
  subst hp; exact Go.pure _ (fun p e below T target m c A hx hby k => XS.ishl A hx rfl (hb hby hd) rfl k) G
theorem Go.ishr {x y : Int32} (pc' : Nat) (hd : decode bytes pc = .ok (.ishr, 1)) (hp : pc + 1 = pc') (G : Go md l Z n0 R bytes ml ret own mn Ψ cells slots sf h pc' L (.int (x >>> (y &&& 31)) :: S)) : Go md l Z n0 R bytes ml ret own mn Ψ cells slots sf h pc L (.int y :: .int x :: S) := by
  subst hp; exact Go.pure _ (fun p e below T target m c A hx hby k => XS.ishr A hx rfl (hb hby hd) rfl k) G
theorem Go.iushr {x y : Int32} (pc' : Nat) (hd : decode bytes pc = .ok (.iushr, 1)) (hp : pc + 1 = pc') (G : Go md l Z n0 R bytes ml ret own mn Ψ cells slots sf h pc' L (.int (ushr x y) :: S)) : Go md l Z n0 R bytes ml ret own mn Ψ cells slots sf h pc L (.int y :: .int x :: S) := by
  subst hp; exact Go.pure _ (fun p e below T target m c A hx hby k => XS.iushr A hx rfl (hb hby hd) rfl k) G
theorem Go.idiv {x y : Int32} (pc' : Nat) (hd : decode bytes pc = .ok (.idiv, 1)) (hp : pc + 1 = pc') (hy : y ≠ 0) (G : Go md l Z n0 R bytes ml ret own mn Ψ cells slots sf h pc' L (.int (x / y) :: S)) : Go md l Z n0 R bytes ml ret own mn Ψ cells slots sf h pc L (.int y :: .int x :: S) := by
  subst hp; exact Go.pure _ (fun p e below T target m c A hx hby k => XS.idiv A hx rfl (hb hby hd) rfl hy k) G
theorem Go.ineg {x : Int32} (pc' : Nat) (hd : decode bytes pc = .ok (.ineg, 1)) (hp : pc + 1 = pc') (G : Go md l Z n0 R bytes ml ret own mn Ψ cells slots sf h pc' L (.int (-x) :: S)) : Go md l Z n0 R bytes ml ret own mn Ψ cells slots sf h pc L (.int x :: S) := by
  subst hp; exact Go.pure _ (fun p e below T target m c A hx hby k => XS.ineg A hx rfl (hb hby hd) rfl k) G
theorem Go.ladd {x y : Int64} (pc' : Nat) (hd : decode bytes pc = .ok (.ladd, 1)) (hp : pc + 1 = pc') (G : Go md l Z n0 R bytes ml ret own mn Ψ cells slots sf h pc' L (.long (x + y) :: S)) : Go md l Z n0 R bytes ml ret own mn Ψ cells slots sf h pc L (.long y :: .long x :: S) := by
  subst hp; exact Go.pure _ (fun p e below T target m c A hx hby k => XS.ladd A hx rfl (hb hby hd) rfl k) G
theorem Go.lsub {x y : Int64} (pc' : Nat) (hd : decode bytes pc = .ok (.lsub, 1)) (hp : pc + 1 = pc') (G : Go md l Z n0 R bytes ml ret own mn Ψ cells slots sf h pc' L (.long (x - y) :: S)) : Go md l Z n0 R bytes ml ret own mn Ψ cells slots sf h pc L (.long y :: .long x :: S) := by
  subst hp; exact Go.pure _ (fun p e below T target m c A hx hby k => XS.lsub A hx rfl (hb hby hd) rfl k) G
theorem Go.lmul {x y : Int64} (pc' : Nat) (hd : decode bytes pc = .ok (.lmul, 1)) (hp : pc + 1 = pc') (G : Go md l Z n0 R bytes ml ret own mn Ψ cells slots sf h pc' L (.long (x * y) :: S)) : Go md l Z n0 R bytes ml ret own mn Ψ cells slots sf h pc L (.long y :: .long x :: S) := by
  subst hp; exact Go.pure _ (fun p e below T target m c A hx hby k => XS.lmul A hx rfl (hb hby hd) rfl k) G
theorem Go.land {x y : Int64} (pc' : Nat) (hd : decode bytes pc = .ok (.land, 1)) (hp : pc + 1 = pc') (G : Go md l Z n0 R bytes ml ret own mn Ψ cells slots sf h pc' L (.long (x &&& y) :: S)) : Go md l Z n0 R bytes ml ret own mn Ψ cells slots sf h pc L (.long y :: .long x :: S) := by
  subst hp; exact Go.pure _ (fun p e below T target m c A hx hby k => XS.land A hx rfl (hb hby hd) rfl k) G
theorem Go.lor {x y : Int64} (pc' : Nat) (hd : decode bytes pc = .ok (.lor, 1)) (hp : pc + 1 = pc') (G : Go md l Z n0 R bytes ml ret own mn Ψ cells slots sf h pc' L (.long (x ||| y) :: S)) : Go md l Z n0 R bytes ml ret own mn Ψ cells slots sf h pc L (.long y :: .long x :: S) := by
  subst hp; exact Go.pure _ (fun p e below T target m c A hx hby k => XS.lor A hx rfl (hb hby hd) rfl k) G
theorem Go.lxor {x y : Int64} (pc' : Nat) (hd : decode bytes pc = .ok (.lxor, 1)) (hp : pc + 1 = pc') (G : Go md l Z n0 R bytes ml ret own mn Ψ cells slots sf h pc' L (.long (x ^^^ y) :: S)) : Go md l Z n0 R bytes ml ret own mn Ψ cells slots sf h pc L (.long y :: .long x :: S) := by
  subst hp; exact Go.pure _ (fun p e below T target m c A hx hby k => XS.lxor A hx rfl (hb hby hd) rfl k) G
theorem Go.lneg {x : Int64} (pc' : Nat) (hd : decode bytes pc = .ok (.lneg, 1)) (hp : pc + 1 = pc') (G : Go md l Z n0 R bytes ml ret own mn Ψ cells slots sf h pc' L (.long (-x) :: S)) : Go md l Z n0 R bytes ml ret own mn Ψ cells slots sf h pc L (.long x :: S) := by
  subst hp; exact Go.pure _ (fun p e below T target m c A hx hby k => XS.lneg A hx rfl (hb hby hd) rfl k) G
theorem Go.lcmp {x y : Int64} (pc' : Nat) (hd : decode bytes pc = .ok (.lcmp, 1)) (hp : pc + 1 = pc') (G : Go md l Z n0 R bytes ml ret own mn Ψ cells slots sf h pc' L (.int (lcmpW x y) :: S)) : Go md l Z n0 R bytes ml ret own mn Ψ cells slots sf h pc L (.long y :: .long x :: S) := by
  subst hp; exact Go.pure _ (fun p e below T target m c A hx hby k => XS.lcmp A hx rfl (hb hby hd) rfl k) G
theorem Go.lushr {x : Int64} {y : Int32} (pc' : Nat) (hd : decode bytes pc = .ok (.lushr, 1)) (hp : pc + 1 = pc') (G : Go md l Z n0 R bytes ml ret own mn Ψ cells slots sf h pc' L (.long (ushrL x y) :: S)) : Go md l Z n0 R bytes ml ret own mn Ψ cells slots sf h pc L (.int y :: .long x :: S) := by
  subst hp; exact Go.pure _ (fun p e below T target m c A hx hby k => XS.lushr A hx rfl (hb hby hd) rfl k) G
theorem Go.lshl {x : Int64} {y : Int32} (pc' : Nat) (hd : decode bytes pc = .ok (.lshl, 1)) (hp : pc + 1 = pc') (G : Go md l Z n0 R bytes ml ret own mn Ψ cells slots sf h pc' L (.long (x <<< (y &&& 0x3f).toInt64) :: S)) : Go md l Z n0 R bytes ml ret own mn Ψ cells slots sf h pc L (.int y :: .long x :: S) := by
  subst hp; exact Go.pure _ (fun p e below T target m c A hx hby k => XS.lshl A hx rfl (hb hby hd) rfl k) G
theorem Go.lrem {x y : Int64} (pc' : Nat) (hd : decode bytes pc = .ok (.lrem, 1)) (hp : pc + 1 = pc') (hy : y ≠ 0) (G : Go md l Z n0 R bytes ml ret own mn Ψ cells slots sf h pc' L (.long (x - (x / y) * y) :: S)) : Go md l Z n0 R bytes ml ret own mn Ψ cells slots sf h pc L (.long y :: .long x :: S) := by
  subst hp; exact Go.pure _ (fun p e below T target m c A hx hby k => XS.lrem A hx rfl (hb hby hd) rfl hy k) G
theorem Go.i2l {x : Int32} (pc' : Nat) (hd : decode bytes pc = .ok (.i2l, 1)) (hp : pc + 1 = pc') (G : Go md l Z n0 R bytes ml ret own mn Ψ cells slots sf h pc' L (.long x.toInt64 :: S)) : Go md l Z n0 R bytes ml ret own mn Ψ cells slots sf h pc L (.int x :: S) := by
  subst hp; exact Go.pure _ (fun p e below T target m c A hx hby k => XS.i2l A hx rfl (hb hby hd) rfl k) G
theorem Go.l2i {x : Int64} (pc' : Nat) (hd : decode bytes pc = .ok (.l2i, 1)) (hp : pc + 1 = pc') (G : Go md l Z n0 R bytes ml ret own mn Ψ cells slots sf h pc' L (.int x.toInt32 :: S)) : Go md l Z n0 R bytes ml ret own mn Ψ cells slots sf h pc L (.long x :: S) := by
  subst hp; exact Go.pure _ (fun p e below T target m c A hx hby k => XS.l2i A hx rfl (hb hby hd) rfl k) G
theorem Go.i2b {x : Int32} (pc' : Nat) (hd : decode bytes pc = .ok (.i2b, 1)) (hp : pc + 1 = pc') (G : Go md l Z n0 R bytes ml ret own mn Ψ cells slots sf h pc' L (.int x.toInt8.toInt32 :: S)) : Go md l Z n0 R bytes ml ret own mn Ψ cells slots sf h pc L (.int x :: S) := by
  subst hp; exact Go.pure _ (fun p e below T target m c A hx hby k => XS.i2b A hx rfl (hb hby hd) rfl k) G
theorem Go.i2c {x : Int32} (pc' : Nat) (hd : decode bytes pc = .ok (.i2c, 1)) (hp : pc + 1 = pc') (G : Go md l Z n0 R bytes ml ret own mn Ψ cells slots sf h pc' L (.int (chr x) :: S)) : Go md l Z n0 R bytes ml ret own mn Ψ cells slots sf h pc L (.int x :: S) := by
  subst hp; exact Go.pure _ (fun p e below T target m c A hx hby k => XS.i2c A hx rfl (hb hby hd) rfl k) G
theorem Go.dupX1 {v w : Value} (pc' : Nat) (hd : decode bytes pc = .ok (.dup_x1, 1)) (hp : pc + 1 = pc') (hv : v.category = 1) (hw : w.category = 1) (G : Go md l Z n0 R bytes ml ret own mn Ψ cells slots sf h pc' L (v :: w :: v :: S)) : Go md l Z n0 R bytes ml ret own mn Ψ cells slots sf h pc L (v :: w :: S) := by
  subst hp; exact Go.pure _ (fun p e below T target m c A hx hby k => XS.dupX1 A hx rfl (hb hby hd) rfl hv hw k) G
theorem sub1 {x : Addr} (q : x ∈ sf) : ∀ y ∈ [x], y ∈ sf := fun y hy => by cases List.mem_singleton.mp hy; exact q
/-- one field of an ordinary object known, each laid one holds something -/
theorem Fld.any {a : Addr} {C O n d O' n' d' : String} {v : Value} {k : Nat} (F : Fld Z h a O' n' d' v) (E : Exa Z h a C) (wi : (Jvm.Cond.instantiable C k).before a0 Z = true) (Lw : Laid Z a0 C O n d) : ∃ w, Fld Z h a O n d w := by
  obtain ⟨cell, cf, kk, i, f, h1, -, -, h4, h5, -, -⟩ := F
  obtain ⟨c2, k2, g1, g2, g3, g4, g5⟩ := E
  cases h1.symm.trans g1
  obtain ⟨c3, k3, i1, i2, i3, -⟩ := Cond.instantiable_spec wi
  cases g2.symm.trans i1
  cases g3.symm.trans i2
  obtain ⟨c, kc, cf', kf, j, f', a1, a2, a3, a4, a5, a6, -⟩ := Lw.spec
  cases g2.symm.trans a1
  cases g3.symm.trans a2
  have hs := g5 i3
  have hlt : f'.slot < cell.slots.size := by rw [hs]; exact (Array.getElem?_eq_some_iff.mp a6).1
  exact ⟨cell.slots[f'.slot], cell, cf', kf, j, f', h1, a3, a4, h4, h5, a5, Array.getElem?_eq_getElem hlt⟩
theorem Go.irem {x y : Int32} (pc' : Nat) (hd : decode bytes pc = .ok (.irem, 1)) (hp : pc + 1 = pc') (hy : y ≠ 0) (G : Go md l Z n0 R bytes ml ret own mn Ψ cells slots sf h pc' L (.int (x % y) :: S)) : Go md l Z n0 R bytes ml ret own mn Ψ cells slots sf h pc L (.int y :: .int x :: S) := by
  subst hp; exact Go.warm _ (fun p e s m args below meth c T locs hx hby hml hZ hown X eT => ⟨T, X, eT, fun target k => iremM (g := mkF m pc L (.int y :: .int x :: S)) X hx rfl (hb hby hd) rfl hy k⟩) G
theorem Go.ldcI {index : Nat} {v : Int32} (pc' : Nat) (hd : decode bytes pc = .ok (.ldc index, 2)) (hp : pc + 2 = pc') (w : (Jvm.Cond.constant own index v).before a0 Z = true) (G : Go md l Z n0 R bytes ml ret own mn Ψ cells slots sf h pc' L (.int v :: S)) : Go md l Z n0 R bytes ml ret own mn Ψ cells slots sf h pc L S := by
  subst hp; exact Go.warm _ (fun p e s m args below meth c T locs hx hby hml hZ hown X eT => ⟨T, X, eT, fun target k => X.ldcI (g := mkF m pc L S) hx hown (mvT hZ w) rfl (hb hby hd) k⟩) G
theorem Go.ldc2J {index : Nat} {v : Int64} (pc' : Nat) (hd : decode bytes pc = .ok (.ldc2_w index, 3)) (hp : pc + 3 = pc') (w : (Jvm.Cond.constantLong own index v).before a0 Z = true) (G : Go md l Z n0 R bytes ml ret own mn Ψ cells slots sf h pc' L (.long v :: S)) : Go md l Z n0 R bytes ml ret own mn Ψ cells slots sf h pc L S := by
  subst hp; exact Go.warm _ (fun p e s m args below meth c T locs hx hby hml hZ hown X eT => ⟨T, X, eT, fun target k => X.ldc2J (g := mkF m pc L S) hx hown (mvT hZ w) rfl (hb hby hd) k⟩) G
/-! fields -/
theorem Go.getF {R0 O n d : String} {index : Nat} {a : Addr} {v : Value} (pc' : Nat) (hd : decode bytes pc = .ok (.getfield index, 3)) (hp : pc + 3 = pc') (w : (Jvm.Cond.fieldLink own index R0 n d).before a0 Z = true) (via : Via Z R0 O n d) (F : Fld Z h a O n d v) (G : Go md l Z n0 R bytes ml ret own mn Ψ cells slots sf h pc' L (v :: S)) :
    Go md l Z n0 R bytes ml ret own mn Ψ cells slots sf h pc L (.ref a :: S) := by
  subst hp; exact Go.warm _ (fun p e s m args below meth c T locs hx hby hml hZ hown X eT => Jvm.RoadKit.getF X hx hZ hown (host := "") (Or.inl w) via eT F (g := mkF m pc L (.ref a :: S)) rfl rfl (hb hby hd)) G
theorem Go.getS {R0 O n d : String} {index : Nat} {v : Value} (pc' : Nat) (hd : decode bytes pc = .ok (.getstatic index, 3)) (hp : pc + 3 = pc') (w : (Jvm.Cond.fieldLink own index R0 n d).before a0 Z = true) (via : Via Z R0 O n d) (F : Sta Z Z.heap O n d v) (G : Go md l Z n0 R bytes ml ret own mn Ψ cells slots sf h pc' L (v :: S)) :
    Go md l Z n0 R bytes ml ret own mn Ψ cells slots sf h pc L S := by
  subst hp; exact Go.old fun o _ => Go.warm _ (fun p e s m args below meth c T locs hx hby hml hZ hown X eT => Jvm.RoadKit.getS (host := "") X hx hZ hown w via eT (F.ext o.2) (g := mkF m pc L S) rfl (hb hby hd)) G
theorem Go.putF {R0 O n d C : String} {index kk : Nat} {ty : FieldType} {a : Addr} {v old : Value} (pc' : Nat) (v' : Value) (hd : decode bytes pc = .ok (.putfield index, 3)) (hp : pc + 3 = pc') (w : (Jvm.Cond.fieldLink own index R0 n d).before a0 Z = true) (via : Via Z R0 O n d) (F : Fld Z h a O n d old) (E : Exa Z h a C)
    (Lw : (Jvm.Cond.lays C O n d).before a0 Z = true ∨ ((Jvm.Cond.laysFinal C O n d).before a0 Z = true ∧ own = O ∧ mn = "<init>")) (wi : (Jvm.Cond.instantiable C kk).before a0 Z = true) (hty : parseFieldDescriptor d = some ty) (hnw : narrow ty v = v') (hf : fits ty v' = true) (ha : a ∈ sf) (hn0 : n0 ≤ a)
    (G : ∀ h', Wr h h' a (Jvm.RoadKit.slotOf Z O n d) v' → Go md l Z n0 R bytes ml ret own mn Ψ cells slots sf h' pc' L S) : Go md l Z n0 R bytes ml ret own mn Ψ cells slots sf h pc L (v :: .ref a :: S) := by
  subst hp; exact Go.write _ ha hn0 (fun p e s m args below meth c T locs hx hby hml hnm hZ hown X eT => putFN X hx hZ hown w via eT F E (Lw.imp id fun q => ⟨q.1, q.2.1, hnm.trans q.2.2⟩) wi hty hnw hf (g := mkF m pc L (v :: .ref a :: S)) rfl rfl (hb hby hd)) G
/-! classes -/
theorem Go.castY {K : String} {index : Nat} {a : Addr} (pc' : Nat) (hd : decode bytes pc = .ok (.checkcast index, 3)) (hp : pc + 3 = pc') (w : (Jvm.Cond.classLink own index K).before a0 Z = true) (F : Ins Z h a K true) (G : Go md l Z n0 R bytes ml ret own mn Ψ cells slots sf h pc' L (.ref a :: S)) :
    Go md l Z n0 R bytes ml ret own mn Ψ cells slots sf h pc L (.ref a :: S) := by
  subst hp; exact Go.warm _ (fun p e s m args below meth c T locs hx hby hml hZ hown X eT => Jvm.RoadKit.castY X hx hZ hown w eT F (g := mkF m pc L (.ref a :: S)) rfl rfl (hb hby hd)) G
theorem Go.instY {K : String} {index : Nat} {a : Addr} (pc' : Nat) (hd : decode bytes pc = .ok (.instanceof index, 3)) (hp : pc + 3 = pc') (w : (Jvm.Cond.classLink own index K).before a0 Z = true) (F : Ins Z h a K true) (G : Go md l Z n0 R bytes ml ret own mn Ψ cells slots sf h pc' L (.int 1 :: S)) :
    Go md l Z n0 R bytes ml ret own mn Ψ cells slots sf h pc L (.ref a :: S) := by
  subst hp; exact Go.warm _ (fun p e s m args below meth c T locs hx hby hml hZ hown X eT => Jvm.RoadKit.instY X hx hZ hown w eT F (g := mkF m pc L (.ref a :: S)) rfl rfl (hb hby hd)) G
theorem Go.instNo {K C : String} {index : Nat} {a : Addr} (pc' : Nat) (hd : decode bytes pc = .ok (.instanceof index, 3)) (hp : pc + 3 = pc') (w : (Jvm.Cond.classLink own index K).before a0 Z = true) (E : Exa Z h a C) (F : ∃ c t, Z.vm.findClass C = some c ∧ Z.vm.findClass K = some t ∧ Z.vm.assignable c t = false) (G : Go md l Z n0 R bytes ml ret own mn Ψ cells slots sf h pc' L (.int 0 :: S)) :
    Go md l Z n0 R bytes ml ret own mn Ψ cells slots sf h pc L (.ref a :: S) := by
  subst hp; exact Go.warm _ (fun p e s m args below meth c T locs hx hby hml hZ hown X eT => Jvm.RoadKit.instNo X hx hZ hown w eT E F (g := mkF m pc L (.ref a :: S)) rfl rfl (hb hby hd)) G
theorem Go.instNull {index : Nat} (pc' : Nat) (hd : decode bytes pc = .ok (.instanceof index, 3)) (hp : pc + 3 = pc') (G : Go md l Z n0 R bytes ml ret own mn Ψ cells slots sf h pc' L (.int 0 :: S)) : Go md l Z n0 R bytes ml ret own mn Ψ cells slots sf h pc L (.null :: S) := by
  subst hp; exact Go.warm _ (fun p e s m args below meth c T locs hx hby hml hZ hown X eT => ⟨T, X, eT, fun target k => X.instanceofNull (g := mkF m pc L (.null :: S)) hx rfl rfl (hb hby hd) target k⟩) G
theorem Go.castNull {index : Nat} (pc' : Nat) (hd : decode bytes pc = .ok (.checkcast index, 3)) (hp : pc + 3 = pc') (G : Go md l Z n0 R bytes ml ret own mn Ψ cells slots sf h pc' L (.null :: S)) : Go md l Z n0 R bytes ml ret own mn Ψ cells slots sf h pc L (.null :: S) := by
  subst hp; exact Go.warm _ (fun p e s m args below meth c T locs hx hby hml hZ hown X eT => ⟨T, X, eT, fun target k => X.checkcastNull (g := mkF m pc L (.null :: S)) hx rfl rfl (hb hby hd) target k⟩) G
/-- Object's constructor -/
theorem Go.initO {idx : Nat} {a : Addr} {W : Nat} (pc' : Nat) (hd : decode bytes pc = .ok (.invokespecial idx, 3)) (hp : pc + 3 = pc') (w1 : (Jvm.Cond.methodLink own idx Lib.objectInit).before a0 Z = true) (w2 : (Jvm.Cond.instanceMethod Lib.objectInit).before a0 Z = true) (w3 : (Jvm.Cond.code Lib.objectInit ⟨#[0xb1]⟩ 1 none).before a0 Z = true)
    (hsz : L.size = ml) (hf : 1 ≤ R.frames) (hW : (S.map fun v => v.category).sum ≤ W) (hl : W + 12 ≤ R.locals) (G : Go md l Z n0 R bytes ml ret own mn Ψ cells slots sf h pc' L S) : Go md l Z n0 R bytes ml ret own mn Ψ cells slots sf h pc L (.ref a :: S) := by
  subst hp; exact Go.warm _ (fun p e s m args below meth c T locs hx hby hml hZ hown X eT => Jvm.RoadKit.initO X hx hZ hown w1 w2 w3 eT (g := mkF m pc L (.ref a :: S)) rfl (hsz.trans hml.symm) rfl (hb hby hd) hf (W := W) (by simpa using hW) hl) G
/-! what is made -/
theorem Go.new {C : String} {index n : Nat} (pc' : Nat) (hd : decode bytes pc = .ok (.new index, 3)) (hp : pc + 3 = pc') (w : (Jvm.Cond.classLink own index C).before a0 Z = true) (wi : (Jvm.Cond.instantiable C n).before a0 Z = true) (wz : (Jvm.Cond.initialized C).before a0 Z = true) (hc : cells + 1 ≤ R.cells) (hl : slots + n ≤ R.slots)
    (G : ∀ h' x, h.size = x → n0 ≤ x → Ext h h' → x < h'.size → Exa Z h' x C → (∀ {O nm d : String} {ty : FieldType}, Laid Z a0 C O nm d → parseFieldDescriptor d = some ty → Fld Z h' x O nm d (defaultValue ty)) → Go md l Z n0 R bytes ml ret own mn Ψ (cells + 1) (slots + n) (x :: sf) h' pc' L (.ref x :: S)) :
    Go md l Z n0 R bytes ml ret own mn Ψ cells slots sf h pc L S := by
  subst hp
  intro p e s m args below meth c vm0 T locs hx hby hml hr hlk hn ho X eT hZ B N
  obtain ⟨T', h', X', e', E, A, D, -, st⟩ := newO X hx hZ (by rw [show (s.setVm vm0).vm = vm0 from rfl, hZ.alike.findClass]; exact ho) w wi wz eT (g := mkF m pc L S) rfl (hb hby hd) hc hl
  obtain ⟨s₂, o, h1, r⟩ := G h' _ rfl B.n0le E A.lt A D p e s m args below meth c vm0 T' locs hx hby hml hr hlk hn ho X' e' hZ (B.new E A.lt (Nat.le_refl _)) N
  exact ⟨s₂, o, st _ h1, r⟩
/-- the array at a holds just these -/
def Ary (Z : State) (h : Heap) (a : Addr) (ty : FieldType) (vs : List Value) : Prop := ∃ c : Cell, Arr Z h a c ty ∧ c.slots.toList = vs ∧ vs.length < 2147483648 ∧ ∀ v ∈ vs, fits ty v = true
theorem Ary.lt {a : Addr} {ty : FieldType} {vs : List Value} (A : Ary Z h a ty vs) : a < h.size := by obtain ⟨c, A, -⟩ := A; exact A.lt
theorem Ary.ext {a : Addr} {ty : FieldType} {vs : List Value} (E : Ext h h') (A : Ary Z h a ty vs) : Ary Z h' a ty vs := by obtain ⟨c, A, r⟩ := A; exact ⟨c, A.ext E, r⟩
theorem Ary.other {a b : Addr} {ty : FieldType} {vs : List Value} {sl : Nat} {v : Value} (W : Wr h h' a sl v) (A : Ary Z h b ty vs) (q : b ≠ a) : Ary Z h' b ty vs := by obtain ⟨c, A, r⟩ := A; exact ⟨c, A.other W q, r⟩
theorem Ary.keep {a : Addr} {ty : FieldType} {vs : List Value} {ws : List Addr} (K : Keep h h' ws) (A : Ary Z h a ty vs) (q : a ∉ ws) : Ary Z h' a ty vs := by obtain ⟨c, A, r⟩ := A; exact ⟨c, ⟨K.2.1 a c A.1 q, A.2⟩, r⟩
theorem Ary.set {a : Addr} {ty : FieldType} {vs : List Value} {i : Nat} {v : Value} (W : Wr h h' a i v) (A : Ary Z h a ty vs) (hf : fits ty v = true) : Ary Z h' a ty (vs.set i v) := by
  obtain ⟨c, A, e1, e2, e3⟩ := A
  refine ⟨_, A.same W, by rw [← e1]; simp [Cell.setSlot, Array.toList_setIfInBounds], by simpa using e2, fun w hw => ?_⟩
  rcases List.mem_or_eq_of_mem_set hw with q | rfl
  · exact e3 w q
  · exact hf
theorem clamp_of {j : Int32} {i : Nat} (q : j.toInt = (i : Int)) : ¬ j < 0 ∧ j.toNatClampNeg = i := by
  refine ⟨fun z => ?_, ?_⟩
  · rw [Int32.lt_iff_toInt_lt] at z; rw [q] at z; have : (0 : Int32).toInt = 0 := rfl; omega
  · show j.toInt.toNat = i; rw [q]; rfl
theorem Ary.inb {a : Addr} {ty : FieldType} {vs : List Value} {c : Cell} {j : Int32} {i : Nat} (e1 : c.slots.toList = vs) (q : j.toInt = (i : Int)) (hi : i < vs.length) : ¬ (j < 0 ∨ c.slots.size ≤ j.toNatClampNeg) := by
  obtain ⟨q1, q2⟩ := clamp_of q
  rintro (z | z)
  · exact q1 z
  · rw [q2] at z; subst e1; simp at hi; omega
theorem Ary.at {c : Cell} {vs : List Value} {j : Int32} {i : Nat} {v : Value} (e1 : c.slots.toList = vs) (q : j.toInt = (i : Int)) (hv : vs[i]? = some v) : c.slots[j.toNatClampNeg]? = some v := by
  rw [(clamp_of q).2]; subst e1; rw [← hv]; simp
theorem Go.newA {aty : ArrayType} {n : Int32} {ty : FieldType} (k : Nat) (pc' : Nat) (hd : decode bytes pc = .ok (.newarray aty, 2)) (hp : pc + 2 = pc') (hty : newarray.typeOf aty = ty) (w : (Jvm.Cond.arrayClass ty).before a0 Z = true) (hk : n.toInt = (k : Int)) (cap : Nat) (hcap : k ≤ cap) (hb8 : cap * 8 ≤ 536870912) (hc : cells + 1 ≤ R.cells) (hl : slots + cap ≤ R.slots)
    (G : ∀ h' x, h.size = x → n0 ≤ x → Ext h h' → x < h'.size → Ary Z h' x ty (List.replicate k (defaultValue ty)) → Go md l Z n0 R bytes ml ret own mn Ψ (cells + 1) (slots + cap) (x :: sf) h' pc' L (.ref x :: S)) :
    Go md l Z n0 R bytes ml ret own mn Ψ cells slots sf h pc L (.int n :: S) := by
  subst hp; subst hty
  obtain ⟨q1, q2⟩ := clamp_of hk
  intro p e s m args below meth c vm0 T locs hx hby hml hr hlk hn ho X eT hZ B N
  obtain ⟨T', h', cA, X', e', E, A, st⟩ := newP X hx hZ w eT (g := mkF m pc L (.int n :: S)) rfl (hb hby hd) rfl q1 (cap := cap) (by rw [q2]; exact hcap) hb8 hc hl
  have A' : Ary Z h' h.size (newarray.typeOf aty) (List.replicate k (defaultValue (newarray.typeOf aty))) := ⟨_, A, by simp [Jvm.RoadKit.newA, q2], by simp; omega, fun v hv => by
    rw [(List.mem_replicate.mp hv).2]; cases aty <;> rfl⟩
  obtain ⟨s₂, o, h1, r⟩ := G h' _ rfl B.n0le E A'.lt A' p e s m args below meth c vm0 T' locs hx hby hml hr hlk hn ho X' e' hZ (B.new E A'.lt (Nat.le_refl _)) N
  exact ⟨s₂, o, st _ h1, r⟩
theorem Go.alen {a : Addr} {ty : FieldType} {vs : List Value} (pc' : Nat) (n : Int32) (hd : decode bytes pc = .ok (.arraylength, 1)) (hp : pc + 1 = pc') (A : Ary Z h a ty vs) (hn : Int32.ofNat vs.length = n) (G : Go md l Z n0 R bytes ml ret own mn Ψ cells slots sf h pc' L (.int n :: S)) :
    Go md l Z n0 R bytes ml ret own mn Ψ cells slots sf h pc L (.ref a :: S) := by
  subst hp; subst hn
  obtain ⟨c0, A, e1, e2, e3⟩ := A
  refine Go.warm _ (fun p e s m args below meth c T locs hx hby hml hZ hown X eT => ⟨T, X, eT, fun target k => X.arraylength hx (by rw [eT]; exact A.1) (State.isArrayOf_alike hZ.alike A.2.1) (g := mkF m pc L (.ref a :: S)) rfl rfl (hb hby hd) target ?_⟩) G
  subst e1; simpa using k
theorem Go.caload {a : Addr} {vs : List Value} {j : Int32} (i : Nat) {v : Value} (pc' : Nat) (hd : decode bytes pc = .ok (.caload, 1)) (hp : pc + 1 = pc') (A : Ary Z h a .char vs) (hj : j.toInt = (i : Int)) (hv : vs[i]? = some v) (G : Go md l Z n0 R bytes ml ret own mn Ψ cells slots sf h pc' L (v :: S)) :
    Go md l Z n0 R bytes ml ret own mn Ψ cells slots sf h pc L (.int j :: .ref a :: S) := by
  subst hp
  obtain ⟨c0, A, e1, e2, e3⟩ := A
  have hi := (List.getElem?_eq_some_iff.mp hv).1
  exact Go.warm _ (fun p e s m args below meth c T locs hx hby hml hZ hown X eT => ⟨T, X, eT, fun target k => X.caload hx (by rw [eT]; exact A.1) (State.isArrayOf_alike hZ.alike A.2.1) A.2.2 (Ary.inb (a := a) (ty := .char) e1 hj hi) (Ary.at e1 hj hv) (g := mkF m pc L (.int j :: .ref a :: S)) rfl rfl (hb hby hd) target k⟩) G
theorem Go.baload {a : Addr} {vs : List Value} {j : Int32} (i : Nat) {v : Value} (pc' : Nat) (hd : decode bytes pc = .ok (.baload, 1)) (hp : pc + 1 = pc') (A : Ary Z h a .byte vs) (hj : j.toInt = (i : Int)) (hv : vs[i]? = some v) (G : Go md l Z n0 R bytes ml ret own mn Ψ cells slots sf h pc' L (v :: S)) :
    Go md l Z n0 R bytes ml ret own mn Ψ cells slots sf h pc L (.int j :: .ref a :: S) := by
  subst hp
  obtain ⟨c0, A, e1, e2, e3⟩ := A
  have hi := (List.getElem?_eq_some_iff.mp hv).1
  exact Go.warm _ (fun p e s m args below meth c T locs hx hby hml hZ hown X eT => ⟨T, X, eT, fun target k => X.baloadBytes hx (by rw [eT]; exact A.1) (State.isArrayOf_alike hZ.alike A.2.1) A.2.2 (Ary.inb (a := a) (ty := .byte) e1 hj hi) (Ary.at e1 hj hv) (g := mkF m pc L (.int j :: .ref a :: S)) rfl rfl (hb hby hd) target k⟩) G
theorem Go.laload {a : Addr} {vs : List Value} {j : Int32} (i : Nat) {v : Value} (pc' : Nat) (hd : decode bytes pc = .ok (.laload, 1)) (hp : pc + 1 = pc') (A : Ary Z h a .long vs) (hj : j.toInt = (i : Int)) (hv : vs[i]? = some v) (G : Go md l Z n0 R bytes ml ret own mn Ψ cells slots sf h pc' L (v :: S)) :
    Go md l Z n0 R bytes ml ret own mn Ψ cells slots sf h pc L (.int j :: .ref a :: S) := by
  subst hp
  obtain ⟨c0, A, e1, e2, e3⟩ := A
  have hi := (List.getElem?_eq_some_iff.mp hv).1
  exact Go.warm _ (fun p e s m args below meth c T locs hx hby hml hZ hown X eT => ⟨T, X, eT, fun target k => X.laload hx (by rw [eT]; exact A.1) (State.isArrayOf_alike hZ.alike A.2.1) A.2.2 (Ary.inb (a := a) (ty := .long) e1 hj hi) (Ary.at e1 hj hv) (g := mkF m pc L (.int j :: .ref a :: S)) rfl rfl (hb hby hd) target k⟩) G
theorem Go.aaload {a : Addr} {vs : List Value} {j : Int32} {ty : FieldType} (i : Nat) {v : Value} (pc' : Nat) (hd : decode bytes pc = .ok (.aaload, 1)) (hp : pc + 1 = pc') (hty : ty.isReference = true) (A : Ary Z h a ty vs) (hj : j.toInt = (i : Int)) (hv : vs[i]? = some v) (G : Go md l Z n0 R bytes ml ret own mn Ψ cells slots sf h pc' L (v :: S)) :
    Go md l Z n0 R bytes ml ret own mn Ψ cells slots sf h pc L (.int j :: .ref a :: S) := by
  subst hp
  obtain ⟨c0, A, e1, e2, e3⟩ := A
  have hi := (List.getElem?_eq_some_iff.mp hv).1
  exact Go.warm _ (fun p e s m args below meth c T locs hx hby hml hZ hown X eT => ⟨T, X, eT, fun target k => X.aaload hx (by rw [eT]; exact A.1) (State.isArrayOf_alike hZ.alike A.2.1) hty A.2.2 (Ary.inb (a := a) (ty := ty) e1 hj hi) (Ary.at e1 hj hv) (g := mkF m pc L (.int j :: .ref a :: S)) rfl rfl (hb hby hd) target k⟩) G
theorem Go.castore {a : Addr} {vs : List Value} {j x : Int32} (i : Nat) (pc' : Nat) (hd : decode bytes pc = .ok (.castore, 1)) (hp : pc + 1 = pc') (A : Ary Z h a .char vs) (hj : j.toInt = (i : Int)) (hi : i < vs.length) (ha : a ∈ sf) (hn0 : n0 ≤ a)
    (G : ∀ h', Wr h h' a i (.int (nar .char x)) → Ary Z h' a .char (vs.set i (.int (nar .char x))) → Go md l Z n0 R bytes ml ret own mn Ψ cells slots sf h' pc' L S) : Go md l Z n0 R bytes ml ret own mn Ψ cells slots sf h pc L (.int x :: .int j :: .ref a :: S) := by
  subst hp
  obtain ⟨c0, A0, e1, e2, e3⟩ := A
  obtain ⟨-, q2⟩ := clamp_of hj
  exact Go.write _ ha hn0 (sl := i) (fun p e s m args below meth c T locs hx hby hml hnm hZ hown X eT => by rw [← q2]; exact stC X hx hZ eT A0 (Ary.inb (a := a) (ty := .char) e1 hj hi) (g := mkF m pc L (.int x :: .int j :: .ref a :: S)) rfl rfl (hb hby hd)) (fun h' W => G h' W (Ary.set W ⟨c0, A0, e1, e2, e3⟩ (fits_nar_char _)))
theorem Go.bastore {a : Addr} {vs : List Value} {j x : Int32} (i : Nat) (pc' : Nat) (hd : decode bytes pc = .ok (.bastore, 1)) (hp : pc + 1 = pc') (A : Ary Z h a .byte vs) (hj : j.toInt = (i : Int)) (hi : i < vs.length) (ha : a ∈ sf) (hn0 : n0 ≤ a)
    (G : ∀ h', Wr h h' a i (.int x.toInt8.toInt32) → Ary Z h' a .byte (vs.set i (.int x.toInt8.toInt32)) → Go md l Z n0 R bytes ml ret own mn Ψ cells slots sf h' pc' L S) : Go md l Z n0 R bytes ml ret own mn Ψ cells slots sf h pc L (.int x :: .int j :: .ref a :: S) := by
  subst hp
  obtain ⟨c0, A0, e1, e2, e3⟩ := A
  obtain ⟨-, q2⟩ := clamp_of hj
  exact Go.write _ ha hn0 (sl := i) (fun p e s m args below meth c T locs hx hby hml hnm hZ hown X eT => by rw [← q2]; exact stB X hx hZ eT A0 (Ary.inb (a := a) (ty := .byte) e1 hj hi) (g := mkF m pc L (.int x :: .int j :: .ref a :: S)) rfl rfl (hb hby hd)) (fun h' W => G h' W (Ary.set W ⟨c0, A0, e1, e2, e3⟩ (fits_nar_byte _)))
/-! calls -/
abbrev CPre (R : Room) (as : Array Value) (h : Heap) (kc ks : Nat) : Pt → Array Value → Prop := fun A a => a = as ∧ A.U.heap = h ∧ A.cells + kc ≤ R.cells ∧ A.slots + ks ≤ R.slots
abbrev CPost (Z : State) (n0 : Nat) (Q : Option Value → Heap → List Addr → Prop) (kc ks : Nat) : Pt → Array Value → Option Value → Pt → Prop := fun A _ v B => ∃ (L : List Loc) (sf' : List Addr), Q v B.U.heap sf' ∧ Old Z n0 B.U.heap ∧ Fr n0 L ∧ B.locs = A.locs ++ L ∧ B.cells = A.cells + kc ∧ B.slots = A.slots + ks
abbrev CPostW (Z : State) (EL : List (String × Nat)) (vm0 : Vm) (h : Heap) (n0 : Nat) (Q : Option Value → Heap → List Addr → Prop) (kc ks : Nat) : Pt → Array Value → Option Value → Pt → Prop := fun A _ v B => ∃ (L : List Loc) (sf' : List Addr), Q v B.U.heap sf' ∧ Old Z n0 B.U.heap ∧ Fr n0 L ∧ B.locs = A.locs ++ L ∧ B.cells = A.cells + kc ∧ B.slots = A.slots + ks ∧ CHr Z EL vm0 h B.U.vm B.U.heap ∧ ∀ x ∈ sf', x < B.U.heap.size ∧ Safe Z EL B.U.vm B.U.heap x
def Call (md : Md) (l : Launch) (Z : State) (n0 : Nat) (R : Room) (y : MethodName) (len W : Nat) (as : Array Value) (h : Heap) (sf : List Addr) (kc ks : Nat) (Q : Option Value → Heap → List Addr → Prop) : Prop :=
  ∀ (p : Program) (e : Env) (below : List Frame) (s : State) (vm0 : Vm) (sargs : Array Value), Z.Warmed39 vm0 → Bok md Z n0 s sf vm0 h →
    match md with
    | none => Back l R p e below (s.setVm vm0) sargs y len W (CPre R as h kc ks) (CPost Z n0 Q kc ks)
    | some EL => BackS l R p e below (s.setVm vm0) sargs y len W (CPre R as h kc ks) (CPostW Z EL vm0 h n0 Q kc ks)
theorem Bok.called {s U : State} {vm0 : Vm} {sf' : List Addr} (B : Bok (some EL) Z n0 s sf vm0 h) (h2 : (s.setVm vm0).Since U.vm U.heap.size) (o : Old Z n0 U.heap) (C : CHr Z EL vm0 h U.vm U.heap) (q : ∀ x ∈ sf', x < U.heap.size ∧ Safe Z EL U.vm U.heap x) : Bok (some EL) Z n0 s (sf' ++ sf) U.vm U.heap := by
  obtain ⟨-, ⟨k, b1, b2⟩, b3, b4, b5⟩ := B
  refine ⟨o, ⟨_, b1.trans h2 (Nat.le_trans b2 C.2.1), Nat.le_refl _⟩, b3, b4.trans C, fun x hx => ?_⟩
  rcases List.mem_append.mp hx with hx | hx
  · exact q x hx
  · exact ⟨Nat.lt_of_lt_of_le (b5 x hx).1 C.2.1, C.safe (b5 x hx).1 (b5 x hx).2⟩
theorem Go.callS {y : MethodName} {index maxY kc ks W : Nat} {bytesY : ByteArray} {retY : Option FieldType} {sfc : List Addr} {Q : Option Value → Heap → List Addr → Prop} {St : List Value} (pc' : Nat) (argsL : List Value) (hd : decode bytes pc = .ok (.invokestatic index, 3)) (hp : pc + 3 = pc') (hst : St = argsL.reverse ++ S)
    (wl : (Jvm.Cond.methodLink own index y).before a0 Z = true) (ws : (Jvm.Cond.static y).before a0 Z = true) (wi : (Jvm.Cond.initialized y.cls).before a0 Z = true) (wc : (Jvm.Cond.code y bytesY maxY retY).before a0 Z = true) (hy : y.cls ≠ "java/lang/invoke/MethodHandle" ∧ y.cls ≠ "java/lang/invoke/VarHandle")
    (hC : Call md l Z n0 R y 3 W argsL.toArray h sfc kc ks Q) (hlen : ∀ sig, parseMethodDescriptor y.desc = some sig → argsL.length = sig.parameters.length) (hW : (S.map fun v => v.category).sum ≤ W) (hsz : L.size = ml) (hc : cells + kc ≤ R.cells) (hs : slots + ks ≤ R.slots) (hsf : ∀ x ∈ sfc, x ∈ sf)
    (G : ∀ v h' sf', Q v h' sf' → Go md l Z n0 R bytes ml ret own mn Ψ (cells + kc) (slots + ks) (sf' ++ sf) h' pc' L (v.toList ++ S)) : Go md l Z n0 R bytes ml ret own mn Ψ cells slots sf h pc L St := by
  subst hp; subst hst
  intro p e s m args below meth c vm0 T locs hx hby hml hr hlk hn ho X eT hZ B N
  have hown : (s.setVm vm0).vm.findClass own = some m.cls := by rw [show (s.setVm vm0).vm = vm0 from rfl, hZ.alike.findClass]; exact ho
  have K := hC p e below s vm0 args hZ (B.sub hsf)
  cases md with
  | none =>
    obtain ⟨v, vm₁, ⟨U, L1, c1, n1⟩, -, X', ⟨L', sf', q1, q0, q2, q3, q4, q5⟩, st⟩ := Jvm.LawKit.callS X hx hown (mvT hZ wl) (mvT hZ ws) (mvT hZ wi) (mvT hZ wc) hy K (g := mkF m pc L (argsL.reverse ++ S)) rfl (hsz.trans hml.symm) hlen rfl (by simpa using hW) (hb hby hd) (fun _ _ => ⟨rfl, eT, hc, hs⟩)
    dsimp only [Pt.U, Pt.locs, Pt.cells, Pt.slots] at q1 q0 q3 q4 q5 X' st
    subst q3 q4 q5
    obtain ⟨s₂, o, h1, r⟩ := G v U.heap sf' q1 p e s m args below meth c vm0 U _ hx hby hml hr hlk hn ho X' rfl hZ ⟨q0, B.2⟩ (N.app q2)
    exact ⟨s₂, o, st _ h1, r⟩
  | some EL =>
    obtain ⟨v, vm₁, ⟨U, L1, c1, n1⟩, -, X', hS, hgr, ⟨L', sf', q1, q0, q2, q3, q4, q5, q6, q7⟩, st⟩ := callSS X hx hown (mvT hZ wl) (mvT hZ ws) (mvT hZ wi) (mvT hZ wc) hy K (g := mkF m pc L (argsL.reverse ++ S)) rfl (hsz.trans hml.symm) hlen rfl (by simpa using hW) (hb hby hd) (fun _ _ => ⟨rfl, eT, hc, hs⟩)
    dsimp only [Pt.U, Pt.locs, Pt.cells, Pt.slots] at q1 q0 q3 q4 q5 q6 q7 X' st hS hgr
    subst q3 q4 q5
    obtain ⟨s₂, o, h1, r⟩ := G v U.heap sf' q1 p e s m args below meth c U.vm U _ hx hby hml hr hlk hn ho X' rfl (State.Warmed39.trans (t := s.setVm vm0) hZ hS.1) (B.called hS q0 q6 q7) (N.app q2)
    exact ⟨s₂, o, st.trans h1, r⟩
theorem Go.callC {y : MethodName} {index maxY kc ks W : Nat} {bytesY : ByteArray} {sfc : List Addr} {Q : Option Value → Heap → List Addr → Prop} {St : List Value} {a : Addr} (pc' : Nat) (argsL : List Value) (hd : decode bytes pc = .ok (.invokespecial index, 3)) (hp : pc + 3 = pc') (hst : St = argsL.reverse ++ .ref a :: S) (hy1 : y.name = "<init>")
    (wl : (Jvm.Cond.methodLink own index y).before a0 Z = true) (ws : (Jvm.Cond.instanceMethod y).before a0 Z = true) (wc : (Jvm.Cond.code y bytesY maxY none).before a0 Z = true) (hy : y.cls ≠ "java/lang/invoke/MethodHandle" ∧ y.cls ≠ "java/lang/invoke/VarHandle")
    (hC : Call md l Z n0 R y 3 W (.ref a :: argsL).toArray h sfc kc ks Q) (hlen : ∀ sig, parseMethodDescriptor y.desc = some sig → argsL.length = sig.parameters.length) (hW : (S.map fun v => v.category).sum ≤ W) (hsz : L.size = ml) (hc : cells + kc ≤ R.cells) (hs : slots + ks ≤ R.slots) (hsf : ∀ x ∈ sfc, x ∈ sf)
    (G : ∀ v h' sf', Q v h' sf' → Go md l Z n0 R bytes ml ret own mn Ψ (cells + kc) (slots + ks) (sf' ++ sf) h' pc' L (v.toList ++ S)) : Go md l Z n0 R bytes ml ret own mn Ψ cells slots sf h pc L St := by
  subst hp; subst hst
  intro p e s m args below meth c vm0 T locs hx hby hml hr hlk hn ho X eT hZ B N
  have hown : (s.setVm vm0).vm.findClass own = some m.cls := by rw [show (s.setVm vm0).vm = vm0 from rfl, hZ.alike.findClass]; exact ho
  have K := hC p e below s vm0 args hZ (B.sub hsf)
  cases md with
  | none =>
    obtain ⟨v, vm₁, ⟨U, L1, c1, n1⟩, -, X', ⟨L', sf', q1, q0, q2, q3, q4, q5⟩, st⟩ := X.specialBack hx hy1 hown (mvT hZ wl) (mvT hZ ws) (mvT hZ wc) hy K (g := mkF m pc L (argsL.reverse ++ .ref a :: S)) rfl (hsz.trans hml.symm) (Steps.refl _) hlen rfl (by simpa using hW) (hb hby hd) (fun _ _ => ⟨rfl, eT, hc, hs⟩)
    dsimp only [Pt.U, Pt.locs, Pt.cells, Pt.slots] at q1 q0 q3 q4 q5 X' st
    subst q3 q4 q5
    obtain ⟨s₂, o, h1, r⟩ := G v U.heap sf' q1 p e s m args below meth c vm0 U _ hx hby hml hr hlk hn ho X' rfl hZ ⟨q0, B.2⟩ (N.app q2)
    exact ⟨s₂, o, st.trans h1, r⟩
  | some EL =>
    obtain ⟨v, vm₁, ⟨U, L1, c1, n1⟩, -, X', hS, hgr, ⟨L', sf', q1, q0, q2, q3, q4, q5, q6, q7⟩, st⟩ := X.specialBackS hx hy1 hown (mvT hZ wl) (mvT hZ ws) (mvT hZ wc) hy K (g := mkF m pc L (argsL.reverse ++ .ref a :: S)) rfl (hsz.trans hml.symm) (Steps.refl _) hlen rfl (by simpa using hW) (hb hby hd) (fun _ _ => ⟨rfl, eT, hc, hs⟩)
    dsimp only [Pt.U, Pt.locs, Pt.cells, Pt.slots] at q1 q0 q3 q4 q5 q6 q7 X' st hS hgr
    subst q3 q4 q5
    obtain ⟨s₂, o, h1, r⟩ := G v U.heap sf' q1 p e s m args below meth c U.vm U _ hx hby hml hr hlk hn ho X' rfl (State.Warmed39.trans (t := s.setVm vm0) hZ hS.1) (B.called hS q0 q6 q7) (N.app q2)
    exact ⟨s₂, o, st.trans h1, r⟩
theorem Go.callV {y z : MethodName} {index kc ks W : Nat} {C : String} {sfc : List Addr} {Q : Option Value → Heap → List Addr → Prop} {St : List Value} {a : Addr} (pc' : Nat) (argsL : List Value) (hd : decode bytes pc = .ok (.invokevirtual index, 3)) (hp : pc + 3 = pc') (hst : St = argsL.reverse ++ .ref a :: S)
    (wl : (Jvm.Cond.methodLink own index y).before a0 Z = true) (wd : (Jvm.Cond.declares y).before a0 Z = true) (wse : (Jvm.Cond.selects C y z).before a0 Z = true) (ws : (Jvm.Cond.instanceMethod z).before a0 Z = true) (hnf : ∀ (s : State), Z.Warmed39 s.vm → NotFace s y) (hy : y.cls ≠ "java/lang/invoke/MethodHandle" ∧ y.cls ≠ "java/lang/invoke/VarHandle")
    (E : Exa Z h a C) (hC : Call md l Z n0 R z 3 W (.ref a :: argsL).toArray h sfc kc ks Q) (hlen : ∀ sig, parseMethodDescriptor y.desc = some sig → argsL.length = sig.parameters.length) (hW : (S.map fun v => v.category).sum ≤ W) (hsz : L.size = ml) (hc : cells + kc ≤ R.cells) (hs : slots + ks ≤ R.slots) (hsf : ∀ x ∈ sfc, x ∈ sf)
    (G : ∀ v h' sf', Q v h' sf' → Go md l Z n0 R bytes ml ret own mn Ψ (cells + kc) (slots + ks) (sf' ++ sf) h' pc' L (v.toList ++ S)) : Go md l Z n0 R bytes ml ret own mn Ψ cells slots sf h pc L St := by
  subst hp; subst hst
  intro p e s m args below meth c vm0 T locs hx hby hml hr hlk hn ho X eT hZ B N
  have hown : (s.setVm vm0).vm.findClass own = some m.cls := by rw [show (s.setVm vm0).vm = vm0 from rfl, hZ.alike.findClass]; exact ho
  have K := hC p e below s vm0 args hZ (B.sub hsf)
  obtain ⟨cB, kB, i1, -, i3⟩ := isOf (s := s.setVm vm0) hZ eT E
  cases md with
  | none =>
    obtain ⟨v, vm₁, ⟨U, L1, c1, n1⟩, -, X', ⟨L', sf', q1, q0, q2, q3, q4, q5⟩, st⟩ := X.virtualBack hx hown (mvT hZ wl) (mvT hZ wd) (hnf _ hZ) (mvT hZ wse) (mvT hZ ws) hy K i1 i3 (g := mkF m pc L (argsL.reverse ++ .ref a :: S)) rfl (hsz.trans hml.symm) (Steps.refl _) hlen rfl (by simpa using hW) (hb hby hd) (fun _ _ => ⟨rfl, eT, hc, hs⟩)
    dsimp only [Pt.U, Pt.locs, Pt.cells, Pt.slots] at q1 q0 q3 q4 q5 X' st
    subst q3 q4 q5
    obtain ⟨s₂, o, h1, r⟩ := G v U.heap sf' q1 p e s m args below meth c vm0 U _ hx hby hml hr hlk hn ho X' rfl hZ ⟨q0, B.2⟩ (N.app q2)
    exact ⟨s₂, o, st.trans h1, r⟩
  | some EL =>
    obtain ⟨v, vm₁, ⟨U, L1, c1, n1⟩, -, X', hS, hgr, ⟨L', sf', q1, q0, q2, q3, q4, q5, q6, q7⟩, st⟩ := X.virtualBackS hx hown (mvT hZ wl) (mvT hZ wd) (hnf _ hZ) (mvT hZ wse) (mvT hZ ws) hy K i1 i3 (g := mkF m pc L (argsL.reverse ++ .ref a :: S)) rfl (hsz.trans hml.symm) (Steps.refl _) hlen rfl (by simpa using hW) (hb hby hd) (fun _ _ => ⟨rfl, eT, hc, hs⟩)
    dsimp only [Pt.U, Pt.locs, Pt.cells, Pt.slots] at q1 q0 q3 q4 q5 q6 q7 X' st hS hgr
    subst q3 q4 q5
    obtain ⟨s₂, o, h1, r⟩ := G v U.heap sf' q1 p e s m args below meth c U.vm U _ hx hby hml hr hlk hn ho X' rfl (State.Warmed39.trans (t := s.setVm vm0) hZ hS.1) (B.called hS q0 q6 q7) (N.app q2)
    exact ⟨s₂, o, st.trans h1, r⟩
/-! from a body to a call -/
theorem met_of_go {cls name desc : String} {as : Array Value} {L0 : Array Slot} {Q : Option Value → Heap → List Addr → Prop} {ws : List Jvm.Cond} (hpn : plainFor ⟨cls, name, desc⟩ = true) (hef : ∀ m, entryFrame m as ml = mkF m 0 L0 []) (G : Go md l Z n0 R bytes ml ret cls name Q 0 0 sf h 0 L0 []) :
    MetFree l ⟨cls, name, desc⟩ (head1 (Jvm.Cond.code ⟨cls, name, desc⟩ bytes ml ret :: ws) R) (fun a U => a = as ∧ Z.Warmed39 U.vm ∧ U.heap = h ∧ Bok md Z n0 U sf U.vm h) (fun _ _ _ _ _ => True)
      (fun _ U o U' => ∃ (v : Option Value) (L' : List Loc) (sf' : List Addr), o = .returned v ∧ Q v U'.heap sf' ∧ Old Z n0 U'.heap ∧ Fr n0 L' ∧ SafeAll md Z sf' U'.vm U'.heap ∧ FinE md Z U o U' L' R.cells R.slots) := by
  refine MetFree.of_bodySF hpn hisR ?_
  intro p e s m args below meth c s₁ Bd hml0 hP hK
  obtain ⟨rfl, hZ, hh, hB⟩ := hP
  have X0 : Stand p l e R s m args below meth c s₁ [] 0 0 := Stand.of_body Bd
  have e0 : s₁.heap = h := by rw [← hh, Bd.state]; rfl
  have q := G p e s m args below meth c s.vm s₁ [] Bd.exec Bd.bytes hml0 Bd.returns (BodyLoose.notSynchronized Bd) (name_of_methodNamed Bd.named Bd.method).1 (by rw [← hZ.alike.findClass]; exact findClass_of_methodNamed Bd.named) X0 e0 hZ hB (Fr.nil n0)
  rw [hef]; exact q
theorem call_of_go {cls name desc : String} {as : Array Value} {L0 : Array Slot} {Q : Option Value → Heap → List Addr → Prop} {rm : Room} {len W : Nat} (hpn : plainFor ⟨cls, name, desc⟩ = true) (hef : ∀ m, entryFrame m as ml = mkF m 0 L0 []) (G : Go md l Z n0 rm bytes ml ret cls name Q 0 0 sf h 0 L0 [])
    (wc : (Jvm.Cond.code ⟨cls, name, desc⟩ bytes ml ret).before a0 Z = true) (wz : (Jvm.Cond.initialized cls).before a0 Z = true) (hf : rm.frames + 1 ≤ R.frames) (hl : W + (ml + 11) + rm.locals ≤ R.locals) :
    Call md l Z n0 R ⟨cls, name, desc⟩ len W as h sf rm.cells rm.slots Q := by
  have hM := met_of_go (desc := desc) (ws := []) hpn hef G
  intro p e below s vm0 sargs hZ B
  cases md with
  | none =>
    have hM' : MetFree l ⟨cls, name, desc⟩ (head1 [Jvm.Cond.code ⟨cls, name, desc⟩ bytes ml ret] rm) (fun a U => a = as ∧ Z.Warmed39 U.vm ∧ U.heap = h) (fun _ _ _ _ _ => True) (fun _ U o U' => ∃ v L, o = .returned v ∧ (fun v h' L => ∃ sf', Q v h' sf' ∧ Old Z n0 h' ∧ Fr n0 L) v U'.heap L ∧ FrameEnd U o U' L rm.cells rm.slots) :=
      fun p e ha hc hk s m args below hfr happ hP hK => by
        obtain ⟨n, o, h1, h2, h3, v, L', sf', e1, q1, q0, q2, -, q4⟩ := hM p e ha hc hk s m args below hfr happ ⟨hP.1, hP.2.1, hP.2.2, B.1, rfl⟩ hK
        exact ⟨n, o, h1, h2, h3, v, L', e1, ⟨sf', q1, q0, q2⟩, q4⟩
    have K := backOf (Q := fun v h' L => ∃ sf', Q v h' sf' ∧ Old Z n0 h' ∧ Fr n0 L) (R := R) (p := p) (e := e) (below := below) (s := s.setVm vm0) (args := sargs) (len := len) (W := W) hM' hZ wc wz hf hl
    intro m meth c A g ig mk a X hg hsize hdg hW hn hp
    obtain ⟨v, P, X', ⟨L', ⟨sf', q1, q0, q2⟩, q3, q4, q5⟩, st⟩ := K m meth c A g ig mk a X hg hsize hdg hW hn hp
    exact ⟨v, P, X', ⟨L', sf', q1, q0, q2, q3, q4, q5⟩, st⟩
  | some EL =>
    obtain ⟨b0, ⟨k, b1, b2⟩, ⟨a1, b3⟩, b4, b5⟩ := B
    exact BackS.of_freeW (bytes := bytes) (maxL := ml) (ret := ret) (E := fun _ first o t L k n => k = rm.cells ∧ n = rm.slots ∧ (∃ v sf', o = .returned v ∧ Q v t.heap sf' ∧ Old Z n0 t.heap ∧ Fr n0 L ∧ ∀ x ∈ sf', x < t.heap.size ∧ Safe Z EL t.vm t.heap x) ∧ CHr Z EL first.vm first.heap t.vm t.heap) hM hf hl
      (fun m meth c A a Y hp => have hU : Z.Warmed39 A.U.vm := wtrans (s := s.setVm vm0) hZ Y.warmed
        ⟨by show (Jvm.Cond.and _ .tt).before a A.U = true; rw [Cond.before_and, mv hU wc]; rfl, mv hU wc, mv hU wz, hp.2.2.1, hp.2.2.2⟩)
      (fun m meth c A a g mk Y hp => by
        have C := CHv.at Y hZ b3 b4.1
        exact ⟨hp.1, wtrans (s := s.setVm vm0) hZ Y.warmed, hp.2.1, b0, ⟨_, (State.WarmedH.refl _).since _, Nat.le_refl _⟩, ⟨a1, b3⟩, by show CHr Z EL A.U.vm A.U.heap A.U.vm h; rw [hp.2.1]; exact CHr.refl C.1, fun x hx => ⟨(b5 x hx).1, C.safe (b5 x hx).1 (b5 x hx).2⟩⟩)
      (fun _ _ _ _ _ _ _ _ _ => trivial)
      (fun _ _ _ _ ⟨v, L', sf', e1, q1, q0, q2, q3, q4, q5⟩ => ⟨L', _, _, q5, rfl, rfl, ⟨v, sf', e1, q1, q0, q2, q3⟩, q4⟩)
      (fun m meth c A a g mk v t L' k n Y hp _ _ ⟨e1, e2, ⟨v', sf', e3, q1, q0, q2, q3⟩, q4⟩ => by
        cases e3; subst e1 e2
        refine ⟨L', sf', q1, q0, q2, rfl, rfl, rfl, (CHv.at Y hZ b3 b4.1).trans ?_, q3⟩
        rw [← hp.2.1]; exact q4)
/-- a law of the library or of a pasted text, in backOf's shape -/
theorem call_of_back {y : MethodName} {as : Array Value} {len W kc ks : Nat} {QB : Option Value → Heap → List Loc → Prop} {Q : Option Value → Heap → List Addr → Prop} (ws : List Addr)
    (hB : ∀ (p : Program) (e : Env) (below : List Frame) (s : State) (sargs : Array Value), Z.Warmed39 s.vm → Back l R p e below s sargs y len W (fun A a => a = as ∧ A.U.heap = h ∧ A.cells + kc ≤ R.cells ∧ A.slots + ks ≤ R.slots) (fun A _ v B => ∃ L, QB v B.U.heap L ∧ B.locs = A.locs ++ L ∧ B.cells = A.cells + kc ∧ B.slots = A.slots + ks))
    (hQ : ∀ v h' L, QB v h' L → Fr n0 L ∧ Keep h h' ws ∧ Q v h' []) (hws : ∀ x ∈ ws, x ∈ sf) (hw0 : ∀ x ∈ ws, n0 ≤ x) : Call md l Z n0 R y len W as h sf kc ks Q := by
  intro p e below s vm0 sargs hZ B
  have K := hB p e below (s.setVm vm0) sargs hZ
  cases md with
  | none =>
    intro m meth c A g ig mk a X hg hsize hdg hW hn hp
    obtain ⟨v, P, X', ⟨L', q1, q3, q4, q5⟩, st⟩ := K m meth c A g ig mk a X hg hsize hdg hW hn hp
    obtain ⟨r1, r2, r3⟩ := hQ _ _ _ q1
    exact ⟨v, P, X', ⟨L', [], r3, B.1.keep r2 hw0, r1, q3, q4, q5⟩, st⟩
  | some EL =>
    obtain ⟨b0, ⟨k, b1, b2⟩, ⟨a1, b3⟩, b4, b5⟩ := B
    intro m meth c A g ig mk a X hg hsize hdg hW hn hp
    obtain ⟨v, P, X', ⟨L', q1, q3, q4, q5⟩, st⟩ := K m meth c A g ig mk a X hg hsize hdg hW hn hp
    obtain ⟨r1, r2, r3⟩ := hQ _ _ _ q1
    have C1 : CHr Z EL vm0 h vm0 P.U.heap := CHr.keep r2 (fun x hx => (b5 x (hws x hx)).2) b4.1
    have C2 : CHr Z EL vm0 P.U.heap P.U.vm P.U.heap := CHv.at X' hZ b3 C1.1
    exact ⟨v, P, X'.retabled X'.warmed.wide, X'.warmed.since _, by rw [hp.2.1]; exact r2.1, ⟨L', [], r3, b0.keep r2 hw0, r1, q3, q4, q5, C1.trans C2, fun x hx => nomatch hx⟩, st⟩
/-! String constants -/
theorem Go.ldcL {index : Nat} {text : String} {vs : List Value} {z : Int32} (n : Nat) (pc' : Nat) (hd : decode bytes pc = .ok (.ldc index, 2)) (hp : pc + 2 = pc') (w : (Jvm.Cond.stringLink own index text).before a0 Z = true) (wS : ∀ a ∈ Bundle.stringAtoms, a.before a0 Z = true) (hmem : (own, index) ∈ EL)
    (ht : (∀ c ∈ text.toList, c.toNat < 256) ∧ text.toList.map (fun c => Value.int (Jvm.Lit.byteI c.toNat.toUInt16)) = vs) (hz : ¬ z < 0) (hl : z.toNatClampNeg = vs.length) (hn : 4 * text.toList.length ≤ n) (hbig : n ≤ 536870912) (hc : cells + 2 ≤ R.cells) (hl' : slots + (n + 4) ≤ R.slots)
    (G : ∀ h' a b k, Ext h h' → Exa Z h' a "java/lang/String" → Fld Z h' a "java/lang/String" "coder" "B" (.int 0) → Fld Z h' a "java/lang/String" "value" "[B" (.ref b) → Arv Z h' b k .byte z vs (.int 0) → (∀ x ∈ sf, x ≠ a ∧ x ≠ b) → Go (some EL) l Z n0 R bytes ml ret own mn Ψ (cells + 2) (slots + (n + 4)) sf h' pc' L (.ref a :: S)) :
    Go (some EL) l Z n0 R bytes ml ret own mn Ψ cells slots sf h pc L S := by
  subst hp
  intro p e s m args below meth c vm0 T locs hx hby hml hr hlk hnm ho X eT hZ B N
  obtain ⟨b0, ⟨k0, b1, b2⟩, ⟨a1, b3⟩, b4, b5⟩ := B
  have hown : vm0.findClass own = some m.cls := by rw [hZ.alike.findClass]; exact ho
  obtain ⟨a, T', h', k1, b, k, X', e', E, hS, hk1, hZ', hown', x1, x2, x3, x4, x5, x6, C, -, hsf, st⟩ := ldcCH X hx hZ hown w wS eT b1 b2 b3 hmem b4.1 ht hz hl (g := mkF m pc L S) rfl (hb hby hd) hn hbig hc hl'
  obtain ⟨s₂, o, h1, r⟩ := G h' a b k E x1 x2 x3 x4 (fun x hx => hsf x (C.safe (b5 x hx).1 (b5 x hx).2)) p e s m args below meth c T'.vm T' locs hx hby hml hr hlk hnm ho X' e' hZ' ⟨b0.ext E, ⟨k1, hS, hk1⟩, ⟨a1, b3⟩, b4.trans C, fun x hx => ⟨Nat.lt_of_lt_of_le (b5 x hx).1 C.2.1, C.safe (b5 x hx).1 (b5 x hx).2⟩⟩ N
  exact ⟨s₂, o, st _ h1, r⟩
theorem ofNat_toInt {n : Nat} (q : n < 2147483648) : (Int32.ofNat n).toInt = (n : Int) := Int32.toInt_ofNat_of_lt (by omega)
theorem Ary.arv {a : Addr} {ty : FieldType} {vs : List Value} (A : Ary Z h a ty vs) (d : Value) : ∃ k, Arv Z h a k ty (Int32.ofNat vs.length) vs d := by
  obtain ⟨c, A, e1, e2, e3⟩ := A
  obtain ⟨q1, q2⟩ := clamp_of (ofNat_toInt e2)
  subst e1
  refine ⟨c.cls, c, A, rfl, by rw [q2]; simp, q1, fun k hk => ?_, fun i hi => ?_⟩
  · simp [List.getD, hk]
  · have : c.slots.toList.getD i d = c.slots[i] := by simp [List.getD, hi]
    rw [this]; exact e3 _ (by simp)
theorem Ary.ofArv {a : Addr} {ty : FieldType} {vs : List Value} {k : ClassId} {z : Int32} {d : Value} (A : Arv Z h a k ty z vs d) (hl : z.toNatClampNeg = vs.length) (hb31 : vs.length < 2147483648) : Ary Z h a ty vs := by
  obtain ⟨c, A, -, e2, -, e4, e5⟩ := A
  have hs : c.slots.size = vs.length := e2.trans hl
  have e1 : c.slots.toList = vs := by
    refine List.ext_getElem? fun i => ?_
    by_cases hi : i < vs.length
    · have := e4 i (by omega)
      simp only [List.getD, List.getElem?_eq_getElem hi, Option.getD_some] at this
      rw [List.getElem?_eq_getElem hi, ← this]; simp
    · rw [List.getElem?_eq_none (by simpa using by omega), List.getElem?_eq_none (by omega)]
  refine ⟨c, A, e1, hb31, fun v hv => ?_⟩
  obtain ⟨i, hi, rfl⟩ := List.mem_iff_getElem.mp hv
  have := e5 i (by omega)
  simpa [List.getD, List.getElem?_eq_getElem hi] using this
theorem fld_int {args : Array Value} {s : State} {t : Term} {O n d : String} {v : Int32} {a : Addr} (hv : (Jvm.Cond.eq (Term.field t O n d) (Term.int v)).value args s none s [] = some true) (ev : t.eval args s none [] s = some (.ref a)) : Fld s s.heap a O n d (.int v) := by
  obtain ⟨x, y, e1, e2, k1, k2⟩ := cmp_v (Or.inl hv)
  cases (Term.int_eval v).symm.trans e2
  obtain ⟨z, rfl⟩ := k2
  have := gotT (Cond.eq_ints e1 (Term.int_eval v)) hv
  subst this
  exact Fld.start ((fld_at ev).symm.trans e1)
theorem no_sub {C O K : String} {k : Nat} (w : (Jvm.Cond.superclass C O).before a0 Z = true) (w0 : (Jvm.Cond.noSuperclass O).before a0 Z = true) (wi : (Jvm.Cond.instantiable K k).before a0 Z = true) (hn : C ≠ K) (hn2 : O ≠ K) : ∃ c t, Z.vm.findClass C = some c ∧ Z.vm.findClass K = some t ∧ Z.vm.assignable c t = false := by
  obtain ⟨c, h0⟩ := found_sup w
  obtain ⟨p, kc, kp, h1, h2, h3, h4, h5, -, h7⟩ := Cond.superclass_spec h0 w
  obtain ⟨c', k', g1, g2, g3, -, -⟩ := Cond.noSuperclass_spec w0
  cases h1.symm.trans g1
  obtain ⟨t, kt, i1, i2, i3, i4, -⟩ := Cond.instantiable_spec wi
  have ne1 := ids_ne h0 i1 hn
  have ne2 := ids_ne g1 i1 hn2
  have i5 : kt.isInterface = false := by simp only [Bool.or_eq_false_iff] at i4; exact i4.1
  refine ⟨c, t, h0, i1, ?_⟩
  show Z.vm.assignableAux (255 + 1) c t = false
  have j1 : ∀ f, Z.vm.isSubclassAux f p t = false := fun f => by cases f <;> simp [Vm.isSubclassAux, ne2, g2, g3]
  have j2 : ∀ f, Z.vm.isSubclassAux f c t = false := fun f => by cases f <;> simp [Vm.isSubclassAux, ne1, h2, h4, j1]
  simp [Vm.assignableAux, ne1, h2, i2, h5, i3, i5, Vm.isSubclass, j2]
theorem range_take {vs : List Value} {i n : Nat} {dv : Value} (q : i + n ≤ vs.length) : (List.range n).map (fun k => vs.getD (i + k) dv) = (vs.drop i).take n := by
  refine List.ext_getElem (by simp; omega) fun k h1 h2 => ?_
  have hk : i + k < vs.length := by simp at h1; omega
  simp [List.getD, List.getElem?_eq_getElem hk]
/-- System.arraycopy between two arrays of one primitive kind -/
theorem Go.acopy {index : Nat} {a b : Addr} {ty : FieldType} {vs vd : List Value} {sp dp nn : Int32} {W : Nat} (i j n : Nat) (pc' : Nat) (hd : decode bytes pc = .ok (.invokestatic index, 3)) (hp : pc + 3 = pc') (w1 : (Jvm.Cond.methodLink own index Jvm.Stand.acN).before a0 Z = true) (w2 : (Jvm.Cond.native Jvm.Stand.acN).before a0 Z = true) (w3 : (Jvm.Cond.static Jvm.Stand.acN).before a0 Z = true) (w4 : (Jvm.Cond.initialized "java/lang/System").before a0 Z = true)
    (A : Ary Z h a ty vs) (B : Ary Z h b ty vd) (hty : refKind ty = false) (hi : sp.toInt = (i : Int)) (hj : dp.toInt = (j : Int)) (hn : nn.toInt = (n : Int)) (h4 : i + n ≤ vs.length) (h5 : j + n ≤ vd.length) (hb' : b ∈ sf) (hn0 : n0 ≤ b) (hsz : L.size = ml) (hf : 1 ≤ R.frames) (hW : (S.map fun v => v.category).sum ≤ W) (hlo : W + (nativeFrameWords "java/lang/System" "arraycopy" 5 + 11) ≤ R.locals)
    (G : ∀ h', Keep h h' [b] → Ary Z h' b ty (vd.take j ++ (vs.drop i).take n ++ vd.drop (j + n)) → Go md l Z n0 R bytes ml ret own mn Ψ cells slots sf h' pc' L S) : Go md l Z n0 R bytes ml ret own mn Ψ cells slots sf h pc L (.int nn :: .int dp :: .ref b :: .int sp :: .ref a :: S) := by
  subst hp
  intro p e s m args below meth c vm0 T locs hx hby hml hr hlk hnm ho X eT hZ B0 N
  obtain ⟨i1, i2⟩ := clamp_of hi
  obtain ⟨j1, j2⟩ := clamp_of hj
  obtain ⟨n1, n2⟩ := clamp_of hn
  have la : vs.length < 2147483648 := by obtain ⟨_, _, _, q, _⟩ := A; exact q
  have lb : vd.length < 2147483648 := by obtain ⟨_, _, _, q, _⟩ := B; exact q
  obtain ⟨ka, KA⟩ := A.arv (.int 0)
  obtain ⟨kb, KB⟩ := B.arv (.int 0)
  have za := (clamp_of (ofNat_toInt la)).2
  have zb := (clamp_of (ofNat_toInt lb)).2
  obtain ⟨T', h', L', X', e', N', K, B', st⟩ := cpA X hx hZ (by rw [show (s.setVm vm0).vm = vm0 from rfl, hZ.alike.findClass]; exact ho) w1 w2 w3 w4 eT (us := (vs.drop i).take n) KA KB (Or.inl ⟨rfl, hty⟩) i1 j1 n1 (by rw [i2, n2, za]; exact h4) (by rw [j2, n2, zb]; exact h5) (by rw [i2, n2]; exact (range_take h4).symm) (by rw [j2, n2]; exact h5) N hn0 (g := mkF m pc L (.int nn :: .int dp :: .ref b :: .int sp :: .ref a :: S)) rfl (hsz.trans hml.symm) rfl (hb hby hd) hf (W := W) (by simpa using hW) hlo
  rw [j2, n2] at B'
  have lz : (vd.take j ++ (vs.drop i).take n ++ vd.drop (j + n)).length = vd.length := by simp; omega
  obtain ⟨s₂, o, h1, r⟩ := G h' K (Ary.ofArv B' (by rw [zb, lz]) (by rw [lz]; exact lb)) p e s m args below meth c vm0 T' L' hx hby hml hr hlk hnm ho X' e' hZ (B0.keep K (sub1 hb') (fun y hy => by cases List.mem_singleton.mp hy; exact hn0)) N'
  exact ⟨s₂, o, st _ h1, r⟩
/-- one place of an array known -/
def At1 (Z : State) (h : Heap) (a : Addr) (ty : FieldType) (i : Nat) (v : Value) : Prop := ∃ c : Cell, Arr Z h a c ty ∧ c.slots[i]? = some v
theorem At1.ext {a : Addr} {ty : FieldType} {i : Nat} {v : Value} (A : At1 Z h a ty i v) (E : Ext h h') : At1 Z h' a ty i v := by obtain ⟨c, A, r⟩ := A; exact ⟨c, A.ext E, r⟩
theorem Go.laload1 {a : Addr} {j : Int32} (i : Nat) {v : Value} (pc' : Nat) (hd : decode bytes pc = .ok (.laload, 1)) (hp : pc + 1 = pc') (A : At1 Z h a .long i v) (hj : j.toInt = (i : Int)) (G : Go md l Z n0 R bytes ml ret own mn Ψ cells slots sf h pc' L (v :: S)) :
    Go md l Z n0 R bytes ml ret own mn Ψ cells slots sf h pc L (.int j :: .ref a :: S) := by
  subst hp
  obtain ⟨c0, A, e1⟩ := A
  obtain ⟨q1, q2⟩ := clamp_of hj
  have hi := (Array.getElem?_eq_some_iff.mp e1).1
  exact Go.warm _ (fun p e s m args below meth c T locs hx hby hml hZ hown X eT => ⟨T, X, eT, fun target k => X.laload hx (by rw [eT]; exact A.1) (State.isArrayOf_alike hZ.alike A.2.1) A.2.2 (by rw [q2]; rintro (z | z); exact q1 z; omega) (by rw [q2]; exact e1) (g := mkF m pc L (.int j :: .ref a :: S)) rfl rfl (hb hby hd) target k⟩) G
/-! arrays of references, longs stored, switches -/
/-- the array at a is one over the class C -/
def Ova (Z : State) (h : Heap) (a : Addr) (C : String) : Prop := ∃ c : Cell, h[a]? = some c ∧ Ovr Z c.cls C
theorem Ova.ext {a : Addr} {C : String} (O : Ova Z h a C) (E : Ext h h') : Ova Z h' a C := by obtain ⟨c, q, r⟩ := O; exact ⟨c, E.2 _ _ q, r⟩
theorem Ova.wr {a b : Addr} {C : String} {sl : Nat} {v : Value} (O : Ova Z h a C) (W : Wr h h' b sl v) : Ova Z h' a C := by
  obtain ⟨c, q, r⟩ := O
  obtain ⟨c', e1, e2, -⟩ := wr_at W q
  exact ⟨c', e1, by rw [e2]; exact r⟩
theorem Ova.keep {a : Addr} {C : String} {ws : List Addr} (O : Ova Z h a C) (K : Keep h h' ws) : Ova Z h' a C := by
  obtain ⟨c, q, r⟩ := O
  obtain ⟨c', e1, e2, -⟩ := K.2.2 a c q
  exact ⟨c', e1, by rw [e2]; exact r⟩
theorem sto_of {a y : Addr} {ty : FieldType} {C : String} {vs : List Value} (A : Ary Z h a ty vs) (O : Ova Z h a C) (I : Ins Z h y C true) : Sto Z h a (.ref y) := by
  obtain ⟨c, A, -⟩ := A
  obtain ⟨c', q, r⟩ := O
  cases A.1.symm.trans q
  exact Sto.of A r I
theorem Go.newR {C : String} {index : Nat} {n : Int32} (k : Nat) (pc' : Nat) (hd : decode bytes pc = .ok (.anewarray index, 3)) (hp : pc + 3 = pc') (w1 : (Jvm.Cond.classLink own index C).before a0 Z = true) (w2 : (Jvm.Cond.arrayOver (.object C)).before a0 Z = true) (hk : n.toInt = (k : Int)) (cap : Nat) (hcap : k ≤ cap) (hb8 : cap * 8 ≤ 536870912) (hc : cells + 1 ≤ R.cells) (hl : slots + cap ≤ R.slots)
    (G : ∀ h' x, h.size = x → n0 ≤ x → Ext h h' → x < h'.size → Ary Z h' x (.object C) (List.replicate k .null) → Ova Z h' x C → Go md l Z n0 R bytes ml ret own mn Ψ (cells + 1) (slots + cap) (x :: sf) h' pc' L (.ref x :: S)) :
    Go md l Z n0 R bytes ml ret own mn Ψ cells slots sf h pc L (.int n :: S) := by
  subst hp
  obtain ⟨q1, q2⟩ := clamp_of hk
  intro p e s m args below meth c vm0 T locs hx hby hml hr hlk hn ho X eT hZ B N
  obtain ⟨T', h', cA, X', e', E, A, O, st⟩ := Jvm.RoadKit.newR X hx hZ (by rw [show (s.setVm vm0).vm = vm0 from rfl, hZ.alike.findClass]; exact ho) w1 w2 eT (g := mkF m pc L (.int n :: S)) rfl (hb hby hd) rfl q1 (cap := cap) (by rw [q2]; exact hcap) hb8 hc hl
  have A' : Ary Z h' h.size (.object C) (List.replicate k .null) := ⟨_, A, by simp [Jvm.RoadKit.newA, q2, defaultValue], by simp; omega, fun v hv => by
    rw [(List.mem_replicate.mp hv).2]; rfl⟩
  obtain ⟨s₂, o, h1, r⟩ := G h' _ rfl B.n0le E A'.lt A' ⟨_, A.1, O⟩ p e s m args below meth c vm0 T' locs hx hby hml hr hlk hn ho X' e' hZ (B.new E A'.lt (Nat.le_refl _)) N
  exact ⟨s₂, o, st _ h1, r⟩
theorem Go.aastore {a : Addr} {C : String} {vs : List Value} {j : Int32} {v : Value} (i : Nat) (pc' : Nat) (hd : decode bytes pc = .ok (.aastore, 1)) (hp : pc + 1 = pc') (A : Ary Z h a (.object C) vs) (hj : j.toInt = (i : Int)) (hi : i < vs.length) (F : Sto Z h a v) (hf : fits (.object C) v = true) (ha : a ∈ sf) (hn0 : n0 ≤ a)
    (G : ∀ h', Wr h h' a i v → Ary Z h' a (.object C) (vs.set i v) → Go md l Z n0 R bytes ml ret own mn Ψ cells slots sf h' pc' L S) : Go md l Z n0 R bytes ml ret own mn Ψ cells slots sf h pc L (v :: .int j :: .ref a :: S) := by
  subst hp
  obtain ⟨c0, A0, e1, e2, e3⟩ := A
  obtain ⟨-, q2⟩ := clamp_of hj
  exact Go.write _ ha hn0 (sl := i) (fun p e s m args below meth c T locs hx hby hml hnm hZ hown X eT => by rw [← q2]; exact stR X hx hZ eT A0 (Ary.inb (a := a) (ty := .object C) e1 hj hi) rfl F (g := mkF m pc L (v :: .int j :: .ref a :: S)) rfl rfl (hb hby hd)) (fun h' W => G h' W (Ary.set W ⟨c0, A0, e1, e2, e3⟩ hf))
theorem Go.lastore {a : Addr} {vs : List Value} {j : Int32} {x : Int64} (i : Nat) (pc' : Nat) (hd : decode bytes pc = .ok (.lastore, 1)) (hp : pc + 1 = pc') (A : Ary Z h a .long vs) (hj : j.toInt = (i : Int)) (hi : i < vs.length) (ha : a ∈ sf) (hn0 : n0 ≤ a)
    (G : ∀ h', Wr h h' a i (.long x) → Ary Z h' a .long (vs.set i (.long x)) → Go md l Z n0 R bytes ml ret own mn Ψ cells slots sf h' pc' L S) : Go md l Z n0 R bytes ml ret own mn Ψ cells slots sf h pc L (.long x :: .int j :: .ref a :: S) := by
  subst hp
  obtain ⟨c0, A0, e1, e2, e3⟩ := A
  obtain ⟨-, q2⟩ := clamp_of hj
  exact Go.write _ ha hn0 (sl := i) (fun p e s m args below meth c T locs hx hby hml hnm hZ hown X eT => by rw [← q2]; exact stJ X hx hZ eT A0 (Ary.inb (a := a) (ty := .long) e1 hj hi) (g := mkF m pc L (.long x :: .int j :: .ref a :: S)) rfl rfl (hb hby hd)) (fun h' W => G h' W (Ary.set W ⟨c0, A0, e1, e2, e3⟩ rfl))
theorem Go.dup2 {v w : Value} (pc' : Nat) (hd : decode bytes pc = .ok (.dup2, 1)) (hp : pc + 1 = pc') (hv : v.category = 1) (hw : w.category = 1) (G : Go md l Z n0 R bytes ml ret own mn Ψ cells slots sf h pc' L (v :: w :: v :: w :: S)) : Go md l Z n0 R bytes ml ret own mn Ψ cells slots sf h pc L (v :: w :: S) := by
  subst hp; exact Go.pure _ (fun p e below T target m c A hx hby k => Jvm.Free.XT.dup2 A hx rfl (hb hby hd) rfl hv hw k) G
theorem Go.lswY {k : Int32} {default : Int} {pairs : Array (Int × Int)} {len : Nat} {b off : Int} (pc' : Nat) (hd : decode bytes pc = .ok (.lookupswitch default pairs, len)) (hs : (pairs.toList.zip (pairs.toList.drop 1)).all (fun (a, next) => a.1 < next.1) = true) (hf : pairs.find? (·.1 == k.toInt) = some (b, off)) (h0 : 0 ≤ (pc : Int) + off) (hp : ((pc : Int) + off).toNat = pc')
    (G : Go md l Z n0 R bytes ml ret own mn Ψ cells slots sf h pc' L S) : Go md l Z n0 R bytes ml ret own mn Ψ cells slots sf h pc L (.int k :: S) := by
  subst hp
  exact Go.warm _ (fun p e s m args below meth c T locs hx hby hml hZ hown X eT => ⟨T, X, eT, fun target q => X.lookupswitchHit hx (g := mkF m pc L (.int k :: S)) rfl rfl (hb hby hd) hs hf h0 target q⟩) G
theorem Go.lswN {k : Int32} {default : Int} {pairs : Array (Int × Int)} {len : Nat} (pc' : Nat) (hd : decode bytes pc = .ok (.lookupswitch default pairs, len)) (hs : (pairs.toList.zip (pairs.toList.drop 1)).all (fun (a, next) => a.1 < next.1) = true) (hf : pairs.find? (·.1 == k.toInt) = none) (h0 : 0 ≤ (pc : Int) + default) (hp : ((pc : Int) + default).toNat = pc')
    (G : Go md l Z n0 R bytes ml ret own mn Ψ cells slots sf h pc' L S) : Go md l Z n0 R bytes ml ret own mn Ψ cells slots sf h pc L (.int k :: S) := by
  subst hp
  exact Go.warm _ (fun p e s m args below meth c T locs hx hby hml hZ hown X eT => ⟨T, X, eT, fun target q => X.lookupswitchMiss hx (g := mkF m pc L (.int k :: S)) rfl rfl (hb hby hd) hs hf h0 target q⟩) G
theorem Go.tswY {k : Int32} {default low high : Int} {offs : Array Int} {len : Nat} {off : Int} (pc' : Nat) (hd : decode bytes pc = .ok (.tableswitch default low high offs, len)) (hi : ¬ (k.toInt < low ∨ k.toInt > high)) (hf : offs[(k.toInt - low).toNat]? = some off) (h0 : 0 ≤ (pc : Int) + off) (hp : ((pc : Int) + off).toNat = pc')
    (G : Go md l Z n0 R bytes ml ret own mn Ψ cells slots sf h pc' L S) : Go md l Z n0 R bytes ml ret own mn Ψ cells slots sf h pc L (.int k :: S) := by
  subst hp
  exact Go.warm _ (fun p e s m args below meth c T locs hx hby hml hZ hown X eT => ⟨T, X, eT, fun target q => X.tableswitchIn hx (g := mkF m pc L (.int k :: S)) rfl rfl (hb hby hd) hi hf h0 target q⟩) G
theorem Go.getFN {R0 O n d host : String} {index : Nat} {a : Addr} {v : Value} (pc' : Nat) (hd : decode bytes pc = .ok (.getfield index, 3)) (hp : pc + 3 = pc') (w : (Jvm.Cond.fieldLinkNest own index R0 n d host).before a0 Z = true) (via : Via Z R0 O n d) (F : Fld Z h a O n d v) (G : Go md l Z n0 R bytes ml ret own mn Ψ cells slots sf h pc' L (v :: S)) :
    Go md l Z n0 R bytes ml ret own mn Ψ cells slots sf h pc L (.ref a :: S) := by
  subst hp; exact Go.warm _ (fun p e s m args below meth c T locs hx hby hml hZ hown X eT => Jvm.RoadKit.getF X hx hZ hown (Or.inr w) via eT F (g := mkF m pc L (.ref a :: S)) rfl rfl (hb hby hd)) G
/-- without String constants every address may be written that is new -/
theorem Go.sfN (sf' : List Addr) (G : Go none l Z n0 R bytes ml ret own mn Ψ cells slots sf' h pc L S) : Go none l Z n0 R bytes ml ret own mn Ψ cells slots sf h pc L S := by
  intro p e s m args below meth c vm0 T locs hx hby hml hr hlk hn ho X eT hZ B N
  exact G p e s m args below meth c vm0 T locs hx hby hml hr hlk hn ho X eT hZ B N
theorem Go.callP {y : MethodName} {index maxY kc ks W : Nat} {bytesY : ByteArray} {retY : Option FieldType} {C : String} {sfc : List Addr} {Q : Option Value → Heap → List Addr → Prop} {St : List Value} {a : Addr} (pc' : Nat) (argsL : List Value) (hd : decode bytes pc = .ok (.invokevirtual index, 3)) (hp : pc + 3 = pc') (hst : St = argsL.reverse ++ .ref a :: S)
    (wl : (Jvm.Cond.methodLink own index y).before a0 Z = true) (ws : (Jvm.Cond.instanceMethod y).before a0 Z = true) (wse : (Jvm.Cond.selects y.cls y y).before a0 Z = true) (wp : (Jvm.Cond.privateMethod y).before a0 Z = true) (wc : (Jvm.Cond.code y bytesY maxY retY).before a0 Z = true) (hy : y.cls ≠ "java/lang/invoke/MethodHandle" ∧ y.cls ≠ "java/lang/invoke/VarHandle")
    (E : Exa Z h a C) (hC : Call md l Z n0 R y 3 W (.ref a :: argsL).toArray h sfc kc ks Q) (hlen : ∀ sig, parseMethodDescriptor y.desc = some sig → argsL.length = sig.parameters.length) (hW : (S.map fun v => v.category).sum ≤ W) (hsz : L.size = ml) (hc : cells + kc ≤ R.cells) (hs : slots + ks ≤ R.slots) (hsf : ∀ x ∈ sfc, x ∈ sf)
    (G : ∀ v h' sf', Q v h' sf' → Go md l Z n0 R bytes ml ret own mn Ψ (cells + kc) (slots + ks) (sf' ++ sf) h' pc' L (v.toList ++ S)) : Go md l Z n0 R bytes ml ret own mn Ψ cells slots sf h pc L St := by
  subst hp; subst hst
  intro p e s m args below meth c vm0 T locs hx hby hml hr hlk hn ho X eT hZ B N
  have hown : (s.setVm vm0).vm.findClass own = some m.cls := by rw [show (s.setVm vm0).vm = vm0 from rfl, hZ.alike.findClass]; exact ho
  have K := hC p e below s vm0 args hZ (B.sub hsf)
  obtain ⟨cell, g1, g2⟩ := E.cell
  have g1' : T.heap[a]? = some cell := by rw [eT]; exact g1
  cases md with
  | none =>
    obtain ⟨v, vm₁, ⟨U, L1, c1, n1⟩, -, X', ⟨L', sf', q1, q0, q2, q3, q4, q5⟩, st⟩ := X.privateBack hx hown (mvT hZ wl) (mvT hZ ws) (mvT hZ wse) (Cond.privateMethod_at (mvP (args := args) (s := s.setVm vm0) hZ wp)) (mvT hZ wc) hy K (g := mkF m pc L (argsL.reverse ++ .ref a :: S)) rfl (hsz.trans hml.symm) (Steps.refl _) g1' g2 hlen rfl (by simpa using hW) (hb hby hd) (fun _ _ => ⟨rfl, eT, hc, hs⟩)
    dsimp only [Pt.U, Pt.locs, Pt.cells, Pt.slots] at q1 q0 q3 q4 q5 X' st
    subst q3 q4 q5
    obtain ⟨s₂, o, h1, r⟩ := G v U.heap sf' q1 p e s m args below meth c vm0 U _ hx hby hml hr hlk hn ho X' rfl hZ ⟨q0, B.2⟩ (N.app q2)
    exact ⟨s₂, o, st.trans h1, r⟩
  | some EL =>
    obtain ⟨v, vm₁, ⟨U, L1, c1, n1⟩, -, X', hS, hgr, ⟨L', sf', q1, q0, q2, q3, q4, q5, q6, q7⟩, st⟩ := X.privateBackS hx hown (mvT hZ wl) (mvT hZ ws) (mvT hZ wse) (Cond.privateMethod_at (mvP (args := args) (s := s.setVm vm0) hZ wp)) (mvT hZ wc) hy K (g := mkF m pc L (argsL.reverse ++ .ref a :: S)) rfl (hsz.trans hml.symm) (Steps.refl _) g1' g2 hlen rfl (by simpa using hW) (hb hby hd) (fun _ _ => ⟨rfl, eT, hc, hs⟩)
    dsimp only [Pt.U, Pt.locs, Pt.cells, Pt.slots] at q1 q0 q3 q4 q5 q6 q7 X' st hS hgr
    subst q3 q4 q5
    obtain ⟨s₂, o, h1, r⟩ := G v U.heap sf' q1 p e s m args below meth c U.vm U _ hx hby hml hr hlk hn ho X' rfl (State.Warmed39.trans (t := s.setVm vm0) hZ hS.1) (B.called hS q0 q6 q7) (N.app q2)
    exact ⟨s₂, o, st.trans h1, r⟩
theorem Go.ldcWI {index : Nat} {v : Int32} (pc' : Nat) (hd : decode bytes pc = .ok (.ldc_w index, 3)) (hp : pc + 3 = pc') (w : (Jvm.Cond.constant own index v).before a0 Z = true) (G : Go md l Z n0 R bytes ml ret own mn Ψ cells slots sf h pc' L (.int v :: S)) : Go md l Z n0 R bytes ml ret own mn Ψ cells slots sf h pc L S := by
  subst hp; exact Go.warm _ (fun p e s m args below meth c T locs hx hby hml hZ hown X eT => ⟨T, X, eT, fun target k => X.ldcWI (g := mkF m pc L S) hx hown (mvT hZ w) rfl (hb hby hd) k⟩) G
/-- ldc of a String constant of which nothing is asked -/
theorem Go.ldcO {EL : List (String × Nat)} {index : Nat} {text : String} (n : Nat) (pc' : Nat) (hd : decode bytes pc = .ok (.ldc index, 2)) (hp : pc + 2 = pc') (w : (Jvm.Cond.stringLink own index text).before a0 Z = true) (wS : ∀ a ∈ Bundle.stringAtoms, a.before a0 Z = true) (hn : 4 * text.toList.length ≤ n) (hbig : n ≤ 536870912) (hc : cells + 2 ≤ R.cells) (hl' : slots + (n + 4) ≤ R.slots)
    (G : ∀ h' a, Ext h h' → Go (some EL) l Z n0 R bytes ml ret own mn Ψ (cells + 2) (slots + (n + 4)) sf h' pc' L (.ref a :: S)) : Go (some EL) l Z n0 R bytes ml ret own mn Ψ cells slots sf h pc L S := by
  subst hp
  intro p e s m args below meth c vm0 T locs hx hby hml hr hlk hnm ho X eT hZ B N
  obtain ⟨b0, ⟨k0, b1, b2⟩, ⟨a1, b3⟩, b4, b5⟩ := B
  have hown : vm0.findClass own = some m.cls := by rw [hZ.alike.findClass]; exact ho
  obtain ⟨a, T', h', k1, X', e', E, hS, hk1, hZ', hown', C, -, st⟩ := ldcOH X hx hZ hown w wS eT b1 b2 b3 b4.1 (g := mkF m pc L S) rfl (hb hby hd) hn hbig hc hl'
  obtain ⟨s₂, o, h1, r⟩ := G h' a E p e s m args below meth c T'.vm T' locs hx hby hml hr hlk hnm ho X' e' hZ' ⟨b0.ext E, ⟨k1, hS, hk1⟩, ⟨a1, b3⟩, b4.trans C, fun x hx => ⟨Nat.lt_of_lt_of_le (b5 x hx).1 C.2.1, C.safe (b5 x hx).1 (b5 x hx).2⟩⟩ N
  exact ⟨s₂, o, st _ h1, r⟩
/-- newarray: the array's class by its name too -/
theorem Go.newE {aty : ArrayType} {n : Int32} {ty : FieldType} {C : String} (k : Nat) (pc' : Nat) (hd : decode bytes pc = .ok (.newarray aty, 2)) (hp : pc + 2 = pc') (hty : newarray.typeOf aty = ty) (hC : "[" ++ ty.toString = C) (w : (Jvm.Cond.arrayClass ty).before a0 Z = true) (hk : n.toInt = (k : Int)) (cap : Nat) (hcap : k ≤ cap) (hb8 : cap * 8 ≤ 536870912) (hc : cells + 1 ≤ R.cells) (hl : slots + cap ≤ R.slots)
    (G : ∀ h' x, h.size = x → n0 ≤ x → Ext h h' → x < h'.size → Ary Z h' x ty (List.replicate k (defaultValue ty)) → Exa Z h' x C → Go md l Z n0 R bytes ml ret own mn Ψ (cells + 1) (slots + cap) (x :: sf) h' pc' L (.ref x :: S)) :
    Go md l Z n0 R bytes ml ret own mn Ψ cells slots sf h pc L (.int n :: S) := by
  subst hp; subst hty; subst hC
  obtain ⟨q1, q2⟩ := clamp_of hk
  intro p e s m args below meth c vm0 T locs hx hby hml hr hlk hn ho X eT hZ B N
  obtain ⟨T', h', cA, X', e', E, A, EX, st⟩ := newPE X hx hZ w eT (g := mkF m pc L (.int n :: S)) rfl (hb hby hd) rfl q1 (cap := cap) (by rw [q2]; exact hcap) hb8 hc hl rfl
  have A' : Ary Z h' h.size (newarray.typeOf aty) (List.replicate k (defaultValue (newarray.typeOf aty))) := ⟨_, A, by simp [Jvm.RoadKit.newA, q2], by simp; omega, fun v hv => by
    rw [(List.mem_replicate.mp hv).2]; cases aty <;> rfl⟩
  obtain ⟨s₂, o, h1, r⟩ := G h' _ rfl B.n0le E A'.lt A' EX p e s m args below meth c vm0 T' locs hx hby hml hr hlk hn ho X' e' hZ (B.new E A'.lt (Nat.le_refl _)) N
  exact ⟨s₂, o, st _ h1, r⟩
/-- a virtual call whose name stands under the entry's class by inheritance (W-mode) -/
theorem Go.callU {EL : List (String × Nat)} {y z : MethodName} {index kc ks W : Nat} {C owner : String} {sfc : List Addr} {Q : Option Value → Heap → List Addr → Prop} {St : List Value} {a : Addr} (pc' : Nat) (argsL : List Value) (hd : decode bytes pc = .ok (.invokevirtual index, 3)) (hp : pc + 3 = pc') (hst : St = argsL.reverse ++ .ref a :: S)
    (wl : (Jvm.Cond.methodLink own index y).before a0 Z = true) (wsm : (Jvm.Cond.sameMethod y.cls owner y.name y.desc).before a0 Z = true) (wd : (Jvm.Cond.declares ⟨owner, y.name, y.desc⟩).before a0 Z = true) (wse : (Jvm.Cond.selects C y z).before a0 Z = true) (ws : (Jvm.Cond.instanceMethod z).before a0 Z = true) (hy : owner ≠ "java/lang/invoke/MethodHandle" ∧ owner ≠ "java/lang/invoke/VarHandle")
    (E : Exa Z h a C) (hC : Call (some EL) l Z n0 R z 3 W (.ref a :: argsL).toArray h sfc kc ks Q) (hlen : ∀ sig, parseMethodDescriptor y.desc = some sig → argsL.length = sig.parameters.length) (hW : (S.map fun v => v.category).sum ≤ W) (hsz : L.size = ml) (hc : cells + kc ≤ R.cells) (hs : slots + ks ≤ R.slots) (hsf : ∀ x ∈ sfc, x ∈ sf)
    (G : ∀ v h' sf', Q v h' sf' → Go (some EL) l Z n0 R bytes ml ret own mn Ψ (cells + kc) (slots + ks) (sf' ++ sf) h' pc' L (v.toList ++ S)) : Go (some EL) l Z n0 R bytes ml ret own mn Ψ cells slots sf h pc L St := by
  subst hp; subst hst
  intro p e s m args below meth c vm0 T locs hx hby hml hr hlk hn ho X eT hZ B N
  have hown : (s.setVm vm0).vm.findClass own = some m.cls := by rw [show (s.setVm vm0).vm = vm0 from rfl, hZ.alike.findClass]; exact ho
  have K := hC p e below s vm0 args hZ (B.sub hsf)
  obtain ⟨cB, kB, i1, -, i3⟩ := isOf (s := s.setVm vm0) hZ eT E
  obtain ⟨v, vm₁, ⟨U, L1, c1, n1⟩, -, X', hS, hgr, ⟨L', sf', q1, q0, q2, q3, q4, q5, q6, q7⟩, st⟩ := X.virtualBackUpS hx hown (mvT hZ wl) (mvT hZ wsm) (mvT hZ wd) hy (mvT hZ wse) (mvT hZ ws) K i1 i3 (g := mkF m pc L (argsL.reverse ++ .ref a :: S)) rfl (hsz.trans hml.symm) (Steps.refl _) hlen rfl (by simpa using hW) (hb hby hd) (fun _ _ => ⟨rfl, eT, hc, hs⟩)
  dsimp only [Pt.U, Pt.locs, Pt.cells, Pt.slots] at q1 q0 q3 q4 q5 q6 q7 X' st hS hgr
  subst q3 q4 q5
  obtain ⟨s₂, o, h1, r⟩ := G v U.heap sf' q1 p e s m args below meth c U.vm U _ hx hby hml hr hlk hn ho X' rfl (State.Warmed39.trans (t := s.setVm vm0) hZ hS.1) (B.called hS q0 q6 q7) (N.app q2)
  exact ⟨s₂, o, st.trans h1, r⟩
theorem Go.aaload1 {a : Addr} {j : Int32} {ty : FieldType} (i : Nat) {v : Value} (pc' : Nat) (hd : decode bytes pc = .ok (.aaload, 1)) (hp : pc + 1 = pc') (hty : ty.isReference = true) (A : At1 Z h a ty i v) (hj : j.toInt = (i : Int)) (G : Go md l Z n0 R bytes ml ret own mn Ψ cells slots sf h pc' L (v :: S)) :
    Go md l Z n0 R bytes ml ret own mn Ψ cells slots sf h pc L (.int j :: .ref a :: S) := by
  subst hp
  obtain ⟨c0, A, e1⟩ := A
  obtain ⟨q1, q2⟩ := clamp_of hj
  have hi := (Array.getElem?_eq_some_iff.mp e1).1
  exact Go.warm _ (fun p e s m args below meth c T locs hx hby hml hZ hown X eT => ⟨T, X, eT, fun target k => X.aaload hx (by rw [eT]; exact A.1) (State.isArrayOf_alike hZ.alike A.2.1) hty A.2.2 (by rw [q2]; rintro (z | z); exact q1 z; omega) (by rw [q2]; exact e1) (g := mkF m pc L (.int j :: .ref a :: S)) rfl rfl (hb hby hd) target k⟩) G
end G
end GK
end Jvm.Pilot.@@N@@
namespace Jvm.Pilot.@@N@@
open Jvm Jvm.ClassFile Sem Op Lib Jvm.Free Jvm.Stand Jvm.LawKit Jvm.RoadKit Bundle Jvm.Pilot.@@N@@.Jvm.D Jvm.Pilot.@@N@@.GK
abbrev HW (a0 : Array Value) (Z : State) : Prop := ∀ d ∈ tables_1, d.before a0 Z = true
theorem w0 {a0 : Array Value} {Z : State} (hw : HW a0 Z) : (Jvm.Cond.classLink "com/example/petrel/petrel/ConstantTablePinLaw" (20 : Nat) "com/example/petrel/petrel/HoaLabel$Tables").before a0 Z = true := hw _ (List.mem_of_getElem? (i := 0) rfl)
theorem w1 {a0 : Array Value} {Z : State} (hw : HW a0 Z) : (Jvm.Cond.instantiable "com/example/petrel/petrel/HoaLabel$Tables" (3 : Nat)).before a0 Z = true := hw _ (List.mem_of_getElem? (i := 1) rfl)
theorem w2 {a0 : Array Value} {Z : State} (hw : HW a0 Z) : (Jvm.Cond.initialized "com/example/petrel/petrel/HoaLabel$Tables").before a0 Z = true := hw _ (List.mem_of_getElem? (i := 2) rfl)
theorem w3 {a0 : Array Value} {Z : State} (hw : HW a0 Z) : (Jvm.Cond.methodLink "com/example/petrel/petrel/ConstantTablePinLaw" (22 : Nat) ({ cls := "com/example/petrel/petrel/HoaLabel$Tables", name := "<init>", desc := "(ILjava/util/Map;)V" } : Jvm.MethodName)).before a0 Z = true := hw _ (List.mem_of_getElem? (i := 3) rfl)
theorem w4 {a0 : Array Value} {Z : State} (hw : HW a0 Z) : (Jvm.Cond.instanceMethod ({ cls := "com/example/petrel/petrel/HoaLabel$Tables", name := "<init>", desc := "(ILjava/util/Map;)V" } : Jvm.MethodName)).before a0 Z = true := hw _ (List.mem_of_getElem? (i := 4) rfl)
theorem w5 {a0 : Array Value} {Z : State} (hw : HW a0 Z) : (Jvm.Cond.code ({ cls := "com/example/petrel/petrel/HoaLabel$Tables", name := "<init>", desc := "(ILjava/util/Map;)V" } : Jvm.MethodName) prog_8_method_1_code (5 : Nat) (Option.none : Option Jvm.ClassFile.FieldType)).before a0 Z = true := hw _ (List.mem_of_getElem? (i := 5) rfl)
theorem w6 {a0 : Array Value} {Z : State} (hw : HW a0 Z) : (Jvm.Cond.methodLink "com/example/petrel/petrel/HoaLabel$Tables" (1 : Nat) ({ cls := "java/lang/Object", name := "<init>", desc := "()V" } : Jvm.MethodName)).before a0 Z = true := hw _ (List.mem_of_getElem? (i := 6) rfl)
theorem w7 {a0 : Array Value} {Z : State} (hw : HW a0 Z) : (Jvm.Cond.instanceMethod ({ cls := "java/lang/Object", name := "<init>", desc := "()V" } : Jvm.MethodName)).before a0 Z = true := hw _ (List.mem_of_getElem? (i := 7) rfl)
theorem w8 {a0 : Array Value} {Z : State} (hw : HW a0 Z) : (Jvm.Cond.code ({ cls := "java/lang/Object", name := "<init>", desc := "()V" } : Jvm.MethodName) object_method_1_code (1 : Nat) (Option.none : Option Jvm.ClassFile.FieldType)).before a0 Z = true := hw _ (List.mem_of_getElem? (i := 8) rfl)
theorem w9 {a0 : Array Value} {Z : State} (hw : HW a0 Z) : (Jvm.Cond.fieldLink "com/example/petrel/petrel/HoaLabel$Tables" (7 : Nat) "com/example/petrel/petrel/HoaLabel$Tables" "valuationCount" "I").before a0 Z = true := hw _ (List.mem_of_getElem? (i := 9) rfl)
theorem w10 {a0 : Array Value} {Z : State} (hw : HW a0 Z) : (Jvm.Cond.laysFinal "com/example/petrel/petrel/HoaLabel$Tables" "com/example/petrel/petrel/HoaLabel$Tables" "valuationCount" "I").before a0 Z = true := hw _ (List.mem_of_getElem? (i := 10) rfl)
theorem w11 {a0 : Array Value} {Z : State} (hw : HW a0 Z) : (Jvm.Cond.classLink "com/example/petrel/petrel/HoaLabel$Tables" (13 : Nat) "java/util/BitSet").before a0 Z = true := hw _ (List.mem_of_getElem? (i := 11) rfl)
theorem w12 {a0 : Array Value} {Z : State} (hw : HW a0 Z) : (Jvm.Cond.arrayOver (Jvm.ClassFile.FieldType.object "java/util/BitSet")).before a0 Z = true := hw _ (List.mem_of_getElem? (i := 12) rfl)
theorem w13 {a0 : Array Value} {Z : State} (hw : HW a0 Z) : (Jvm.Cond.fieldLink "com/example/petrel/petrel/HoaLabel$Tables" (15 : Nat) "com/example/petrel/petrel/HoaLabel$Tables" "aps" "[Ljava/util/BitSet;").before a0 Z = true := hw _ (List.mem_of_getElem? (i := 13) rfl)
theorem w14 {a0 : Array Value} {Z : State} (hw : HW a0 Z) : (Jvm.Cond.laysFinal "com/example/petrel/petrel/HoaLabel$Tables" "com/example/petrel/petrel/HoaLabel$Tables" "aps" "[Ljava/util/BitSet;").before a0 Z = true := hw _ (List.mem_of_getElem? (i := 14) rfl)
theorem w15 {a0 : Array Value} {Z : State} (hw : HW a0 Z) : (Jvm.Cond.instantiable "java/util/BitSet" (3 : Nat)).before a0 Z = true := hw _ (List.mem_of_getElem? (i := 15) rfl)
theorem w16 {a0 : Array Value} {Z : State} (hw : HW a0 Z) : (Jvm.Cond.initialized "java/util/BitSet").before a0 Z = true := hw _ (List.mem_of_getElem? (i := 16) rfl)
theorem w17 {a0 : Array Value} {Z : State} (hw : HW a0 Z) : (Jvm.Cond.methodLink "com/example/petrel/petrel/HoaLabel$Tables" (19 : Nat) ({ cls := "java/util/BitSet", name := "<init>", desc := "(I)V" } : Jvm.MethodName)).before a0 Z = true := hw _ (List.mem_of_getElem? (i := 17) rfl)
theorem w18 {a0 : Array Value} {Z : State} (hw : HW a0 Z) : (Jvm.Cond.instanceMethod ({ cls := "java/util/BitSet", name := "<init>", desc := "(I)V" } : Jvm.MethodName)).before a0 Z = true := hw _ (List.mem_of_getElem? (i := 18) rfl)
theorem w19 {a0 : Array Value} {Z : State} (hw : HW a0 Z) : (Jvm.Cond.code ({ cls := "java/util/BitSet", name := "<init>", desc := "(I)V" } : Jvm.MethodName) jdk_92_method_5_code (2 : Nat) (Option.none : Option Jvm.ClassFile.FieldType)).before a0 Z = true := hw _ (List.mem_of_getElem? (i := 19) rfl)
theorem w20 {a0 : Array Value} {Z : State} (hw : HW a0 Z) : (Jvm.Cond.methodLink "java/util/BitSet" (21 : Nat) ({ cls := "java/lang/Object", name := "<init>", desc := "()V" } : Jvm.MethodName)).before a0 Z = true := hw _ (List.mem_of_getElem? (i := 20) rfl)
theorem w21 {a0 : Array Value} {Z : State} (hw : HW a0 Z) : (Jvm.Cond.fieldLink "java/util/BitSet" (7 : Nat) "java/util/BitSet" "wordsInUse" "I").before a0 Z = true := hw _ (List.mem_of_getElem? (i := 21) rfl)
theorem w22 {a0 : Array Value} {Z : State} (hw : HW a0 Z) : (Jvm.Cond.lays "java/util/BitSet" "java/util/BitSet" "wordsInUse" "I").before a0 Z = true := hw _ (List.mem_of_getElem? (i := 22) rfl)
theorem w23 {a0 : Array Value} {Z : State} (hw : HW a0 Z) : (Jvm.Cond.fieldLink "java/util/BitSet" (24 : Nat) "java/util/BitSet" "sizeIsSticky" "Z").before a0 Z = true := hw _ (List.mem_of_getElem? (i := 23) rfl)
theorem w24 {a0 : Array Value} {Z : State} (hw : HW a0 Z) : (Jvm.Cond.lays "java/util/BitSet" "java/util/BitSet" "sizeIsSticky" "Z").before a0 Z = true := hw _ (List.mem_of_getElem? (i := 24) rfl)
theorem w25 {a0 : Array Value} {Z : State} (hw : HW a0 Z) : (Jvm.Cond.methodLink "java/util/BitSet" (27 : Nat) ({ cls := "java/util/BitSet", name := "initWords", desc := "(I)V" } : Jvm.MethodName)).before a0 Z = true := hw _ (List.mem_of_getElem? (i := 25) rfl)
theorem w26 {a0 : Array Value} {Z : State} (hw : HW a0 Z) : (Jvm.Cond.instanceMethod ({ cls := "java/util/BitSet", name := "initWords", desc := "(I)V" } : Jvm.MethodName)).before a0 Z = true := hw _ (List.mem_of_getElem? (i := 26) rfl)
theorem w27 {a0 : Array Value} {Z : State} (hw : HW a0 Z) : (Jvm.Cond.privateMethod ({ cls := "java/util/BitSet", name := "initWords", desc := "(I)V" } : Jvm.MethodName)).before a0 Z = true := hw _ (List.mem_of_getElem? (i := 27) rfl)
theorem w28 {a0 : Array Value} {Z : State} (hw : HW a0 Z) : (Jvm.Cond.selects "java/util/BitSet" ({ cls := "java/util/BitSet", name := "initWords", desc := "(I)V" } : Jvm.MethodName) ({ cls := "java/util/BitSet", name := "initWords", desc := "(I)V" } : Jvm.MethodName)).before a0 Z = true := hw _ (List.mem_of_getElem? (i := 28) rfl)
theorem w29 {a0 : Array Value} {Z : State} (hw : HW a0 Z) : (Jvm.Cond.code ({ cls := "java/util/BitSet", name := "initWords", desc := "(I)V" } : Jvm.MethodName) jdk_92_method_6_code (2 : Nat) (Option.none : Option Jvm.ClassFile.FieldType)).before a0 Z = true := hw _ (List.mem_of_getElem? (i := 29) rfl)
theorem w30 {a0 : Array Value} {Z : State} (hw : HW a0 Z) : (Jvm.Cond.methodLink "java/util/BitSet" (52 : Nat) ({ cls := "java/util/BitSet", name := "wordIndex", desc := "(I)I" } : Jvm.MethodName)).before a0 Z = true := hw _ (List.mem_of_getElem? (i := 30) rfl)
theorem w31 {a0 : Array Value} {Z : State} (hw : HW a0 Z) : (Jvm.Cond.static ({ cls := "java/util/BitSet", name := "wordIndex", desc := "(I)I" } : Jvm.MethodName)).before a0 Z = true := hw _ (List.mem_of_getElem? (i := 31) rfl)
theorem w32 {a0 : Array Value} {Z : State} (hw : HW a0 Z) : (Jvm.Cond.code ({ cls := "java/util/BitSet", name := "wordIndex", desc := "(I)I" } : Jvm.MethodName) jdk_92_method_1_code (1 : Nat) (Option.some Jvm.ClassFile.FieldType.int)).before a0 Z = true := hw _ (List.mem_of_getElem? (i := 32) rfl)
theorem w33 {a0 : Array Value} {Z : State} (hw : HW a0 Z) : (Jvm.Cond.arrayClass Jvm.ClassFile.FieldType.long).before a0 Z = true := hw _ (List.mem_of_getElem? (i := 33) rfl)
theorem w34 {a0 : Array Value} {Z : State} (hw : HW a0 Z) : (Jvm.Cond.fieldLink "java/util/BitSet" (11 : Nat) "java/util/BitSet" "words" "[J").before a0 Z = true := hw _ (List.mem_of_getElem? (i := 34) rfl)
theorem w35 {a0 : Array Value} {Z : State} (hw : HW a0 Z) : (Jvm.Cond.lays "java/util/BitSet" "java/util/BitSet" "words" "[J").before a0 Z = true := hw _ (List.mem_of_getElem? (i := 35) rfl)
theorem w37 {a0 : Array Value} {Z : State} (hw : HW a0 Z) : (Jvm.Cond.methodLink "com/example/petrel/petrel/HoaLabel$Tables" (22 : Nat) ({ cls := "java/util/BitSet", name := "set", desc := "(I)V" } : Jvm.MethodName)).before a0 Z = true := hw _ (List.mem_of_getElem? (i := 37) rfl)
theorem w38 {a0 : Array Value} {Z : State} (hw : HW a0 Z) : (Jvm.Cond.declares ({ cls := "java/util/BitSet", name := "set", desc := "(I)V" } : Jvm.MethodName)).before a0 Z = true := hw _ (List.mem_of_getElem? (i := 38) rfl)
theorem w39 {a0 : Array Value} {Z : State} (hw : HW a0 Z) : (Jvm.Cond.instanceMethod ({ cls := "java/util/BitSet", name := "set", desc := "(I)V" } : Jvm.MethodName)).before a0 Z = true := hw _ (List.mem_of_getElem? (i := 39) rfl)
theorem w40 {a0 : Array Value} {Z : State} (hw : HW a0 Z) : (Jvm.Cond.selects "java/util/BitSet" ({ cls := "java/util/BitSet", name := "set", desc := "(I)V" } : Jvm.MethodName) ({ cls := "java/util/BitSet", name := "set", desc := "(I)V" } : Jvm.MethodName)).before a0 Z = true := hw _ (List.mem_of_getElem? (i := 40) rfl)
theorem w41 {a0 : Array Value} {Z : State} (hw : HW a0 Z) : (Jvm.Cond.code ({ cls := "java/util/BitSet", name := "set", desc := "(I)V" } : Jvm.MethodName) jdk_92_method_19_code (3 : Nat) (Option.none : Option Jvm.ClassFile.FieldType)).before a0 Z = true := hw _ (List.mem_of_getElem? (i := 41) rfl)
theorem w42 {a0 : Array Value} {Z : State} (hw : HW a0 Z) : (Jvm.Cond.methodLink "java/util/BitSet" (155 : Nat) ({ cls := "java/util/BitSet", name := "expandTo", desc := "(I)V" } : Jvm.MethodName)).before a0 Z = true := hw _ (List.mem_of_getElem? (i := 42) rfl)
theorem w43 {a0 : Array Value} {Z : State} (hw : HW a0 Z) : (Jvm.Cond.instanceMethod ({ cls := "java/util/BitSet", name := "expandTo", desc := "(I)V" } : Jvm.MethodName)).before a0 Z = true := hw _ (List.mem_of_getElem? (i := 43) rfl)
theorem w44 {a0 : Array Value} {Z : State} (hw : HW a0 Z) : (Jvm.Cond.privateMethod ({ cls := "java/util/BitSet", name := "expandTo", desc := "(I)V" } : Jvm.MethodName)).before a0 Z = true := hw _ (List.mem_of_getElem? (i := 44) rfl)
theorem w45 {a0 : Array Value} {Z : State} (hw : HW a0 Z) : (Jvm.Cond.selects "java/util/BitSet" ({ cls := "java/util/BitSet", name := "expandTo", desc := "(I)V" } : Jvm.MethodName) ({ cls := "java/util/BitSet", name := "expandTo", desc := "(I)V" } : Jvm.MethodName)).before a0 Z = true := hw _ (List.mem_of_getElem? (i := 45) rfl)
theorem w46 {a0 : Array Value} {Z : State} (hw : HW a0 Z) : (Jvm.Cond.code ({ cls := "java/util/BitSet", name := "expandTo", desc := "(I)V" } : Jvm.MethodName) jdk_92_method_15_code (3 : Nat) (Option.none : Option Jvm.ClassFile.FieldType)).before a0 Z = true := hw _ (List.mem_of_getElem? (i := 46) rfl)
theorem w47 {a0 : Array Value} {Z : State} (hw : HW a0 Z) : (Jvm.Cond.methodLink "java/util/BitSet" (139 : Nat) ({ cls := "java/util/BitSet", name := "ensureCapacity", desc := "(I)V" } : Jvm.MethodName)).before a0 Z = true := hw _ (List.mem_of_getElem? (i := 47) rfl)
theorem w48 {a0 : Array Value} {Z : State} (hw : HW a0 Z) : (Jvm.Cond.instanceMethod ({ cls := "java/util/BitSet", name := "ensureCapacity", desc := "(I)V" } : Jvm.MethodName)).before a0 Z = true := hw _ (List.mem_of_getElem? (i := 48) rfl)
theorem w49 {a0 : Array Value} {Z : State} (hw : HW a0 Z) : (Jvm.Cond.privateMethod ({ cls := "java/util/BitSet", name := "ensureCapacity", desc := "(I)V" } : Jvm.MethodName)).before a0 Z = true := hw _ (List.mem_of_getElem? (i := 49) rfl)
theorem w50 {a0 : Array Value} {Z : State} (hw : HW a0 Z) : (Jvm.Cond.selects "java/util/BitSet" ({ cls := "java/util/BitSet", name := "ensureCapacity", desc := "(I)V" } : Jvm.MethodName) ({ cls := "java/util/BitSet", name := "ensureCapacity", desc := "(I)V" } : Jvm.MethodName)).before a0 Z = true := hw _ (List.mem_of_getElem? (i := 50) rfl)
theorem w51 {a0 : Array Value} {Z : State} (hw : HW a0 Z) : (Jvm.Cond.code ({ cls := "java/util/BitSet", name := "ensureCapacity", desc := "(I)V" } : Jvm.MethodName) jdk_92_method_14_code (3 : Nat) (Option.none : Option Jvm.ClassFile.FieldType)).before a0 Z = true := hw _ (List.mem_of_getElem? (i := 51) rfl)
theorem w52 {a0 : Array Value} {Z : State} (hw : HW a0 Z) : (Jvm.Cond.methodLink "java/util/BitSet" (56 : Nat) ({ cls := "java/util/BitSet", name := "checkInvariants", desc := "()V" } : Jvm.MethodName)).before a0 Z = true := hw _ (List.mem_of_getElem? (i := 52) rfl)
theorem w53 {a0 : Array Value} {Z : State} (hw : HW a0 Z) : (Jvm.Cond.instanceMethod ({ cls := "java/util/BitSet", name := "checkInvariants", desc := "()V" } : Jvm.MethodName)).before a0 Z = true := hw _ (List.mem_of_getElem? (i := 53) rfl)
theorem w54 {a0 : Array Value} {Z : State} (hw : HW a0 Z) : (Jvm.Cond.privateMethod ({ cls := "java/util/BitSet", name := "checkInvariants", desc := "()V" } : Jvm.MethodName)).before a0 Z = true := hw _ (List.mem_of_getElem? (i := 54) rfl)
theorem w55 {a0 : Array Value} {Z : State} (hw : HW a0 Z) : (Jvm.Cond.selects "java/util/BitSet" ({ cls := "java/util/BitSet", name := "checkInvariants", desc := "()V" } : Jvm.MethodName) ({ cls := "java/util/BitSet", name := "checkInvariants", desc := "()V" } : Jvm.MethodName)).before a0 Z = true := hw _ (List.mem_of_getElem? (i := 55) rfl)
theorem w56 {a0 : Array Value} {Z : State} (hw : HW a0 Z) : (Jvm.Cond.code ({ cls := "java/util/BitSet", name := "checkInvariants", desc := "()V" } : Jvm.MethodName) jdk_92_method_2_code (1 : Nat) (Option.none : Option Jvm.ClassFile.FieldType)).before a0 Z = true := hw _ (List.mem_of_getElem? (i := 56) rfl)
theorem w57 {a0 : Array Value} {Z : State} (hw : HW a0 Z) : (Jvm.Cond.fieldLink "java/util/BitSet" (3 : Nat) "java/util/BitSet" "$assertionsDisabled" "Z").before a0 Z = true := hw _ (List.mem_of_getElem? (i := 57) rfl)
theorem w58 {a0 : Array Value} {Z : State} (hw : HW a0 Z) : (Jvm.Cond.fieldLink "com/example/petrel/petrel/HoaLabel$Tables" (25 : Nat) "com/example/petrel/petrel/HoaLabel$Tables" "aliases" "Ljava/util/Map;").before a0 Z = true := hw _ (List.mem_of_getElem? (i := 58) rfl)
theorem w59 {a0 : Array Value} {Z : State} (hw : HW a0 Z) : (Jvm.Cond.laysFinal "com/example/petrel/petrel/HoaLabel$Tables" "com/example/petrel/petrel/HoaLabel$Tables" "aliases" "Ljava/util/Map;").before a0 Z = true := hw _ (List.mem_of_getElem? (i := 59) rfl)
theorem w60 {a0 : Array Value} {Z : State} (hw : HW a0 Z) : (Jvm.Cond.classLink "com/example/petrel/petrel/ConstantTablePinLaw" (25 : Nat) "com/example/petrel/petrel/HoaLabel$Constant").before a0 Z = true := hw _ (List.mem_of_getElem? (i := 60) rfl)
theorem w61 {a0 : Array Value} {Z : State} (hw : HW a0 Z) : (Jvm.Cond.instantiable "com/example/petrel/petrel/HoaLabel$Constant" (1 : Nat)).before a0 Z = true := hw _ (List.mem_of_getElem? (i := 61) rfl)
theorem w62 {a0 : Array Value} {Z : State} (hw : HW a0 Z) : (Jvm.Cond.initialized "com/example/petrel/petrel/HoaLabel$Constant").before a0 Z = true := hw _ (List.mem_of_getElem? (i := 62) rfl)
theorem w63 {a0 : Array Value} {Z : State} (hw : HW a0 Z) : (Jvm.Cond.methodLink "com/example/petrel/petrel/ConstantTablePinLaw" (27 : Nat) ({ cls := "com/example/petrel/petrel/HoaLabel$Constant", name := "<init>", desc := "(Z)V" } : Jvm.MethodName)).before a0 Z = true := hw _ (List.mem_of_getElem? (i := 63) rfl)
theorem w64 {a0 : Array Value} {Z : State} (hw : HW a0 Z) : (Jvm.Cond.instanceMethod ({ cls := "com/example/petrel/petrel/HoaLabel$Constant", name := "<init>", desc := "(Z)V" } : Jvm.MethodName)).before a0 Z = true := hw _ (List.mem_of_getElem? (i := 64) rfl)
theorem w65 {a0 : Array Value} {Z : State} (hw : HW a0 Z) : (Jvm.Cond.code ({ cls := "com/example/petrel/petrel/HoaLabel$Constant", name := "<init>", desc := "(Z)V" } : Jvm.MethodName) prog_5_method_1_code (2 : Nat) (Option.none : Option Jvm.ClassFile.FieldType)).before a0 Z = true := hw _ (List.mem_of_getElem? (i := 65) rfl)
theorem w66 {a0 : Array Value} {Z : State} (hw : HW a0 Z) : (Jvm.Cond.methodLink "com/example/petrel/petrel/HoaLabel$Constant" (1 : Nat) ({ cls := "java/lang/Record", name := "<init>", desc := "()V" } : Jvm.MethodName)).before a0 Z = true := hw _ (List.mem_of_getElem? (i := 66) rfl)
theorem w67 {a0 : Array Value} {Z : State} (hw : HW a0 Z) : (Jvm.Cond.instanceMethod ({ cls := "java/lang/Record", name := "<init>", desc := "()V" } : Jvm.MethodName)).before a0 Z = true := hw _ (List.mem_of_getElem? (i := 67) rfl)
theorem w69 {a0 : Array Value} {Z : State} (hw : HW a0 Z) : (Jvm.Cond.initialized "java/lang/Record").before a0 Z = true := hw _ (List.mem_of_getElem? (i := 69) rfl)
theorem w70 {a0 : Array Value} {Z : State} (hw : HW a0 Z) : (Jvm.Cond.code ({ cls := "java/lang/Record", name := "<init>", desc := "()V" } : Jvm.MethodName) jdk_30_method_1_code (1 : Nat) (Option.none : Option Jvm.ClassFile.FieldType)).before a0 Z = true := hw _ (List.mem_of_getElem? (i := 70) rfl)
theorem w71 {a0 : Array Value} {Z : State} (hw : HW a0 Z) : (Jvm.Cond.methodLink "java/lang/Record" (1 : Nat) ({ cls := "java/lang/Object", name := "<init>", desc := "()V" } : Jvm.MethodName)).before a0 Z = true := hw _ (List.mem_of_getElem? (i := 71) rfl)
theorem w72 {a0 : Array Value} {Z : State} (hw : HW a0 Z) : (Jvm.Cond.fieldLink "com/example/petrel/petrel/HoaLabel$Constant" (7 : Nat) "com/example/petrel/petrel/HoaLabel$Constant" "value" "Z").before a0 Z = true := hw _ (List.mem_of_getElem? (i := 72) rfl)
theorem w73 {a0 : Array Value} {Z : State} (hw : HW a0 Z) : (Jvm.Cond.laysFinal "com/example/petrel/petrel/HoaLabel$Constant" "com/example/petrel/petrel/HoaLabel$Constant" "value" "Z").before a0 Z = true := hw _ (List.mem_of_getElem? (i := 73) rfl)
theorem w74 {a0 : Array Value} {Z : State} (hw : HW a0 Z) : (Jvm.Cond.constant "com/example/petrel/petrel/ConstantTablePinLaw" (30 : Nat) (2147483647 : Int32)).before a0 Z = true := hw _ (List.mem_of_getElem? (i := 74) rfl)
theorem w75 {a0 : Array Value} {Z : State} (hw : HW a0 Z) : (Jvm.Cond.methodLink "com/example/petrel/petrel/ConstantTablePinLaw" (31 : Nat) ({ cls := "com/example/petrel/petrel/HoaLabel$Constant", name := "table", desc := "(Lcom/example/petrel/petrel/HoaLabel$Tables;)Ljava/util/BitSet;" } : Jvm.MethodName)).before a0 Z = true := hw _ (List.mem_of_getElem? (i := 75) rfl)
theorem w76 {a0 : Array Value} {Z : State} (hw : HW a0 Z) : (Jvm.Cond.declares ({ cls := "com/example/petrel/petrel/HoaLabel$Constant", name := "table", desc := "(Lcom/example/petrel/petrel/HoaLabel$Tables;)Ljava/util/BitSet;" } : Jvm.MethodName)).before a0 Z = true := hw _ (List.mem_of_getElem? (i := 76) rfl)
theorem w77 {a0 : Array Value} {Z : State} (hw : HW a0 Z) : (Jvm.Cond.instanceMethod ({ cls := "com/example/petrel/petrel/HoaLabel$Constant", name := "table", desc := "(Lcom/example/petrel/petrel/HoaLabel$Tables;)Ljava/util/BitSet;" } : Jvm.MethodName)).before a0 Z = true := hw _ (List.mem_of_getElem? (i := 77) rfl)
theorem w78 {a0 : Array Value} {Z : State} (hw : HW a0 Z) : (Jvm.Cond.selects "com/example/petrel/petrel/HoaLabel$Constant" ({ cls := "com/example/petrel/petrel/HoaLabel$Constant", name := "table", desc := "(Lcom/example/petrel/petrel/HoaLabel$Tables;)Ljava/util/BitSet;" } : Jvm.MethodName) ({ cls := "com/example/petrel/petrel/HoaLabel$Constant", name := "table", desc := "(Lcom/example/petrel/petrel/HoaLabel$Tables;)Ljava/util/BitSet;" } : Jvm.MethodName)).before a0 Z = true := hw _ (List.mem_of_getElem? (i := 78) rfl)
theorem w79 {a0 : Array Value} {Z : State} (hw : HW a0 Z) : (Jvm.Cond.code ({ cls := "com/example/petrel/petrel/HoaLabel$Constant", name := "table", desc := "(Lcom/example/petrel/petrel/HoaLabel$Tables;)Ljava/util/BitSet;" } : Jvm.MethodName) prog_5_method_2_code (3 : Nat) (Option.some (Jvm.ClassFile.FieldType.object "java/util/BitSet"))).before a0 Z = true := hw _ (List.mem_of_getElem? (i := 79) rfl)
theorem w80 {a0 : Array Value} {Z : State} (hw : HW a0 Z) : (Jvm.Cond.classLink "com/example/petrel/petrel/HoaLabel$Constant" (13 : Nat) "java/util/BitSet").before a0 Z = true := hw _ (List.mem_of_getElem? (i := 80) rfl)
theorem w81 {a0 : Array Value} {Z : State} (hw : HW a0 Z) : (Jvm.Cond.fieldLinkNest "com/example/petrel/petrel/HoaLabel$Constant" (15 : Nat) "com/example/petrel/petrel/HoaLabel$Tables" "valuationCount" "I" "com/example/petrel/petrel/HoaLabel").before a0 Z = true := hw _ (List.mem_of_getElem? (i := 81) rfl)
theorem w82 {a0 : Array Value} {Z : State} (hw : HW a0 Z) : (Jvm.Cond.methodLink "com/example/petrel/petrel/HoaLabel$Constant" (21 : Nat) ({ cls := "java/util/BitSet", name := "<init>", desc := "(I)V" } : Jvm.MethodName)).before a0 Z = true := hw _ (List.mem_of_getElem? (i := 82) rfl)
theorem w83 {a0 : Array Value} {Z : State} (hw : HW a0 Z) : (Jvm.Cond.methodLink "com/example/petrel/petrel/HoaLabel$Constant" (24 : Nat) ({ cls := "java/util/BitSet", name := "set", desc := "(IIZ)V" } : Jvm.MethodName)).before a0 Z = true := hw _ (List.mem_of_getElem? (i := 83) rfl)
theorem w84 {a0 : Array Value} {Z : State} (hw : HW a0 Z) : (Jvm.Cond.declares ({ cls := "java/util/BitSet", name := "set", desc := "(IIZ)V" } : Jvm.MethodName)).before a0 Z = true := hw _ (List.mem_of_getElem? (i := 84) rfl)
theorem w85 {a0 : Array Value} {Z : State} (hw : HW a0 Z) : (Jvm.Cond.instanceMethod ({ cls := "java/util/BitSet", name := "set", desc := "(IIZ)V" } : Jvm.MethodName)).before a0 Z = true := hw _ (List.mem_of_getElem? (i := 85) rfl)
theorem w86 {a0 : Array Value} {Z : State} (hw : HW a0 Z) : (Jvm.Cond.selects "java/util/BitSet" ({ cls := "java/util/BitSet", name := "set", desc := "(IIZ)V" } : Jvm.MethodName) ({ cls := "java/util/BitSet", name := "set", desc := "(IIZ)V" } : Jvm.MethodName)).before a0 Z = true := hw _ (List.mem_of_getElem? (i := 86) rfl)
theorem w87 {a0 : Array Value} {Z : State} (hw : HW a0 Z) : (Jvm.Cond.code ({ cls := "java/util/BitSet", name := "set", desc := "(IIZ)V" } : Jvm.MethodName) jdk_92_method_22_code (4 : Nat) (Option.none : Option Jvm.ClassFile.FieldType)).before a0 Z = true := hw _ (List.mem_of_getElem? (i := 87) rfl)
theorem w88 {a0 : Array Value} {Z : State} (hw : HW a0 Z) : (Jvm.Cond.methodLink "java/util/BitSet" (175 : Nat) ({ cls := "java/util/BitSet", name := "clear", desc := "(II)V" } : Jvm.MethodName)).before a0 Z = true := hw _ (List.mem_of_getElem? (i := 88) rfl)
theorem w89 {a0 : Array Value} {Z : State} (hw : HW a0 Z) : (Jvm.Cond.declares ({ cls := "java/util/BitSet", name := "clear", desc := "(II)V" } : Jvm.MethodName)).before a0 Z = true := hw _ (List.mem_of_getElem? (i := 89) rfl)
theorem w90 {a0 : Array Value} {Z : State} (hw : HW a0 Z) : (Jvm.Cond.instanceMethod ({ cls := "java/util/BitSet", name := "clear", desc := "(II)V" } : Jvm.MethodName)).before a0 Z = true := hw _ (List.mem_of_getElem? (i := 90) rfl)
theorem w91 {a0 : Array Value} {Z : State} (hw : HW a0 Z) : (Jvm.Cond.selects "java/util/BitSet" ({ cls := "java/util/BitSet", name := "clear", desc := "(II)V" } : Jvm.MethodName) ({ cls := "java/util/BitSet", name := "clear", desc := "(II)V" } : Jvm.MethodName)).before a0 Z = true := hw _ (List.mem_of_getElem? (i := 91) rfl)
theorem w92 {a0 : Array Value} {Z : State} (hw : HW a0 Z) : (Jvm.Cond.code ({ cls := "java/util/BitSet", name := "clear", desc := "(II)V" } : Jvm.MethodName) jdk_92_method_24_code (10 : Nat) (Option.none : Option Jvm.ClassFile.FieldType)).before a0 Z = true := hw _ (List.mem_of_getElem? (i := 92) rfl)
theorem w93 {a0 : Array Value} {Z : State} (hw : HW a0 Z) : (Jvm.Cond.methodLink "java/util/BitSet" (161 : Nat) ({ cls := "java/util/BitSet", name := "checkRange", desc := "(II)V" } : Jvm.MethodName)).before a0 Z = true := hw _ (List.mem_of_getElem? (i := 93) rfl)
theorem w94 {a0 : Array Value} {Z : State} (hw : HW a0 Z) : (Jvm.Cond.static ({ cls := "java/util/BitSet", name := "checkRange", desc := "(II)V" } : Jvm.MethodName)).before a0 Z = true := hw _ (List.mem_of_getElem? (i := 94) rfl)
theorem w95 {a0 : Array Value} {Z : State} (hw : HW a0 Z) : (Jvm.Cond.code ({ cls := "java/util/BitSet", name := "checkRange", desc := "(II)V" } : Jvm.MethodName) jdk_92_method_16_code (2 : Nat) (Option.none : Option Jvm.ClassFile.FieldType)).before a0 Z = true := hw _ (List.mem_of_getElem? (i := 95) rfl)
theorem w96 {a0 : Array Value} {Z : State} (hw : HW a0 Z) : (Jvm.Cond.methodLink "com/example/petrel/petrel/ConstantTablePinLaw" (35 : Nat) ({ cls := "com/example/petrel/petrel/ConstantTablePinLaw", name := "exact", desc := "(Ljava/util/BitSet;IIZ)Z" } : Jvm.MethodName)).before a0 Z = true := hw _ (List.mem_of_getElem? (i := 96) rfl)
theorem w97 {a0 : Array Value} {Z : State} (hw : HW a0 Z) : (Jvm.Cond.static ({ cls := "com/example/petrel/petrel/ConstantTablePinLaw", name := "exact", desc := "(Ljava/util/BitSet;IIZ)Z" } : Jvm.MethodName)).before a0 Z = true := hw _ (List.mem_of_getElem? (i := 97) rfl)
theorem w98 {a0 : Array Value} {Z : State} (hw : HW a0 Z) : (Jvm.Cond.initialized "com/example/petrel/petrel/ConstantTablePinLaw").before a0 Z = true := hw _ (List.mem_of_getElem? (i := 98) rfl)
theorem w99 {a0 : Array Value} {Z : State} (hw : HW a0 Z) : (Jvm.Cond.code ({ cls := "com/example/petrel/petrel/ConstantTablePinLaw", name := "exact", desc := "(Ljava/util/BitSet;IIZ)Z" } : Jvm.MethodName) method_2_code (4 : Nat) (Option.some Jvm.ClassFile.FieldType.boolean)).before a0 Z = true := hw _ (List.mem_of_getElem? (i := 99) rfl)
theorem w100 {a0 : Array Value} {Z : State} (hw : HW a0 Z) : (Jvm.Cond.methodLink "com/example/petrel/petrel/ConstantTablePinLaw" (7 : Nat) ({ cls := "java/util/BitSet", name := "cardinality", desc := "()I" } : Jvm.MethodName)).before a0 Z = true := hw _ (List.mem_of_getElem? (i := 100) rfl)
theorem w101 {a0 : Array Value} {Z : State} (hw : HW a0 Z) : (Jvm.Cond.declares ({ cls := "java/util/BitSet", name := "cardinality", desc := "()I" } : Jvm.MethodName)).before a0 Z = true := hw _ (List.mem_of_getElem? (i := 101) rfl)
theorem w102 {a0 : Array Value} {Z : State} (hw : HW a0 Z) : (Jvm.Cond.instanceMethod ({ cls := "java/util/BitSet", name := "cardinality", desc := "()I" } : Jvm.MethodName)).before a0 Z = true := hw _ (List.mem_of_getElem? (i := 102) rfl)
theorem w103 {a0 : Array Value} {Z : State} (hw : HW a0 Z) : (Jvm.Cond.selects "java/util/BitSet" ({ cls := "java/util/BitSet", name := "cardinality", desc := "()I" } : Jvm.MethodName) ({ cls := "java/util/BitSet", name := "cardinality", desc := "()I" } : Jvm.MethodName)).before a0 Z = true := hw _ (List.mem_of_getElem? (i := 103) rfl)
theorem w104 {a0 : Array Value} {Z : State} (hw : HW a0 Z) : (Jvm.Cond.code ({ cls := "java/util/BitSet", name := "cardinality", desc := "()I" } : Jvm.MethodName) jdk_92_method_35_code (3 : Nat) (Option.some Jvm.ClassFile.FieldType.int)).before a0 Z = true := hw _ (List.mem_of_getElem? (i := 104) rfl)
theorem w105 {a0 : Array Value} {Z : State} (hw : HW a0 Z) : (Jvm.Cond.methodLink "com/example/petrel/petrel/ConstantTablePinLaw" (13 : Nat) ({ cls := "java/util/BitSet", name := "length", desc := "()I" } : Jvm.MethodName)).before a0 Z = true := hw _ (List.mem_of_getElem? (i := 105) rfl)
theorem w106 {a0 : Array Value} {Z : State} (hw : HW a0 Z) : (Jvm.Cond.declares ({ cls := "java/util/BitSet", name := "length", desc := "()I" } : Jvm.MethodName)).before a0 Z = true := hw _ (List.mem_of_getElem? (i := 106) rfl)
theorem w107 {a0 : Array Value} {Z : State} (hw : HW a0 Z) : (Jvm.Cond.instanceMethod ({ cls := "java/util/BitSet", name := "length", desc := "()I" } : Jvm.MethodName)).before a0 Z = true := hw _ (List.mem_of_getElem? (i := 107) rfl)
theorem w108 {a0 : Array Value} {Z : State} (hw : HW a0 Z) : (Jvm.Cond.selects "java/util/BitSet" ({ cls := "java/util/BitSet", name := "length", desc := "()I" } : Jvm.MethodName) ({ cls := "java/util/BitSet", name := "length", desc := "()I" } : Jvm.MethodName)).before a0 Z = true := hw _ (List.mem_of_getElem? (i := 108) rfl)
theorem w109 {a0 : Array Value} {Z : State} (hw : HW a0 Z) : (Jvm.Cond.code ({ cls := "java/util/BitSet", name := "length", desc := "()I" } : Jvm.MethodName) jdk_92_method_32_code (1 : Nat) (Option.some Jvm.ClassFile.FieldType.int)).before a0 Z = true := hw _ (List.mem_of_getElem? (i := 109) rfl)
theorem w110 {a0 : Array Value} {Z : State} (hw : HW a0 Z) : (Jvm.Cond.methodLink "com/example/petrel/petrel/ConstantTablePinLaw" (16 : Nat) ({ cls := "java/util/BitSet", name := "get", desc := "(I)Z" } : Jvm.MethodName)).before a0 Z = true := hw _ (List.mem_of_getElem? (i := 110) rfl)
theorem w111 {a0 : Array Value} {Z : State} (hw : HW a0 Z) : (Jvm.Cond.declares ({ cls := "java/util/BitSet", name := "get", desc := "(I)Z" } : Jvm.MethodName)).before a0 Z = true := hw _ (List.mem_of_getElem? (i := 111) rfl)
theorem w112 {a0 : Array Value} {Z : State} (hw : HW a0 Z) : (Jvm.Cond.instanceMethod ({ cls := "java/util/BitSet", name := "get", desc := "(I)Z" } : Jvm.MethodName)).before a0 Z = true := hw _ (List.mem_of_getElem? (i := 112) rfl)
theorem w113 {a0 : Array Value} {Z : State} (hw : HW a0 Z) : (Jvm.Cond.selects "java/util/BitSet" ({ cls := "java/util/BitSet", name := "get", desc := "(I)Z" } : Jvm.MethodName) ({ cls := "java/util/BitSet", name := "get", desc := "(I)Z" } : Jvm.MethodName)).before a0 Z = true := hw _ (List.mem_of_getElem? (i := 113) rfl)
theorem w114 {a0 : Array Value} {Z : State} (hw : HW a0 Z) : (Jvm.Cond.code ({ cls := "java/util/BitSet", name := "get", desc := "(I)Z" } : Jvm.MethodName) jdk_92_method_26_code (3 : Nat) (Option.some Jvm.ClassFile.FieldType.boolean)).before a0 Z = true := hw _ (List.mem_of_getElem? (i := 114) rfl)
theorem w115 {a0 : Array Value} {Z : State} (hw : HW a0 Z) : (Jvm.Cond.methodLink "com/example/petrel/petrel/ConstantTablePinLaw" (41 : Nat) ({ cls := "java/util/BitSet", name := "flip", desc := "(II)V" } : Jvm.MethodName)).before a0 Z = true := hw _ (List.mem_of_getElem? (i := 115) rfl)
theorem w116 {a0 : Array Value} {Z : State} (hw : HW a0 Z) : (Jvm.Cond.declares ({ cls := "java/util/BitSet", name := "flip", desc := "(II)V" } : Jvm.MethodName)).before a0 Z = true := hw _ (List.mem_of_getElem? (i := 116) rfl)
theorem w117 {a0 : Array Value} {Z : State} (hw : HW a0 Z) : (Jvm.Cond.instanceMethod ({ cls := "java/util/BitSet", name := "flip", desc := "(II)V" } : Jvm.MethodName)).before a0 Z = true := hw _ (List.mem_of_getElem? (i := 117) rfl)
theorem w118 {a0 : Array Value} {Z : State} (hw : HW a0 Z) : (Jvm.Cond.selects "java/util/BitSet" ({ cls := "java/util/BitSet", name := "flip", desc := "(II)V" } : Jvm.MethodName) ({ cls := "java/util/BitSet", name := "flip", desc := "(II)V" } : Jvm.MethodName)).before a0 Z = true := hw _ (List.mem_of_getElem? (i := 118) rfl)
theorem w119 {a0 : Array Value} {Z : State} (hw : HW a0 Z) : (Jvm.Cond.code ({ cls := "java/util/BitSet", name := "flip", desc := "(II)V" } : Jvm.MethodName) jdk_92_method_18_code (10 : Nat) (Option.none : Option Jvm.ClassFile.FieldType)).before a0 Z = true := hw _ (List.mem_of_getElem? (i := 119) rfl)
theorem w120 {a0 : Array Value} {Z : State} (hw : HW a0 Z) : (Jvm.Cond.constantLong "java/util/BitSet" (165 : Nat) (-1 : Int64)).before a0 Z = true := hw _ (List.mem_of_getElem? (i := 120) rfl)
theorem w121 {a0 : Array Value} {Z : State} (hw : HW a0 Z) : (Jvm.Cond.methodLink "java/util/BitSet" (158 : Nat) ({ cls := "java/util/BitSet", name := "recalculateWordsInUse", desc := "()V" } : Jvm.MethodName)).before a0 Z = true := hw _ (List.mem_of_getElem? (i := 121) rfl)
theorem w122 {a0 : Array Value} {Z : State} (hw : HW a0 Z) : (Jvm.Cond.instanceMethod ({ cls := "java/util/BitSet", name := "recalculateWordsInUse", desc := "()V" } : Jvm.MethodName)).before a0 Z = true := hw _ (List.mem_of_getElem? (i := 122) rfl)
theorem w123 {a0 : Array Value} {Z : State} (hw : HW a0 Z) : (Jvm.Cond.privateMethod ({ cls := "java/util/BitSet", name := "recalculateWordsInUse", desc := "()V" } : Jvm.MethodName)).before a0 Z = true := hw _ (List.mem_of_getElem? (i := 123) rfl)
theorem w124 {a0 : Array Value} {Z : State} (hw : HW a0 Z) : (Jvm.Cond.selects "java/util/BitSet" ({ cls := "java/util/BitSet", name := "recalculateWordsInUse", desc := "()V" } : Jvm.MethodName) ({ cls := "java/util/BitSet", name := "recalculateWordsInUse", desc := "()V" } : Jvm.MethodName)).before a0 Z = true := hw _ (List.mem_of_getElem? (i := 124) rfl)
theorem w125 {a0 : Array Value} {Z : State} (hw : HW a0 Z) : (Jvm.Cond.code ({ cls := "java/util/BitSet", name := "recalculateWordsInUse", desc := "()V" } : Jvm.MethodName) jdk_92_method_3_code (2 : Nat) (Option.none : Option Jvm.ClassFile.FieldType)).before a0 Z = true := hw _ (List.mem_of_getElem? (i := 125) rfl)
theorem w126 {a0 : Array Value} {Z : State} (hw : HW a0 Z) : (Jvm.Cond.methodLink "java/util/BitSet" (173 : Nat) ({ cls := "java/util/BitSet", name := "set", desc := "(II)V" } : Jvm.MethodName)).before a0 Z = true := hw _ (List.mem_of_getElem? (i := 126) rfl)
theorem w127 {a0 : Array Value} {Z : State} (hw : HW a0 Z) : (Jvm.Cond.declares ({ cls := "java/util/BitSet", name := "set", desc := "(II)V" } : Jvm.MethodName)).before a0 Z = true := hw _ (List.mem_of_getElem? (i := 127) rfl)
theorem w128 {a0 : Array Value} {Z : State} (hw : HW a0 Z) : (Jvm.Cond.instanceMethod ({ cls := "java/util/BitSet", name := "set", desc := "(II)V" } : Jvm.MethodName)).before a0 Z = true := hw _ (List.mem_of_getElem? (i := 128) rfl)
theorem w129 {a0 : Array Value} {Z : State} (hw : HW a0 Z) : (Jvm.Cond.selects "java/util/BitSet" ({ cls := "java/util/BitSet", name := "set", desc := "(II)V" } : Jvm.MethodName) ({ cls := "java/util/BitSet", name := "set", desc := "(II)V" } : Jvm.MethodName)).before a0 Z = true := hw _ (List.mem_of_getElem? (i := 129) rfl)
theorem w130 {a0 : Array Value} {Z : State} (hw : HW a0 Z) : (Jvm.Cond.code ({ cls := "java/util/BitSet", name := "set", desc := "(II)V" } : Jvm.MethodName) jdk_92_method_21_code (10 : Nat) (Option.none : Option Jvm.ClassFile.FieldType)).before a0 Z = true := hw _ (List.mem_of_getElem? (i := 130) rfl)
theorem w131 {a0 : Array Value} {Z : State} (hw : HW a0 Z) : (Jvm.Cond.methodLink "java/util/BitSet" (196 : Nat) ({ cls := "java/lang/Long", name := "bitCount", desc := "(J)I" } : Jvm.MethodName)).before a0 Z = true := hw _ (List.mem_of_getElem? (i := 131) rfl)
theorem w132 {a0 : Array Value} {Z : State} (hw : HW a0 Z) : (Jvm.Cond.static ({ cls := "java/lang/Long", name := "bitCount", desc := "(J)I" } : Jvm.MethodName)).before a0 Z = true := hw _ (List.mem_of_getElem? (i := 132) rfl)
theorem w133 {a0 : Array Value} {Z : State} (hw : HW a0 Z) : (Jvm.Cond.initialized "java/lang/Long").before a0 Z = true := hw _ (List.mem_of_getElem? (i := 133) rfl)
theorem w134 {a0 : Array Value} {Z : State} (hw : HW a0 Z) : (Jvm.Cond.code ({ cls := "java/lang/Long", name := "bitCount", desc := "(J)I" } : Jvm.MethodName) jdk_35_method_50_code (2 : Nat) (Option.some Jvm.ClassFile.FieldType.int)).before a0 Z = true := hw _ (List.mem_of_getElem? (i := 134) rfl)
theorem w135 {a0 : Array Value} {Z : State} (hw : HW a0 Z) : (Jvm.Cond.constantLong "java/lang/Long" (314 : Nat) (6148914691236517205 : Int64)).before a0 Z = true := hw _ (List.mem_of_getElem? (i := 135) rfl)
theorem w136 {a0 : Array Value} {Z : State} (hw : HW a0 Z) : (Jvm.Cond.constantLong "java/lang/Long" (316 : Nat) (3689348814741910323 : Int64)).before a0 Z = true := hw _ (List.mem_of_getElem? (i := 136) rfl)
theorem w137 {a0 : Array Value} {Z : State} (hw : HW a0 Z) : (Jvm.Cond.constantLong "java/lang/Long" (318 : Nat) (1085102592571150095 : Int64)).before a0 Z = true := hw _ (List.mem_of_getElem? (i := 137) rfl)
theorem w138 {a0 : Array Value} {Z : State} (hw : HW a0 Z) : (Jvm.Cond.methodLink "java/util/BitSet" (190 : Nat) ({ cls := "java/lang/Long", name := "numberOfLeadingZeros", desc := "(J)I" } : Jvm.MethodName)).before a0 Z = true := hw _ (List.mem_of_getElem? (i := 138) rfl)
theorem w139 {a0 : Array Value} {Z : State} (hw : HW a0 Z) : (Jvm.Cond.static ({ cls := "java/lang/Long", name := "numberOfLeadingZeros", desc := "(J)I" } : Jvm.MethodName)).before a0 Z = true := hw _ (List.mem_of_getElem? (i := 139) rfl)
theorem w140 {a0 : Array Value} {Z : State} (hw : HW a0 Z) : (Jvm.Cond.code ({ cls := "java/lang/Long", name := "numberOfLeadingZeros", desc := "(J)I" } : Jvm.MethodName) jdk_35_method_48_code (3 : Nat) (Option.some Jvm.ClassFile.FieldType.int)).before a0 Z = true := hw _ (List.mem_of_getElem? (i := 140) rfl)
theorem w141 {a0 : Array Value} {Z : State} (hw : HW a0 Z) : (Jvm.Cond.methodLink "java/lang/Long" (308 : Nat) ({ cls := "java/lang/Integer", name := "numberOfLeadingZeros", desc := "(I)I" } : Jvm.MethodName)).before a0 Z = true := hw _ (List.mem_of_getElem? (i := 141) rfl)
theorem w142 {a0 : Array Value} {Z : State} (hw : HW a0 Z) : (Jvm.Cond.static ({ cls := "java/lang/Integer", name := "numberOfLeadingZeros", desc := "(I)I" } : Jvm.MethodName)).before a0 Z = true := hw _ (List.mem_of_getElem? (i := 142) rfl)
theorem w143 {a0 : Array Value} {Z : State} (hw : HW a0 Z) : (Jvm.Cond.initialized "java/lang/Integer").before a0 Z = true := hw _ (List.mem_of_getElem? (i := 143) rfl)
theorem w144 {a0 : Array Value} {Z : State} (hw : HW a0 Z) : (Jvm.Cond.code ({ cls := "java/lang/Integer", name := "numberOfLeadingZeros", desc := "(I)I" } : Jvm.MethodName) jdk_33_method_47_code (2 : Nat) (Option.some Jvm.ClassFile.FieldType.int)).before a0 Z = true := hw _ (List.mem_of_getElem? (i := 144) rfl)
theorem w145 {a0 : Array Value} {Z : State} (hw : HW a0 Z) : (Jvm.Cond.constant "java/lang/Integer" (264 : Nat) (65536 : Int32)).before a0 Z = true := hw _ (List.mem_of_getElem? (i := 145) rfl)
theorem w146 {a0 : Array Value} {Z : State} (hw : HW a0 Z) : (Jvm.Cond.methodLink "java/util/BitSet" (133 : Nat) ({ cls := "java/lang/Math", name := "max", desc := "(II)I" } : Jvm.MethodName)).before a0 Z = true := hw _ (List.mem_of_getElem? (i := 146) rfl)
theorem w147 {a0 : Array Value} {Z : State} (hw : HW a0 Z) : (Jvm.Cond.static ({ cls := "java/lang/Math", name := "max", desc := "(II)I" } : Jvm.MethodName)).before a0 Z = true := hw _ (List.mem_of_getElem? (i := 147) rfl)
theorem w148 {a0 : Array Value} {Z : State} (hw : HW a0 Z) : (Jvm.Cond.initialized "java/lang/Math").before a0 Z = true := hw _ (List.mem_of_getElem? (i := 148) rfl)
theorem w149 {a0 : Array Value} {Z : State} (hw : HW a0 Z) : (Jvm.Cond.code ({ cls := "java/lang/Math", name := "max", desc := "(II)I" } : Jvm.MethodName) jdk_29_method_65_code (2 : Nat) (Option.some Jvm.ClassFile.FieldType.int)).before a0 Z = true := hw _ (List.mem_of_getElem? (i := 149) rfl)
theorem w150 {a0 : Array Value} {Z : State} (hw : HW a0 Z) : (Jvm.Cond.methodLink "java/util/BitSet" (59 : Nat) ({ cls := "java/util/Arrays", name := "copyOf", desc := "([JI)[J" } : Jvm.MethodName)).before a0 Z = true := hw _ (List.mem_of_getElem? (i := 150) rfl)
theorem w151 {a0 : Array Value} {Z : State} (hw : HW a0 Z) : (Jvm.Cond.static ({ cls := "java/util/Arrays", name := "copyOf", desc := "([JI)[J" } : Jvm.MethodName)).before a0 Z = true := hw _ (List.mem_of_getElem? (i := 151) rfl)
theorem w152 {a0 : Array Value} {Z : State} (hw : HW a0 Z) : (Jvm.Cond.initialized "java/util/Arrays").before a0 Z = true := hw _ (List.mem_of_getElem? (i := 152) rfl)
theorem w153 {a0 : Array Value} {Z : State} (hw : HW a0 Z) : (Jvm.Cond.code ({ cls := "java/util/Arrays", name := "copyOf", desc := "([JI)[J" } : Jvm.MethodName) jdk_65_method_124_code (3 : Nat) (Option.some (Jvm.ClassFile.FieldType.array Jvm.ClassFile.FieldType.long))).before a0 Z = true := hw _ (List.mem_of_getElem? (i := 153) rfl)
theorem w154 {a0 : Array Value} {Z : State} (hw : HW a0 Z) : (Jvm.Cond.methodLink "java/util/Arrays" (304 : Nat) ({ cls := "java/lang/Math", name := "min", desc := "(II)I" } : Jvm.MethodName)).before a0 Z = true := hw _ (List.mem_of_getElem? (i := 154) rfl)
theorem w155 {a0 : Array Value} {Z : State} (hw : HW a0 Z) : (Jvm.Cond.static ({ cls := "java/lang/Math", name := "min", desc := "(II)I" } : Jvm.MethodName)).before a0 Z = true := hw _ (List.mem_of_getElem? (i := 155) rfl)
theorem w156 {a0 : Array Value} {Z : State} (hw : HW a0 Z) : (Jvm.Cond.code ({ cls := "java/lang/Math", name := "min", desc := "(II)I" } : Jvm.MethodName) jdk_29_method_69_code (2 : Nat) (Option.some Jvm.ClassFile.FieldType.int)).before a0 Z = true := hw _ (List.mem_of_getElem? (i := 156) rfl)
theorem w157 {a0 : Array Value} {Z : State} (hw : HW a0 Z) : (Jvm.Cond.methodLink "java/util/Arrays" (150 : Nat) ({ cls := "java/lang/System", name := "arraycopy", desc := "(Ljava/lang/Object;ILjava/lang/Object;II)V" } : Jvm.MethodName)).before a0 Z = true := hw _ (List.mem_of_getElem? (i := 157) rfl)
theorem w158 {a0 : Array Value} {Z : State} (hw : HW a0 Z) : (Jvm.Cond.static ({ cls := "java/lang/System", name := "arraycopy", desc := "(Ljava/lang/Object;ILjava/lang/Object;II)V" } : Jvm.MethodName)).before a0 Z = true := hw _ (List.mem_of_getElem? (i := 158) rfl)
theorem w159 {a0 : Array Value} {Z : State} (hw : HW a0 Z) : (Jvm.Cond.initialized "java/lang/System").before a0 Z = true := hw _ (List.mem_of_getElem? (i := 159) rfl)
theorem w160 {a0 : Array Value} {Z : State} (hw : HW a0 Z) : (Jvm.Cond.native ({ cls := "java/lang/System", name := "arraycopy", desc := "(Ljava/lang/Object;ILjava/lang/Object;II)V" } : Jvm.MethodName)).before a0 Z = true := hw _ (List.mem_of_getElem? (i := 160) rfl)
theorem d1_0 : decode prog_8_method_1_code 0 = .ok (.aload_n 0, 1) := by decide +kernel
theorem d1_1 : decode prog_8_method_1_code 1 = .ok (.invokespecial 1, 3) := by decide +kernel
theorem d1_4 : decode prog_8_method_1_code 4 = .ok (.aload_n 0, 1) := by decide +kernel
theorem d1_5 : decode prog_8_method_1_code 5 = .ok (.iconst 1, 1) := by decide +kernel
theorem d1_6 : decode prog_8_method_1_code 6 = .ok (.iload_n 1, 1) := by decide +kernel
theorem d1_7 : decode prog_8_method_1_code 7 = .ok (.ishl, 1) := by decide +kernel
theorem d1_8 : decode prog_8_method_1_code 8 = .ok (.putfield 7, 3) := by decide +kernel
theorem d1_11 : decode prog_8_method_1_code 11 = .ok (.aload_n 0, 1) := by decide +kernel
theorem d1_12 : decode prog_8_method_1_code 12 = .ok (.iload_n 1, 1) := by decide +kernel
theorem d1_13 : decode prog_8_method_1_code 13 = .ok (.anewarray 13, 3) := by decide +kernel
theorem d1_16 : decode prog_8_method_1_code 16 = .ok (.putfield 15, 3) := by decide +kernel
theorem d1_19 : decode prog_8_method_1_code 19 = .ok (.iconst 0, 1) := by decide +kernel
theorem d1_20 : decode prog_8_method_1_code 20 = .ok (.istore_n 3, 1) := by decide +kernel
theorem d1_21 : decode prog_8_method_1_code 21 = .ok (.iload_n 3, 1) := by decide +kernel
theorem d1_22 : decode prog_8_method_1_code 22 = .ok (.iload_n 1, 1) := by decide +kernel
theorem d1_23 : decode prog_8_method_1_code 23 = .ok (.if_icmp .ge 64, 3) := by decide +kernel
theorem d1_26 : decode prog_8_method_1_code 26 = .ok (.aload_n 0, 1) := by decide +kernel
theorem d1_27 : decode prog_8_method_1_code 27 = .ok (.getfield 15, 3) := by decide +kernel
theorem d1_30 : decode prog_8_method_1_code 30 = .ok (.iload_n 3, 1) := by decide +kernel
theorem d1_31 : decode prog_8_method_1_code 31 = .ok (.new 13, 3) := by decide +kernel
theorem d1_34 : decode prog_8_method_1_code 34 = .ok (.dup, 1) := by decide +kernel
theorem d1_35 : decode prog_8_method_1_code 35 = .ok (.aload_n 0, 1) := by decide +kernel
theorem d1_36 : decode prog_8_method_1_code 36 = .ok (.getfield 7, 3) := by decide +kernel
theorem d1_39 : decode prog_8_method_1_code 39 = .ok (.invokespecial 19, 3) := by decide +kernel
theorem d1_42 : decode prog_8_method_1_code 42 = .ok (.aastore, 1) := by decide +kernel
theorem d1_43 : decode prog_8_method_1_code 43 = .ok (.iconst 0, 1) := by decide +kernel
theorem d1_44 : decode prog_8_method_1_code 44 = .ok (.istore 4, 2) := by decide +kernel
theorem d1_46 : decode prog_8_method_1_code 46 = .ok (.iload 4, 2) := by decide +kernel
theorem d1_48 : decode prog_8_method_1_code 48 = .ok (.aload_n 0, 1) := by decide +kernel
theorem d1_49 : decode prog_8_method_1_code 49 = .ok (.getfield 7, 3) := by decide +kernel
theorem d1_52 : decode prog_8_method_1_code 52 = .ok (.if_icmp .ge 29, 3) := by decide +kernel
theorem d1_55 : decode prog_8_method_1_code 55 = .ok (.iload 4, 2) := by decide +kernel
theorem d1_57 : decode prog_8_method_1_code 57 = .ok (.iload_n 3, 1) := by decide +kernel
theorem d1_58 : decode prog_8_method_1_code 58 = .ok (.ishr, 1) := by decide +kernel
theorem d1_59 : decode prog_8_method_1_code 59 = .ok (.iconst 1, 1) := by decide +kernel
theorem d1_60 : decode prog_8_method_1_code 60 = .ok (.iand, 1) := by decide +kernel
theorem d1_61 : decode prog_8_method_1_code 61 = .ok (.ifCond .eq 14, 3) := by decide +kernel
theorem d1_64 : decode prog_8_method_1_code 64 = .ok (.aload_n 0, 1) := by decide +kernel
theorem d1_65 : decode prog_8_method_1_code 65 = .ok (.getfield 15, 3) := by decide +kernel
theorem d1_68 : decode prog_8_method_1_code 68 = .ok (.iload_n 3, 1) := by decide +kernel
theorem d1_69 : decode prog_8_method_1_code 69 = .ok (.aaload, 1) := by decide +kernel
theorem d1_70 : decode prog_8_method_1_code 70 = .ok (.iload 4, 2) := by decide +kernel
theorem d1_72 : decode prog_8_method_1_code 72 = .ok (.invokevirtual 22, 3) := by decide +kernel
theorem d1_75 : decode prog_8_method_1_code 75 = .ok (.iinc 4 1, 3) := by decide +kernel
theorem d1_78 : decode prog_8_method_1_code 78 = .ok (.goto (-32), 3) := by decide +kernel
theorem d1_81 : decode prog_8_method_1_code 81 = .ok (.iinc 3 1, 3) := by decide +kernel
theorem d1_84 : decode prog_8_method_1_code 84 = .ok (.goto (-63), 3) := by decide +kernel
theorem d1_87 : decode prog_8_method_1_code 87 = .ok (.aload_n 0, 1) := by decide +kernel
theorem d1_88 : decode prog_8_method_1_code 88 = .ok (.aload_n 2, 1) := by decide +kernel
theorem d1_89 : decode prog_8_method_1_code 89 = .ok (.putfield 25, 3) := by decide +kernel
theorem d1_92 : decode prog_8_method_1_code 92 = .ok (.return_, 1) := by decide +kernel
theorem d3_0 : decode jdk_92_method_5_code 0 = .ok (.aload_n 0, 1) := by decide +kernel
theorem d3_1 : decode jdk_92_method_5_code 1 = .ok (.invokespecial 21, 3) := by decide +kernel
theorem d3_4 : decode jdk_92_method_5_code 4 = .ok (.aload_n 0, 1) := by decide +kernel
theorem d3_5 : decode jdk_92_method_5_code 5 = .ok (.iconst 0, 1) := by decide +kernel
theorem d3_6 : decode jdk_92_method_5_code 6 = .ok (.putfield 7, 3) := by decide +kernel
theorem d3_9 : decode jdk_92_method_5_code 9 = .ok (.aload_n 0, 1) := by decide +kernel
theorem d3_10 : decode jdk_92_method_5_code 10 = .ok (.iconst 0, 1) := by decide +kernel
theorem d3_11 : decode jdk_92_method_5_code 11 = .ok (.putfield 24, 3) := by decide +kernel
theorem d3_14 : decode jdk_92_method_5_code 14 = .ok (.iload_n 1, 1) := by decide +kernel
theorem d3_15 : decode jdk_92_method_5_code 15 = .ok (.ifCond .ge 30, 3) := by decide +kernel
theorem d3_45 : decode jdk_92_method_5_code 45 = .ok (.aload_n 0, 1) := by decide +kernel
theorem d3_46 : decode jdk_92_method_5_code 46 = .ok (.iload_n 1, 1) := by decide +kernel
theorem d3_47 : decode jdk_92_method_5_code 47 = .ok (.invokevirtual 27, 3) := by decide +kernel
theorem d3_50 : decode jdk_92_method_5_code 50 = .ok (.aload_n 0, 1) := by decide +kernel
theorem d3_51 : decode jdk_92_method_5_code 51 = .ok (.iconst 1, 1) := by decide +kernel
theorem d3_52 : decode jdk_92_method_5_code 52 = .ok (.putfield 24, 3) := by decide +kernel
theorem d3_55 : decode jdk_92_method_5_code 55 = .ok (.return_, 1) := by decide +kernel
theorem d4_0 : decode jdk_92_method_6_code 0 = .ok (.aload_n 0, 1) := by decide +kernel
theorem d4_1 : decode jdk_92_method_6_code 1 = .ok (.iload_n 1, 1) := by decide +kernel
theorem d4_2 : decode jdk_92_method_6_code 2 = .ok (.iconst 1, 1) := by decide +kernel
theorem d4_3 : decode jdk_92_method_6_code 3 = .ok (.isub, 1) := by decide +kernel
theorem d4_4 : decode jdk_92_method_6_code 4 = .ok (.invokestatic 52, 3) := by decide +kernel
theorem d4_7 : decode jdk_92_method_6_code 7 = .ok (.iconst 1, 1) := by decide +kernel
theorem d4_8 : decode jdk_92_method_6_code 8 = .ok (.iadd, 1) := by decide +kernel
theorem d4_9 : decode jdk_92_method_6_code 9 = .ok (.newarray .long, 2) := by decide +kernel
theorem d4_11 : decode jdk_92_method_6_code 11 = .ok (.putfield 11, 3) := by decide +kernel
theorem d4_14 : decode jdk_92_method_6_code 14 = .ok (.return_, 1) := by decide +kernel
theorem d5_0 : decode jdk_92_method_1_code 0 = .ok (.iload_n 0, 1) := by decide +kernel
theorem d5_1 : decode jdk_92_method_1_code 1 = .ok (.bipush 6, 2) := by decide +kernel
theorem d5_3 : decode jdk_92_method_1_code 3 = .ok (.ishr, 1) := by decide +kernel
theorem d5_4 : decode jdk_92_method_1_code 4 = .ok (.ireturn, 1) := by decide +kernel
theorem d6_0 : decode jdk_92_method_19_code 0 = .ok (.iload_n 1, 1) := by decide +kernel
theorem d6_1 : decode jdk_92_method_19_code 1 = .ok (.ifCond .ge 30, 3) := by decide +kernel
theorem d6_31 : decode jdk_92_method_19_code 31 = .ok (.iload_n 1, 1) := by decide +kernel
theorem d6_32 : decode jdk_92_method_19_code 32 = .ok (.invokestatic 52, 3) := by decide +kernel
theorem d6_35 : decode jdk_92_method_19_code 35 = .ok (.istore_n 2, 1) := by decide +kernel
theorem d6_36 : decode jdk_92_method_19_code 36 = .ok (.aload_n 0, 1) := by decide +kernel
theorem d6_37 : decode jdk_92_method_19_code 37 = .ok (.iload_n 2, 1) := by decide +kernel
theorem d6_38 : decode jdk_92_method_19_code 38 = .ok (.invokevirtual 155, 3) := by decide +kernel
theorem d6_41 : decode jdk_92_method_19_code 41 = .ok (.aload_n 0, 1) := by decide +kernel
theorem d6_42 : decode jdk_92_method_19_code 42 = .ok (.getfield 11, 3) := by decide +kernel
theorem d6_45 : decode jdk_92_method_19_code 45 = .ok (.iload_n 2, 1) := by decide +kernel
theorem d6_46 : decode jdk_92_method_19_code 46 = .ok (.dup2, 1) := by decide +kernel
theorem d6_47 : decode jdk_92_method_19_code 47 = .ok (.laload, 1) := by decide +kernel
theorem d6_48 : decode jdk_92_method_19_code 48 = .ok (.lconst 1, 1) := by decide +kernel
theorem d6_49 : decode jdk_92_method_19_code 49 = .ok (.iload_n 1, 1) := by decide +kernel
theorem d6_50 : decode jdk_92_method_19_code 50 = .ok (.lshl, 1) := by decide +kernel
theorem d6_51 : decode jdk_92_method_19_code 51 = .ok (.lor, 1) := by decide +kernel
theorem d6_52 : decode jdk_92_method_19_code 52 = .ok (.lastore, 1) := by decide +kernel
theorem d6_53 : decode jdk_92_method_19_code 53 = .ok (.aload_n 0, 1) := by decide +kernel
theorem d6_54 : decode jdk_92_method_19_code 54 = .ok (.invokevirtual 56, 3) := by decide +kernel
theorem d6_57 : decode jdk_92_method_19_code 57 = .ok (.return_, 1) := by decide +kernel
theorem d7_0 : decode jdk_92_method_15_code 0 = .ok (.iload_n 1, 1) := by decide +kernel
theorem d7_1 : decode jdk_92_method_15_code 1 = .ok (.iconst 1, 1) := by decide +kernel
theorem d7_2 : decode jdk_92_method_15_code 2 = .ok (.iadd, 1) := by decide +kernel
theorem d7_3 : decode jdk_92_method_15_code 3 = .ok (.istore_n 2, 1) := by decide +kernel
theorem d7_4 : decode jdk_92_method_15_code 4 = .ok (.aload_n 0, 1) := by decide +kernel
theorem d7_5 : decode jdk_92_method_15_code 5 = .ok (.getfield 7, 3) := by decide +kernel
theorem d7_8 : decode jdk_92_method_15_code 8 = .ok (.iload_n 2, 1) := by decide +kernel
theorem d7_9 : decode jdk_92_method_15_code 9 = .ok (.if_icmp .ge 13, 3) := by decide +kernel
theorem d7_12 : decode jdk_92_method_15_code 12 = .ok (.aload_n 0, 1) := by decide +kernel
theorem d7_13 : decode jdk_92_method_15_code 13 = .ok (.iload_n 2, 1) := by decide +kernel
theorem d7_14 : decode jdk_92_method_15_code 14 = .ok (.invokevirtual 139, 3) := by decide +kernel
theorem d7_17 : decode jdk_92_method_15_code 17 = .ok (.aload_n 0, 1) := by decide +kernel
theorem d7_18 : decode jdk_92_method_15_code 18 = .ok (.iload_n 2, 1) := by decide +kernel
theorem d7_19 : decode jdk_92_method_15_code 19 = .ok (.putfield 7, 3) := by decide +kernel
theorem d7_22 : decode jdk_92_method_15_code 22 = .ok (.return_, 1) := by decide +kernel
theorem d8_0 : decode jdk_92_method_14_code 0 = .ok (.aload_n 0, 1) := by decide +kernel
theorem d8_1 : decode jdk_92_method_14_code 1 = .ok (.getfield 11, 3) := by decide +kernel
theorem d8_4 : decode jdk_92_method_14_code 4 = .ok (.arraylength, 1) := by decide +kernel
theorem d8_5 : decode jdk_92_method_14_code 5 = .ok (.iload_n 1, 1) := by decide +kernel
theorem d8_6 : decode jdk_92_method_14_code 6 = .ok (.if_icmp .ge 32, 3) := by decide +kernel
theorem d8_9 : decode jdk_92_method_14_code 9 = .ok (.iconst 2, 1) := by decide +kernel
theorem d8_10 : decode jdk_92_method_14_code 10 = .ok (.aload_n 0, 1) := by decide +kernel
theorem d8_11 : decode jdk_92_method_14_code 11 = .ok (.getfield 11, 3) := by decide +kernel
theorem d8_14 : decode jdk_92_method_14_code 14 = .ok (.arraylength, 1) := by decide +kernel
theorem d8_15 : decode jdk_92_method_14_code 15 = .ok (.imul, 1) := by decide +kernel
theorem d8_16 : decode jdk_92_method_14_code 16 = .ok (.iload_n 1, 1) := by decide +kernel
theorem d8_17 : decode jdk_92_method_14_code 17 = .ok (.invokestatic 133, 3) := by decide +kernel
theorem d8_20 : decode jdk_92_method_14_code 20 = .ok (.istore_n 2, 1) := by decide +kernel
theorem d8_21 : decode jdk_92_method_14_code 21 = .ok (.aload_n 0, 1) := by decide +kernel
theorem d8_22 : decode jdk_92_method_14_code 22 = .ok (.aload_n 0, 1) := by decide +kernel
theorem d8_23 : decode jdk_92_method_14_code 23 = .ok (.getfield 11, 3) := by decide +kernel
theorem d8_26 : decode jdk_92_method_14_code 26 = .ok (.iload_n 2, 1) := by decide +kernel
theorem d8_27 : decode jdk_92_method_14_code 27 = .ok (.invokestatic 59, 3) := by decide +kernel
theorem d8_30 : decode jdk_92_method_14_code 30 = .ok (.putfield 11, 3) := by decide +kernel
theorem d8_33 : decode jdk_92_method_14_code 33 = .ok (.aload_n 0, 1) := by decide +kernel
theorem d8_34 : decode jdk_92_method_14_code 34 = .ok (.iconst 0, 1) := by decide +kernel
theorem d8_35 : decode jdk_92_method_14_code 35 = .ok (.putfield 24, 3) := by decide +kernel
theorem d8_38 : decode jdk_92_method_14_code 38 = .ok (.return_, 1) := by decide +kernel
theorem d9_0 : decode jdk_92_method_2_code 0 = .ok (.getstatic 3, 3) := by decide +kernel
theorem d9_3 : decode jdk_92_method_2_code 3 = .ok (.ifCond .ne 34, 3) := by decide +kernel
theorem d9_37 : decode jdk_92_method_2_code 37 = .ok (.getstatic 3, 3) := by decide +kernel
theorem d9_40 : decode jdk_92_method_2_code 40 = .ok (.ifCond .ne 30, 3) := by decide +kernel
theorem d9_70 : decode jdk_92_method_2_code 70 = .ok (.getstatic 3, 3) := by decide +kernel
theorem d9_73 : decode jdk_92_method_2_code 73 = .ok (.ifCond .ne 37, 3) := by decide +kernel
theorem d9_110 : decode jdk_92_method_2_code 110 = .ok (.return_, 1) := by decide +kernel
theorem d10_0 : decode prog_5_method_1_code 0 = .ok (.aload_n 0, 1) := by decide +kernel
theorem d10_1 : decode prog_5_method_1_code 1 = .ok (.invokespecial 1, 3) := by decide +kernel
theorem d10_4 : decode prog_5_method_1_code 4 = .ok (.aload_n 0, 1) := by decide +kernel
theorem d10_5 : decode prog_5_method_1_code 5 = .ok (.iload_n 1, 1) := by decide +kernel
theorem d10_6 : decode prog_5_method_1_code 6 = .ok (.putfield 7, 3) := by decide +kernel
theorem d10_9 : decode prog_5_method_1_code 9 = .ok (.return_, 1) := by decide +kernel
theorem d11_0 : decode jdk_30_method_1_code 0 = .ok (.aload_n 0, 1) := by decide +kernel
theorem d11_1 : decode jdk_30_method_1_code 1 = .ok (.invokespecial 1, 3) := by decide +kernel
theorem d11_4 : decode jdk_30_method_1_code 4 = .ok (.return_, 1) := by decide +kernel
theorem d12_0 : decode prog_5_method_2_code 0 = .ok (.new 13, 3) := by decide +kernel
theorem d12_3 : decode prog_5_method_2_code 3 = .ok (.dup, 1) := by decide +kernel
theorem d12_4 : decode prog_5_method_2_code 4 = .ok (.aload_n 1, 1) := by decide +kernel
theorem d12_5 : decode prog_5_method_2_code 5 = .ok (.getfield 15, 3) := by decide +kernel
theorem d12_8 : decode prog_5_method_2_code 8 = .ok (.invokespecial 21, 3) := by decide +kernel
theorem d12_11 : decode prog_5_method_2_code 11 = .ok (.astore_n 2, 1) := by decide +kernel
theorem d12_12 : decode prog_5_method_2_code 12 = .ok (.aload_n 2, 1) := by decide +kernel
theorem d12_13 : decode prog_5_method_2_code 13 = .ok (.iconst 0, 1) := by decide +kernel
theorem d12_14 : decode prog_5_method_2_code 14 = .ok (.aload_n 1, 1) := by decide +kernel
theorem d12_15 : decode prog_5_method_2_code 15 = .ok (.getfield 15, 3) := by decide +kernel
theorem d12_18 : decode prog_5_method_2_code 18 = .ok (.aload_n 0, 1) := by decide +kernel
theorem d12_19 : decode prog_5_method_2_code 19 = .ok (.getfield 7, 3) := by decide +kernel
theorem d12_22 : decode prog_5_method_2_code 22 = .ok (.invokevirtual 24, 3) := by decide +kernel
theorem d12_25 : decode prog_5_method_2_code 25 = .ok (.aload_n 2, 1) := by decide +kernel
theorem d12_26 : decode prog_5_method_2_code 26 = .ok (.areturn, 1) := by decide +kernel
theorem d13_0 : decode jdk_92_method_22_code 0 = .ok (.iload_n 3, 1) := by decide +kernel
theorem d13_1 : decode jdk_92_method_22_code 1 = .ok (.ifCond .eq 12, 3) := by decide +kernel
theorem d13_4 : decode jdk_92_method_22_code 4 = .ok (.aload_n 0, 1) := by decide +kernel
theorem d13_5 : decode jdk_92_method_22_code 5 = .ok (.iload_n 1, 1) := by decide +kernel
theorem d13_6 : decode jdk_92_method_22_code 6 = .ok (.iload_n 2, 1) := by decide +kernel
theorem d13_7 : decode jdk_92_method_22_code 7 = .ok (.invokevirtual 173, 3) := by decide +kernel
theorem d13_10 : decode jdk_92_method_22_code 10 = .ok (.goto 9, 3) := by decide +kernel
theorem d13_13 : decode jdk_92_method_22_code 13 = .ok (.aload_n 0, 1) := by decide +kernel
theorem d13_14 : decode jdk_92_method_22_code 14 = .ok (.iload_n 1, 1) := by decide +kernel
theorem d13_15 : decode jdk_92_method_22_code 15 = .ok (.iload_n 2, 1) := by decide +kernel
theorem d13_16 : decode jdk_92_method_22_code 16 = .ok (.invokevirtual 175, 3) := by decide +kernel
theorem d13_19 : decode jdk_92_method_22_code 19 = .ok (.return_, 1) := by decide +kernel
theorem d14_0 : decode jdk_92_method_24_code 0 = .ok (.iload_n 1, 1) := by decide +kernel
theorem d14_1 : decode jdk_92_method_24_code 1 = .ok (.iload_n 2, 1) := by decide +kernel
theorem d14_2 : decode jdk_92_method_24_code 2 = .ok (.invokestatic 161, 3) := by decide +kernel
theorem d14_5 : decode jdk_92_method_24_code 5 = .ok (.iload_n 1, 1) := by decide +kernel
theorem d14_6 : decode jdk_92_method_24_code 6 = .ok (.iload_n 2, 1) := by decide +kernel
theorem d14_7 : decode jdk_92_method_24_code 7 = .ok (.if_icmp .ne 4, 3) := by decide +kernel
theorem d14_11 : decode jdk_92_method_24_code 11 = .ok (.iload_n 1, 1) := by decide +kernel
theorem d14_12 : decode jdk_92_method_24_code 12 = .ok (.invokestatic 52, 3) := by decide +kernel
theorem d14_15 : decode jdk_92_method_24_code 15 = .ok (.istore_n 3, 1) := by decide +kernel
theorem d14_16 : decode jdk_92_method_24_code 16 = .ok (.iload_n 3, 1) := by decide +kernel
theorem d14_17 : decode jdk_92_method_24_code 17 = .ok (.aload_n 0, 1) := by decide +kernel
theorem d14_18 : decode jdk_92_method_24_code 18 = .ok (.getfield 7, 3) := by decide +kernel
theorem d14_21 : decode jdk_92_method_24_code 21 = .ok (.if_icmp .lt 4, 3) := by decide +kernel
theorem d14_24 : decode jdk_92_method_24_code 24 = .ok (.return_, 1) := by decide +kernel
theorem d15_0 : decode jdk_92_method_16_code 0 = .ok (.iload_n 0, 1) := by decide +kernel
theorem d15_1 : decode jdk_92_method_16_code 1 = .ok (.ifCond .ge 30, 3) := by decide +kernel
theorem d15_31 : decode jdk_92_method_16_code 31 = .ok (.iload_n 1, 1) := by decide +kernel
theorem d15_32 : decode jdk_92_method_16_code 32 = .ok (.ifCond .ge 30, 3) := by decide +kernel
theorem d15_62 : decode jdk_92_method_16_code 62 = .ok (.iload_n 0, 1) := by decide +kernel
theorem d15_63 : decode jdk_92_method_16_code 63 = .ok (.iload_n 1, 1) := by decide +kernel
theorem d15_64 : decode jdk_92_method_16_code 64 = .ok (.if_icmp .le 39, 3) := by decide +kernel
theorem d15_103 : decode jdk_92_method_16_code 103 = .ok (.return_, 1) := by decide +kernel
theorem d16_0 : decode method_2_code 0 = .ok (.aload_n 0, 1) := by decide +kernel
theorem d16_1 : decode method_2_code 1 = .ok (.invokevirtual 7, 3) := by decide +kernel
theorem d16_4 : decode method_2_code 4 = .ok (.iload_n 1, 1) := by decide +kernel
theorem d16_5 : decode method_2_code 5 = .ok (.if_icmp .ne 24, 3) := by decide +kernel
theorem d16_8 : decode method_2_code 8 = .ok (.aload_n 0, 1) := by decide +kernel
theorem d16_9 : decode method_2_code 9 = .ok (.invokevirtual 13, 3) := by decide +kernel
theorem d16_12 : decode method_2_code 12 = .ok (.iload_n 1, 1) := by decide +kernel
theorem d16_13 : decode method_2_code 13 = .ok (.if_icmp .ne 16, 3) := by decide +kernel
theorem d16_16 : decode method_2_code 16 = .ok (.aload_n 0, 1) := by decide +kernel
theorem d16_17 : decode method_2_code 17 = .ok (.iload_n 2, 1) := by decide +kernel
theorem d16_18 : decode method_2_code 18 = .ok (.invokevirtual 16, 3) := by decide +kernel
theorem d16_21 : decode method_2_code 21 = .ok (.iload_n 3, 1) := by decide +kernel
theorem d16_22 : decode method_2_code 22 = .ok (.if_icmp .ne 7, 3) := by decide +kernel
theorem d16_25 : decode method_2_code 25 = .ok (.iconst 1, 1) := by decide +kernel
theorem d16_26 : decode method_2_code 26 = .ok (.goto 4, 3) := by decide +kernel
theorem d16_30 : decode method_2_code 30 = .ok (.ireturn, 1) := by decide +kernel
theorem d17_0 : decode jdk_92_method_35_code 0 = .ok (.iconst 0, 1) := by decide +kernel
theorem d17_1 : decode jdk_92_method_35_code 1 = .ok (.istore_n 1, 1) := by decide +kernel
theorem d17_2 : decode jdk_92_method_35_code 2 = .ok (.iconst 0, 1) := by decide +kernel
theorem d17_3 : decode jdk_92_method_35_code 3 = .ok (.istore_n 2, 1) := by decide +kernel
theorem d17_4 : decode jdk_92_method_35_code 4 = .ok (.iload_n 2, 1) := by decide +kernel
theorem d17_5 : decode jdk_92_method_35_code 5 = .ok (.aload_n 0, 1) := by decide +kernel
theorem d17_6 : decode jdk_92_method_35_code 6 = .ok (.getfield 7, 3) := by decide +kernel
theorem d17_9 : decode jdk_92_method_35_code 9 = .ok (.if_icmp .ge 21, 3) := by decide +kernel
theorem d17_12 : decode jdk_92_method_35_code 12 = .ok (.iload_n 1, 1) := by decide +kernel
theorem d17_13 : decode jdk_92_method_35_code 13 = .ok (.aload_n 0, 1) := by decide +kernel
theorem d17_14 : decode jdk_92_method_35_code 14 = .ok (.getfield 11, 3) := by decide +kernel
theorem d17_17 : decode jdk_92_method_35_code 17 = .ok (.iload_n 2, 1) := by decide +kernel
theorem d17_18 : decode jdk_92_method_35_code 18 = .ok (.laload, 1) := by decide +kernel
theorem d17_19 : decode jdk_92_method_35_code 19 = .ok (.invokestatic 196, 3) := by decide +kernel
theorem d17_22 : decode jdk_92_method_35_code 22 = .ok (.iadd, 1) := by decide +kernel
theorem d17_23 : decode jdk_92_method_35_code 23 = .ok (.istore_n 1, 1) := by decide +kernel
theorem d17_24 : decode jdk_92_method_35_code 24 = .ok (.iinc 2 1, 3) := by decide +kernel
theorem d17_27 : decode jdk_92_method_35_code 27 = .ok (.goto (-23), 3) := by decide +kernel
theorem d17_30 : decode jdk_92_method_35_code 30 = .ok (.iload_n 1, 1) := by decide +kernel
theorem d17_31 : decode jdk_92_method_35_code 31 = .ok (.ireturn, 1) := by decide +kernel
theorem d18_0 : decode jdk_92_method_32_code 0 = .ok (.aload_n 0, 1) := by decide +kernel
theorem d18_1 : decode jdk_92_method_32_code 1 = .ok (.getfield 7, 3) := by decide +kernel
theorem d18_4 : decode jdk_92_method_32_code 4 = .ok (.ifCond .ne 5, 3) := by decide +kernel
theorem d18_7 : decode jdk_92_method_32_code 7 = .ok (.iconst 0, 1) := by decide +kernel
theorem d18_8 : decode jdk_92_method_32_code 8 = .ok (.ireturn, 1) := by decide +kernel
theorem d18_9 : decode jdk_92_method_32_code 9 = .ok (.bipush 64, 2) := by decide +kernel
theorem d18_11 : decode jdk_92_method_32_code 11 = .ok (.aload_n 0, 1) := by decide +kernel
theorem d18_12 : decode jdk_92_method_32_code 12 = .ok (.getfield 7, 3) := by decide +kernel
theorem d18_15 : decode jdk_92_method_32_code 15 = .ok (.iconst 1, 1) := by decide +kernel
theorem d18_16 : decode jdk_92_method_32_code 16 = .ok (.isub, 1) := by decide +kernel
theorem d18_17 : decode jdk_92_method_32_code 17 = .ok (.imul, 1) := by decide +kernel
theorem d18_18 : decode jdk_92_method_32_code 18 = .ok (.bipush 64, 2) := by decide +kernel
theorem d18_20 : decode jdk_92_method_32_code 20 = .ok (.aload_n 0, 1) := by decide +kernel
theorem d18_21 : decode jdk_92_method_32_code 21 = .ok (.getfield 11, 3) := by decide +kernel
theorem d18_24 : decode jdk_92_method_32_code 24 = .ok (.aload_n 0, 1) := by decide +kernel
theorem d18_25 : decode jdk_92_method_32_code 25 = .ok (.getfield 7, 3) := by decide +kernel
theorem d18_28 : decode jdk_92_method_32_code 28 = .ok (.iconst 1, 1) := by decide +kernel
theorem d18_29 : decode jdk_92_method_32_code 29 = .ok (.isub, 1) := by decide +kernel
theorem d18_30 : decode jdk_92_method_32_code 30 = .ok (.laload, 1) := by decide +kernel
theorem d18_31 : decode jdk_92_method_32_code 31 = .ok (.invokestatic 190, 3) := by decide +kernel
theorem d18_34 : decode jdk_92_method_32_code 34 = .ok (.isub, 1) := by decide +kernel
theorem d18_35 : decode jdk_92_method_32_code 35 = .ok (.iadd, 1) := by decide +kernel
theorem d18_36 : decode jdk_92_method_32_code 36 = .ok (.ireturn, 1) := by decide +kernel
theorem d19_0 : decode jdk_92_method_26_code 0 = .ok (.iload_n 1, 1) := by decide +kernel
theorem d19_1 : decode jdk_92_method_26_code 1 = .ok (.ifCond .ge 30, 3) := by decide +kernel
theorem d19_31 : decode jdk_92_method_26_code 31 = .ok (.aload_n 0, 1) := by decide +kernel
theorem d19_32 : decode jdk_92_method_26_code 32 = .ok (.invokevirtual 56, 3) := by decide +kernel
theorem d19_35 : decode jdk_92_method_26_code 35 = .ok (.iload_n 1, 1) := by decide +kernel
theorem d19_36 : decode jdk_92_method_26_code 36 = .ok (.invokestatic 52, 3) := by decide +kernel
theorem d19_39 : decode jdk_92_method_26_code 39 = .ok (.istore_n 2, 1) := by decide +kernel
theorem d19_40 : decode jdk_92_method_26_code 40 = .ok (.iload_n 2, 1) := by decide +kernel
theorem d19_41 : decode jdk_92_method_26_code 41 = .ok (.aload_n 0, 1) := by decide +kernel
theorem d19_42 : decode jdk_92_method_26_code 42 = .ok (.getfield 7, 3) := by decide +kernel
theorem d19_45 : decode jdk_92_method_26_code 45 = .ok (.if_icmp .ge 22, 3) := by decide +kernel
theorem d19_48 : decode jdk_92_method_26_code 48 = .ok (.aload_n 0, 1) := by decide +kernel
theorem d19_49 : decode jdk_92_method_26_code 49 = .ok (.getfield 11, 3) := by decide +kernel
theorem d19_52 : decode jdk_92_method_26_code 52 = .ok (.iload_n 2, 1) := by decide +kernel
theorem d19_53 : decode jdk_92_method_26_code 53 = .ok (.laload, 1) := by decide +kernel
theorem d19_54 : decode jdk_92_method_26_code 54 = .ok (.lconst 1, 1) := by decide +kernel
theorem d19_55 : decode jdk_92_method_26_code 55 = .ok (.iload_n 1, 1) := by decide +kernel
theorem d19_56 : decode jdk_92_method_26_code 56 = .ok (.lshl, 1) := by decide +kernel
theorem d19_57 : decode jdk_92_method_26_code 57 = .ok (.land, 1) := by decide +kernel
theorem d19_58 : decode jdk_92_method_26_code 58 = .ok (.lconst 0, 1) := by decide +kernel
theorem d19_59 : decode jdk_92_method_26_code 59 = .ok (.lcmp, 1) := by decide +kernel
theorem d19_60 : decode jdk_92_method_26_code 60 = .ok (.ifCond .eq 7, 3) := by decide +kernel
theorem d19_63 : decode jdk_92_method_26_code 63 = .ok (.iconst 1, 1) := by decide +kernel
theorem d19_64 : decode jdk_92_method_26_code 64 = .ok (.goto 4, 3) := by decide +kernel
theorem d19_67 : decode jdk_92_method_26_code 67 = .ok (.iconst 0, 1) := by decide +kernel
theorem d19_68 : decode jdk_92_method_26_code 68 = .ok (.ireturn, 1) := by decide +kernel
theorem d20_0 : decode jdk_92_method_18_code 0 = .ok (.iload_n 1, 1) := by decide +kernel
theorem d20_1 : decode jdk_92_method_18_code 1 = .ok (.iload_n 2, 1) := by decide +kernel
theorem d20_2 : decode jdk_92_method_18_code 2 = .ok (.invokestatic 161, 3) := by decide +kernel
theorem d20_5 : decode jdk_92_method_18_code 5 = .ok (.iload_n 1, 1) := by decide +kernel
theorem d20_6 : decode jdk_92_method_18_code 6 = .ok (.iload_n 2, 1) := by decide +kernel
theorem d20_7 : decode jdk_92_method_18_code 7 = .ok (.if_icmp .ne 4, 3) := by decide +kernel
theorem d20_11 : decode jdk_92_method_18_code 11 = .ok (.iload_n 1, 1) := by decide +kernel
theorem d20_12 : decode jdk_92_method_18_code 12 = .ok (.invokestatic 52, 3) := by decide +kernel
theorem d20_15 : decode jdk_92_method_18_code 15 = .ok (.istore_n 3, 1) := by decide +kernel
theorem d20_16 : decode jdk_92_method_18_code 16 = .ok (.iload_n 2, 1) := by decide +kernel
theorem d20_17 : decode jdk_92_method_18_code 17 = .ok (.iconst 1, 1) := by decide +kernel
theorem d20_18 : decode jdk_92_method_18_code 18 = .ok (.isub, 1) := by decide +kernel
theorem d20_19 : decode jdk_92_method_18_code 19 = .ok (.invokestatic 52, 3) := by decide +kernel
theorem d20_22 : decode jdk_92_method_18_code 22 = .ok (.istore 4, 2) := by decide +kernel
theorem d20_24 : decode jdk_92_method_18_code 24 = .ok (.aload_n 0, 1) := by decide +kernel
theorem d20_25 : decode jdk_92_method_18_code 25 = .ok (.iload 4, 2) := by decide +kernel
theorem d20_27 : decode jdk_92_method_18_code 27 = .ok (.invokevirtual 155, 3) := by decide +kernel
theorem d20_30 : decode jdk_92_method_18_code 30 = .ok (.ldc2_w 165, 3) := by decide +kernel
theorem d20_33 : decode jdk_92_method_18_code 33 = .ok (.iload_n 1, 1) := by decide +kernel
theorem d20_34 : decode jdk_92_method_18_code 34 = .ok (.lshl, 1) := by decide +kernel
theorem d20_35 : decode jdk_92_method_18_code 35 = .ok (.lstore 5, 2) := by decide +kernel
theorem d20_37 : decode jdk_92_method_18_code 37 = .ok (.ldc2_w 165, 3) := by decide +kernel
theorem d20_40 : decode jdk_92_method_18_code 40 = .ok (.iload_n 2, 1) := by decide +kernel
theorem d20_41 : decode jdk_92_method_18_code 41 = .ok (.ineg, 1) := by decide +kernel
theorem d20_42 : decode jdk_92_method_18_code 42 = .ok (.lushr, 1) := by decide +kernel
theorem d20_43 : decode jdk_92_method_18_code 43 = .ok (.lstore 7, 2) := by decide +kernel
theorem d20_45 : decode jdk_92_method_18_code 45 = .ok (.iload_n 3, 1) := by decide +kernel
theorem d20_46 : decode jdk_92_method_18_code 46 = .ok (.iload 4, 2) := by decide +kernel
theorem d20_48 : decode jdk_92_method_18_code 48 = .ok (.if_icmp .ne 20, 3) := by decide +kernel
theorem d20_51 : decode jdk_92_method_18_code 51 = .ok (.aload_n 0, 1) := by decide +kernel
theorem d20_52 : decode jdk_92_method_18_code 52 = .ok (.getfield 11, 3) := by decide +kernel
theorem d20_55 : decode jdk_92_method_18_code 55 = .ok (.iload_n 3, 1) := by decide +kernel
theorem d20_56 : decode jdk_92_method_18_code 56 = .ok (.dup2, 1) := by decide +kernel
theorem d20_57 : decode jdk_92_method_18_code 57 = .ok (.laload, 1) := by decide +kernel
theorem d20_58 : decode jdk_92_method_18_code 58 = .ok (.lload 5, 2) := by decide +kernel
theorem d20_60 : decode jdk_92_method_18_code 60 = .ok (.lload 7, 2) := by decide +kernel
theorem d20_62 : decode jdk_92_method_18_code 62 = .ok (.land, 1) := by decide +kernel
theorem d20_63 : decode jdk_92_method_18_code 63 = .ok (.lxor, 1) := by decide +kernel
theorem d20_64 : decode jdk_92_method_18_code 64 = .ok (.lastore, 1) := by decide +kernel
theorem d20_65 : decode jdk_92_method_18_code 65 = .ok (.goto 57, 3) := by decide +kernel
theorem d20_68 : decode jdk_92_method_18_code 68 = .ok (.aload_n 0, 1) := by decide +kernel
theorem d20_69 : decode jdk_92_method_18_code 69 = .ok (.getfield 11, 3) := by decide +kernel
theorem d20_72 : decode jdk_92_method_18_code 72 = .ok (.iload_n 3, 1) := by decide +kernel
theorem d20_73 : decode jdk_92_method_18_code 73 = .ok (.dup2, 1) := by decide +kernel
theorem d20_74 : decode jdk_92_method_18_code 74 = .ok (.laload, 1) := by decide +kernel
theorem d20_75 : decode jdk_92_method_18_code 75 = .ok (.lload 5, 2) := by decide +kernel
theorem d20_77 : decode jdk_92_method_18_code 77 = .ok (.lxor, 1) := by decide +kernel
theorem d20_78 : decode jdk_92_method_18_code 78 = .ok (.lastore, 1) := by decide +kernel
theorem d20_79 : decode jdk_92_method_18_code 79 = .ok (.iload_n 3, 1) := by decide +kernel
theorem d20_80 : decode jdk_92_method_18_code 80 = .ok (.iconst 1, 1) := by decide +kernel
theorem d20_81 : decode jdk_92_method_18_code 81 = .ok (.iadd, 1) := by decide +kernel
theorem d20_82 : decode jdk_92_method_18_code 82 = .ok (.istore 9, 2) := by decide +kernel
theorem d20_84 : decode jdk_92_method_18_code 84 = .ok (.iload 9, 2) := by decide +kernel
theorem d20_86 : decode jdk_92_method_18_code 86 = .ok (.iload 4, 2) := by decide +kernel
theorem d20_88 : decode jdk_92_method_18_code 88 = .ok (.if_icmp .ge 22, 3) := by decide +kernel
theorem d20_91 : decode jdk_92_method_18_code 91 = .ok (.aload_n 0, 1) := by decide +kernel
theorem d20_92 : decode jdk_92_method_18_code 92 = .ok (.getfield 11, 3) := by decide +kernel
theorem d20_95 : decode jdk_92_method_18_code 95 = .ok (.iload 9, 2) := by decide +kernel
theorem d20_97 : decode jdk_92_method_18_code 97 = .ok (.dup2, 1) := by decide +kernel
theorem d20_98 : decode jdk_92_method_18_code 98 = .ok (.laload, 1) := by decide +kernel
theorem d20_99 : decode jdk_92_method_18_code 99 = .ok (.ldc2_w 165, 3) := by decide +kernel
theorem d20_102 : decode jdk_92_method_18_code 102 = .ok (.lxor, 1) := by decide +kernel
theorem d20_103 : decode jdk_92_method_18_code 103 = .ok (.lastore, 1) := by decide +kernel
theorem d20_104 : decode jdk_92_method_18_code 104 = .ok (.iinc 9 1, 3) := by decide +kernel
theorem d20_107 : decode jdk_92_method_18_code 107 = .ok (.goto (-23), 3) := by decide +kernel
theorem d20_110 : decode jdk_92_method_18_code 110 = .ok (.aload_n 0, 1) := by decide +kernel
theorem d20_111 : decode jdk_92_method_18_code 111 = .ok (.getfield 11, 3) := by decide +kernel
theorem d20_114 : decode jdk_92_method_18_code 114 = .ok (.iload 4, 2) := by decide +kernel
theorem d20_116 : decode jdk_92_method_18_code 116 = .ok (.dup2, 1) := by decide +kernel
theorem d20_117 : decode jdk_92_method_18_code 117 = .ok (.laload, 1) := by decide +kernel
theorem d20_118 : decode jdk_92_method_18_code 118 = .ok (.lload 7, 2) := by decide +kernel
theorem d20_120 : decode jdk_92_method_18_code 120 = .ok (.lxor, 1) := by decide +kernel
theorem d20_121 : decode jdk_92_method_18_code 121 = .ok (.lastore, 1) := by decide +kernel
theorem d20_122 : decode jdk_92_method_18_code 122 = .ok (.aload_n 0, 1) := by decide +kernel
theorem d20_123 : decode jdk_92_method_18_code 123 = .ok (.invokevirtual 158, 3) := by decide +kernel
theorem d20_126 : decode jdk_92_method_18_code 126 = .ok (.aload_n 0, 1) := by decide +kernel
theorem d20_127 : decode jdk_92_method_18_code 127 = .ok (.invokevirtual 56, 3) := by decide +kernel
theorem d20_130 : decode jdk_92_method_18_code 130 = .ok (.return_, 1) := by decide +kernel
theorem d21_0 : decode jdk_92_method_3_code 0 = .ok (.aload_n 0, 1) := by decide +kernel
theorem d21_1 : decode jdk_92_method_3_code 1 = .ok (.getfield 7, 3) := by decide +kernel
theorem d21_4 : decode jdk_92_method_3_code 4 = .ok (.iconst 1, 1) := by decide +kernel
theorem d21_5 : decode jdk_92_method_3_code 5 = .ok (.isub, 1) := by decide +kernel
theorem d21_6 : decode jdk_92_method_3_code 6 = .ok (.istore_n 1, 1) := by decide +kernel
theorem d21_7 : decode jdk_92_method_3_code 7 = .ok (.iload_n 1, 1) := by decide +kernel
theorem d21_8 : decode jdk_92_method_3_code 8 = .ok (.ifCond .lt 23, 3) := by decide +kernel
theorem d21_11 : decode jdk_92_method_3_code 11 = .ok (.aload_n 0, 1) := by decide +kernel
theorem d21_12 : decode jdk_92_method_3_code 12 = .ok (.getfield 11, 3) := by decide +kernel
theorem d21_15 : decode jdk_92_method_3_code 15 = .ok (.iload_n 1, 1) := by decide +kernel
theorem d21_16 : decode jdk_92_method_3_code 16 = .ok (.laload, 1) := by decide +kernel
theorem d21_17 : decode jdk_92_method_3_code 17 = .ok (.lconst 0, 1) := by decide +kernel
theorem d21_18 : decode jdk_92_method_3_code 18 = .ok (.lcmp, 1) := by decide +kernel
theorem d21_19 : decode jdk_92_method_3_code 19 = .ok (.ifCond .eq 6, 3) := by decide +kernel
theorem d21_22 : decode jdk_92_method_3_code 22 = .ok (.goto 9, 3) := by decide +kernel
theorem d21_25 : decode jdk_92_method_3_code 25 = .ok (.iinc 1 (-1), 3) := by decide +kernel
theorem d21_28 : decode jdk_92_method_3_code 28 = .ok (.goto (-21), 3) := by decide +kernel
theorem d21_31 : decode jdk_92_method_3_code 31 = .ok (.aload_n 0, 1) := by decide +kernel
theorem d21_32 : decode jdk_92_method_3_code 32 = .ok (.iload_n 1, 1) := by decide +kernel
theorem d21_33 : decode jdk_92_method_3_code 33 = .ok (.iconst 1, 1) := by decide +kernel
theorem d21_34 : decode jdk_92_method_3_code 34 = .ok (.iadd, 1) := by decide +kernel
theorem d21_35 : decode jdk_92_method_3_code 35 = .ok (.putfield 7, 3) := by decide +kernel
theorem d21_38 : decode jdk_92_method_3_code 38 = .ok (.return_, 1) := by decide +kernel
theorem d22_0 : decode jdk_92_method_21_code 0 = .ok (.iload_n 1, 1) := by decide +kernel
theorem d22_1 : decode jdk_92_method_21_code 1 = .ok (.iload_n 2, 1) := by decide +kernel
theorem d22_2 : decode jdk_92_method_21_code 2 = .ok (.invokestatic 161, 3) := by decide +kernel
theorem d22_5 : decode jdk_92_method_21_code 5 = .ok (.iload_n 1, 1) := by decide +kernel
theorem d22_6 : decode jdk_92_method_21_code 6 = .ok (.iload_n 2, 1) := by decide +kernel
theorem d22_7 : decode jdk_92_method_21_code 7 = .ok (.if_icmp .ne 4, 3) := by decide +kernel
theorem d22_11 : decode jdk_92_method_21_code 11 = .ok (.iload_n 1, 1) := by decide +kernel
theorem d22_12 : decode jdk_92_method_21_code 12 = .ok (.invokestatic 52, 3) := by decide +kernel
theorem d22_15 : decode jdk_92_method_21_code 15 = .ok (.istore_n 3, 1) := by decide +kernel
theorem d22_16 : decode jdk_92_method_21_code 16 = .ok (.iload_n 2, 1) := by decide +kernel
theorem d22_17 : decode jdk_92_method_21_code 17 = .ok (.iconst 1, 1) := by decide +kernel
theorem d22_18 : decode jdk_92_method_21_code 18 = .ok (.isub, 1) := by decide +kernel
theorem d22_19 : decode jdk_92_method_21_code 19 = .ok (.invokestatic 52, 3) := by decide +kernel
theorem d22_22 : decode jdk_92_method_21_code 22 = .ok (.istore 4, 2) := by decide +kernel
theorem d22_24 : decode jdk_92_method_21_code 24 = .ok (.aload_n 0, 1) := by decide +kernel
theorem d22_25 : decode jdk_92_method_21_code 25 = .ok (.iload 4, 2) := by decide +kernel
theorem d22_27 : decode jdk_92_method_21_code 27 = .ok (.invokevirtual 155, 3) := by decide +kernel
theorem d22_30 : decode jdk_92_method_21_code 30 = .ok (.ldc2_w 165, 3) := by decide +kernel
theorem d22_33 : decode jdk_92_method_21_code 33 = .ok (.iload_n 1, 1) := by decide +kernel
theorem d22_34 : decode jdk_92_method_21_code 34 = .ok (.lshl, 1) := by decide +kernel
theorem d22_35 : decode jdk_92_method_21_code 35 = .ok (.lstore 5, 2) := by decide +kernel
theorem d22_37 : decode jdk_92_method_21_code 37 = .ok (.ldc2_w 165, 3) := by decide +kernel
theorem d22_40 : decode jdk_92_method_21_code 40 = .ok (.iload_n 2, 1) := by decide +kernel
theorem d22_41 : decode jdk_92_method_21_code 41 = .ok (.ineg, 1) := by decide +kernel
theorem d22_42 : decode jdk_92_method_21_code 42 = .ok (.lushr, 1) := by decide +kernel
theorem d22_43 : decode jdk_92_method_21_code 43 = .ok (.lstore 7, 2) := by decide +kernel
theorem d22_45 : decode jdk_92_method_21_code 45 = .ok (.iload_n 3, 1) := by decide +kernel
theorem d22_46 : decode jdk_92_method_21_code 46 = .ok (.iload 4, 2) := by decide +kernel
theorem d22_48 : decode jdk_92_method_21_code 48 = .ok (.if_icmp .ne 20, 3) := by decide +kernel
theorem d22_51 : decode jdk_92_method_21_code 51 = .ok (.aload_n 0, 1) := by decide +kernel
theorem d22_52 : decode jdk_92_method_21_code 52 = .ok (.getfield 11, 3) := by decide +kernel
theorem d22_55 : decode jdk_92_method_21_code 55 = .ok (.iload_n 3, 1) := by decide +kernel
theorem d22_56 : decode jdk_92_method_21_code 56 = .ok (.dup2, 1) := by decide +kernel
theorem d22_57 : decode jdk_92_method_21_code 57 = .ok (.laload, 1) := by decide +kernel
theorem d22_58 : decode jdk_92_method_21_code 58 = .ok (.lload 5, 2) := by decide +kernel
theorem d22_60 : decode jdk_92_method_21_code 60 = .ok (.lload 7, 2) := by decide +kernel
theorem d22_62 : decode jdk_92_method_21_code 62 = .ok (.land, 1) := by decide +kernel
theorem d22_63 : decode jdk_92_method_21_code 63 = .ok (.lor, 1) := by decide +kernel
theorem d22_64 : decode jdk_92_method_21_code 64 = .ok (.lastore, 1) := by decide +kernel
theorem d22_65 : decode jdk_92_method_21_code 65 = .ok (.goto 54, 3) := by decide +kernel
theorem d22_68 : decode jdk_92_method_21_code 68 = .ok (.aload_n 0, 1) := by decide +kernel
theorem d22_69 : decode jdk_92_method_21_code 69 = .ok (.getfield 11, 3) := by decide +kernel
theorem d22_72 : decode jdk_92_method_21_code 72 = .ok (.iload_n 3, 1) := by decide +kernel
theorem d22_73 : decode jdk_92_method_21_code 73 = .ok (.dup2, 1) := by decide +kernel
theorem d22_74 : decode jdk_92_method_21_code 74 = .ok (.laload, 1) := by decide +kernel
theorem d22_75 : decode jdk_92_method_21_code 75 = .ok (.lload 5, 2) := by decide +kernel
theorem d22_77 : decode jdk_92_method_21_code 77 = .ok (.lor, 1) := by decide +kernel
theorem d22_78 : decode jdk_92_method_21_code 78 = .ok (.lastore, 1) := by decide +kernel
theorem d22_79 : decode jdk_92_method_21_code 79 = .ok (.iload_n 3, 1) := by decide +kernel
theorem d22_80 : decode jdk_92_method_21_code 80 = .ok (.iconst 1, 1) := by decide +kernel
theorem d22_81 : decode jdk_92_method_21_code 81 = .ok (.iadd, 1) := by decide +kernel
theorem d22_82 : decode jdk_92_method_21_code 82 = .ok (.istore 9, 2) := by decide +kernel
theorem d22_84 : decode jdk_92_method_21_code 84 = .ok (.iload 9, 2) := by decide +kernel
theorem d22_86 : decode jdk_92_method_21_code 86 = .ok (.iload 4, 2) := by decide +kernel
theorem d22_88 : decode jdk_92_method_21_code 88 = .ok (.if_icmp .ge 19, 3) := by decide +kernel
theorem d22_107 : decode jdk_92_method_21_code 107 = .ok (.aload_n 0, 1) := by decide +kernel
theorem d22_108 : decode jdk_92_method_21_code 108 = .ok (.getfield 11, 3) := by decide +kernel
theorem d22_111 : decode jdk_92_method_21_code 111 = .ok (.iload 4, 2) := by decide +kernel
theorem d22_113 : decode jdk_92_method_21_code 113 = .ok (.dup2, 1) := by decide +kernel
theorem d22_114 : decode jdk_92_method_21_code 114 = .ok (.laload, 1) := by decide +kernel
theorem d22_115 : decode jdk_92_method_21_code 115 = .ok (.lload 7, 2) := by decide +kernel
theorem d22_117 : decode jdk_92_method_21_code 117 = .ok (.lor, 1) := by decide +kernel
theorem d22_118 : decode jdk_92_method_21_code 118 = .ok (.lastore, 1) := by decide +kernel
theorem d22_119 : decode jdk_92_method_21_code 119 = .ok (.aload_n 0, 1) := by decide +kernel
theorem d22_120 : decode jdk_92_method_21_code 120 = .ok (.invokevirtual 56, 3) := by decide +kernel
theorem d22_123 : decode jdk_92_method_21_code 123 = .ok (.return_, 1) := by decide +kernel
theorem d23_0 : decode jdk_35_method_50_code 0 = .ok (.lload_n 0, 1) := by decide +kernel
theorem d23_1 : decode jdk_35_method_50_code 1 = .ok (.lload_n 0, 1) := by decide +kernel
theorem d23_2 : decode jdk_35_method_50_code 2 = .ok (.iconst 1, 1) := by decide +kernel
theorem d23_3 : decode jdk_35_method_50_code 3 = .ok (.lushr, 1) := by decide +kernel
theorem d23_4 : decode jdk_35_method_50_code 4 = .ok (.ldc2_w 314, 3) := by decide +kernel
theorem d23_7 : decode jdk_35_method_50_code 7 = .ok (.land, 1) := by decide +kernel
theorem d23_8 : decode jdk_35_method_50_code 8 = .ok (.lsub, 1) := by decide +kernel
theorem d23_9 : decode jdk_35_method_50_code 9 = .ok (.lstore_n 0, 1) := by decide +kernel
theorem d23_10 : decode jdk_35_method_50_code 10 = .ok (.lload_n 0, 1) := by decide +kernel
theorem d23_11 : decode jdk_35_method_50_code 11 = .ok (.ldc2_w 316, 3) := by decide +kernel
theorem d23_14 : decode jdk_35_method_50_code 14 = .ok (.land, 1) := by decide +kernel
theorem d23_15 : decode jdk_35_method_50_code 15 = .ok (.lload_n 0, 1) := by decide +kernel
theorem d23_16 : decode jdk_35_method_50_code 16 = .ok (.iconst 2, 1) := by decide +kernel
theorem d23_17 : decode jdk_35_method_50_code 17 = .ok (.lushr, 1) := by decide +kernel
theorem d23_18 : decode jdk_35_method_50_code 18 = .ok (.ldc2_w 316, 3) := by decide +kernel
theorem d23_21 : decode jdk_35_method_50_code 21 = .ok (.land, 1) := by decide +kernel
theorem d23_22 : decode jdk_35_method_50_code 22 = .ok (.ladd, 1) := by decide +kernel
theorem d23_23 : decode jdk_35_method_50_code 23 = .ok (.lstore_n 0, 1) := by decide +kernel
theorem d23_24 : decode jdk_35_method_50_code 24 = .ok (.lload_n 0, 1) := by decide +kernel
theorem d23_25 : decode jdk_35_method_50_code 25 = .ok (.lload_n 0, 1) := by decide +kernel
theorem d23_26 : decode jdk_35_method_50_code 26 = .ok (.iconst 4, 1) := by decide +kernel
theorem d23_27 : decode jdk_35_method_50_code 27 = .ok (.lushr, 1) := by decide +kernel
theorem d23_28 : decode jdk_35_method_50_code 28 = .ok (.ladd, 1) := by decide +kernel
theorem d23_29 : decode jdk_35_method_50_code 29 = .ok (.ldc2_w 318, 3) := by decide +kernel
theorem d23_32 : decode jdk_35_method_50_code 32 = .ok (.land, 1) := by decide +kernel
theorem d23_33 : decode jdk_35_method_50_code 33 = .ok (.lstore_n 0, 1) := by decide +kernel
theorem d23_34 : decode jdk_35_method_50_code 34 = .ok (.lload_n 0, 1) := by decide +kernel
theorem d23_35 : decode jdk_35_method_50_code 35 = .ok (.lload_n 0, 1) := by decide +kernel
theorem d23_36 : decode jdk_35_method_50_code 36 = .ok (.bipush 8, 2) := by decide +kernel
theorem d23_38 : decode jdk_35_method_50_code 38 = .ok (.lushr, 1) := by decide +kernel
theorem d23_39 : decode jdk_35_method_50_code 39 = .ok (.ladd, 1) := by decide +kernel
theorem d23_40 : decode jdk_35_method_50_code 40 = .ok (.lstore_n 0, 1) := by decide +kernel
theorem d23_41 : decode jdk_35_method_50_code 41 = .ok (.lload_n 0, 1) := by decide +kernel
theorem d23_42 : decode jdk_35_method_50_code 42 = .ok (.lload_n 0, 1) := by decide +kernel
theorem d23_43 : decode jdk_35_method_50_code 43 = .ok (.bipush 16, 2) := by decide +kernel
theorem d23_45 : decode jdk_35_method_50_code 45 = .ok (.lushr, 1) := by decide +kernel
theorem d23_46 : decode jdk_35_method_50_code 46 = .ok (.ladd, 1) := by decide +kernel
theorem d23_47 : decode jdk_35_method_50_code 47 = .ok (.lstore_n 0, 1) := by decide +kernel
theorem d23_48 : decode jdk_35_method_50_code 48 = .ok (.lload_n 0, 1) := by decide +kernel
theorem d23_49 : decode jdk_35_method_50_code 49 = .ok (.lload_n 0, 1) := by decide +kernel
theorem d23_50 : decode jdk_35_method_50_code 50 = .ok (.bipush 32, 2) := by decide +kernel
theorem d23_52 : decode jdk_35_method_50_code 52 = .ok (.lushr, 1) := by decide +kernel
theorem d23_53 : decode jdk_35_method_50_code 53 = .ok (.ladd, 1) := by decide +kernel
theorem d23_54 : decode jdk_35_method_50_code 54 = .ok (.lstore_n 0, 1) := by decide +kernel
theorem d23_55 : decode jdk_35_method_50_code 55 = .ok (.lload_n 0, 1) := by decide +kernel
theorem d23_56 : decode jdk_35_method_50_code 56 = .ok (.l2i, 1) := by decide +kernel
theorem d23_57 : decode jdk_35_method_50_code 57 = .ok (.bipush 127, 2) := by decide +kernel
theorem d23_59 : decode jdk_35_method_50_code 59 = .ok (.iand, 1) := by decide +kernel
theorem d23_60 : decode jdk_35_method_50_code 60 = .ok (.ireturn, 1) := by decide +kernel
theorem d24_0 : decode jdk_35_method_48_code 0 = .ok (.lload_n 0, 1) := by decide +kernel
theorem d24_1 : decode jdk_35_method_48_code 1 = .ok (.bipush 32, 2) := by decide +kernel
theorem d24_3 : decode jdk_35_method_48_code 3 = .ok (.lushr, 1) := by decide +kernel
theorem d24_4 : decode jdk_35_method_48_code 4 = .ok (.l2i, 1) := by decide +kernel
theorem d24_5 : decode jdk_35_method_48_code 5 = .ok (.istore_n 2, 1) := by decide +kernel
theorem d24_6 : decode jdk_35_method_48_code 6 = .ok (.iload_n 2, 1) := by decide +kernel
theorem d24_7 : decode jdk_35_method_48_code 7 = .ok (.ifCond .ne 14, 3) := by decide +kernel
theorem d24_10 : decode jdk_35_method_48_code 10 = .ok (.bipush 32, 2) := by decide +kernel
theorem d24_12 : decode jdk_35_method_48_code 12 = .ok (.lload_n 0, 1) := by decide +kernel
theorem d24_13 : decode jdk_35_method_48_code 13 = .ok (.l2i, 1) := by decide +kernel
theorem d24_14 : decode jdk_35_method_48_code 14 = .ok (.invokestatic 308, 3) := by decide +kernel
theorem d24_17 : decode jdk_35_method_48_code 17 = .ok (.iadd, 1) := by decide +kernel
theorem d24_18 : decode jdk_35_method_48_code 18 = .ok (.goto 7, 3) := by decide +kernel
theorem d24_21 : decode jdk_35_method_48_code 21 = .ok (.iload_n 2, 1) := by decide +kernel
theorem d24_22 : decode jdk_35_method_48_code 22 = .ok (.invokestatic 308, 3) := by decide +kernel
theorem d24_25 : decode jdk_35_method_48_code 25 = .ok (.ireturn, 1) := by decide +kernel
theorem d25_0 : decode jdk_33_method_47_code 0 = .ok (.iload_n 0, 1) := by decide +kernel
theorem d25_1 : decode jdk_33_method_47_code 1 = .ok (.ifCond .gt 14, 3) := by decide +kernel
theorem d25_4 : decode jdk_33_method_47_code 4 = .ok (.iload_n 0, 1) := by decide +kernel
theorem d25_5 : decode jdk_33_method_47_code 5 = .ok (.ifCond .ne 8, 3) := by decide +kernel
theorem d25_8 : decode jdk_33_method_47_code 8 = .ok (.bipush 32, 2) := by decide +kernel
theorem d25_10 : decode jdk_33_method_47_code 10 = .ok (.goto 4, 3) := by decide +kernel
theorem d25_13 : decode jdk_33_method_47_code 13 = .ok (.iconst 0, 1) := by decide +kernel
theorem d25_14 : decode jdk_33_method_47_code 14 = .ok (.ireturn, 1) := by decide +kernel
theorem d25_15 : decode jdk_33_method_47_code 15 = .ok (.bipush 31, 2) := by decide +kernel
theorem d25_17 : decode jdk_33_method_47_code 17 = .ok (.istore_n 1, 1) := by decide +kernel
theorem d25_18 : decode jdk_33_method_47_code 18 = .ok (.iload_n 0, 1) := by decide +kernel
theorem d25_19 : decode jdk_33_method_47_code 19 = .ok (.ldc_w 264, 3) := by decide +kernel
theorem d25_22 : decode jdk_33_method_47_code 22 = .ok (.if_icmp .lt 11, 3) := by decide +kernel
theorem d25_25 : decode jdk_33_method_47_code 25 = .ok (.iinc 1 (-16), 3) := by decide +kernel
theorem d25_28 : decode jdk_33_method_47_code 28 = .ok (.iload_n 0, 1) := by decide +kernel
theorem d25_29 : decode jdk_33_method_47_code 29 = .ok (.bipush 16, 2) := by decide +kernel
theorem d25_31 : decode jdk_33_method_47_code 31 = .ok (.iushr, 1) := by decide +kernel
theorem d25_32 : decode jdk_33_method_47_code 32 = .ok (.istore_n 0, 1) := by decide +kernel
theorem d25_33 : decode jdk_33_method_47_code 33 = .ok (.iload_n 0, 1) := by decide +kernel
theorem d25_34 : decode jdk_33_method_47_code 34 = .ok (.sipush 256, 3) := by decide +kernel
theorem d25_37 : decode jdk_33_method_47_code 37 = .ok (.if_icmp .lt 11, 3) := by decide +kernel
theorem d25_40 : decode jdk_33_method_47_code 40 = .ok (.iinc 1 (-8), 3) := by decide +kernel
theorem d25_43 : decode jdk_33_method_47_code 43 = .ok (.iload_n 0, 1) := by decide +kernel
theorem d25_44 : decode jdk_33_method_47_code 44 = .ok (.bipush 8, 2) := by decide +kernel
theorem d25_46 : decode jdk_33_method_47_code 46 = .ok (.iushr, 1) := by decide +kernel
theorem d25_47 : decode jdk_33_method_47_code 47 = .ok (.istore_n 0, 1) := by decide +kernel
theorem d25_48 : decode jdk_33_method_47_code 48 = .ok (.iload_n 0, 1) := by decide +kernel
theorem d25_49 : decode jdk_33_method_47_code 49 = .ok (.bipush 16, 2) := by decide +kernel
theorem d25_51 : decode jdk_33_method_47_code 51 = .ok (.if_icmp .lt 10, 3) := by decide +kernel
theorem d25_54 : decode jdk_33_method_47_code 54 = .ok (.iinc 1 (-4), 3) := by decide +kernel
theorem d25_57 : decode jdk_33_method_47_code 57 = .ok (.iload_n 0, 1) := by decide +kernel
theorem d25_58 : decode jdk_33_method_47_code 58 = .ok (.iconst 4, 1) := by decide +kernel
theorem d25_59 : decode jdk_33_method_47_code 59 = .ok (.iushr, 1) := by decide +kernel
theorem d25_60 : decode jdk_33_method_47_code 60 = .ok (.istore_n 0, 1) := by decide +kernel
theorem d25_61 : decode jdk_33_method_47_code 61 = .ok (.iload_n 0, 1) := by decide +kernel
theorem d25_62 : decode jdk_33_method_47_code 62 = .ok (.iconst 4, 1) := by decide +kernel
theorem d25_63 : decode jdk_33_method_47_code 63 = .ok (.if_icmp .lt 10, 3) := by decide +kernel
theorem d25_66 : decode jdk_33_method_47_code 66 = .ok (.iinc 1 (-2), 3) := by decide +kernel
theorem d25_69 : decode jdk_33_method_47_code 69 = .ok (.iload_n 0, 1) := by decide +kernel
theorem d25_70 : decode jdk_33_method_47_code 70 = .ok (.iconst 2, 1) := by decide +kernel
theorem d25_71 : decode jdk_33_method_47_code 71 = .ok (.iushr, 1) := by decide +kernel
theorem d25_72 : decode jdk_33_method_47_code 72 = .ok (.istore_n 0, 1) := by decide +kernel
theorem d25_73 : decode jdk_33_method_47_code 73 = .ok (.iload_n 1, 1) := by decide +kernel
theorem d25_74 : decode jdk_33_method_47_code 74 = .ok (.iload_n 0, 1) := by decide +kernel
theorem d25_75 : decode jdk_33_method_47_code 75 = .ok (.iconst 1, 1) := by decide +kernel
theorem d25_76 : decode jdk_33_method_47_code 76 = .ok (.iushr, 1) := by decide +kernel
theorem d25_77 : decode jdk_33_method_47_code 77 = .ok (.isub, 1) := by decide +kernel
theorem d25_78 : decode jdk_33_method_47_code 78 = .ok (.ireturn, 1) := by decide +kernel
theorem d26_0 : decode jdk_29_method_65_code 0 = .ok (.iload_n 0, 1) := by decide +kernel
theorem d26_1 : decode jdk_29_method_65_code 1 = .ok (.iload_n 1, 1) := by decide +kernel
theorem d26_2 : decode jdk_29_method_65_code 2 = .ok (.if_icmp .lt 7, 3) := by decide +kernel
theorem d26_5 : decode jdk_29_method_65_code 5 = .ok (.iload_n 0, 1) := by decide +kernel
theorem d26_6 : decode jdk_29_method_65_code 6 = .ok (.goto 4, 3) := by decide +kernel
theorem d26_9 : decode jdk_29_method_65_code 9 = .ok (.iload_n 1, 1) := by decide +kernel
theorem d26_10 : decode jdk_29_method_65_code 10 = .ok (.ireturn, 1) := by decide +kernel
theorem d27_0 : decode jdk_65_method_124_code 0 = .ok (.iload_n 1, 1) := by decide +kernel
theorem d27_1 : decode jdk_65_method_124_code 1 = .ok (.aload_n 0, 1) := by decide +kernel
theorem d27_2 : decode jdk_65_method_124_code 2 = .ok (.arraylength, 1) := by decide +kernel
theorem d27_3 : decode jdk_65_method_124_code 3 = .ok (.if_icmp .ne 11, 3) := by decide +kernel
theorem d27_14 : decode jdk_65_method_124_code 14 = .ok (.iload_n 1, 1) := by decide +kernel
theorem d27_15 : decode jdk_65_method_124_code 15 = .ok (.newarray .long, 2) := by decide +kernel
theorem d27_17 : decode jdk_65_method_124_code 17 = .ok (.astore_n 2, 1) := by decide +kernel
theorem d27_18 : decode jdk_65_method_124_code 18 = .ok (.aload_n 0, 1) := by decide +kernel
theorem d27_19 : decode jdk_65_method_124_code 19 = .ok (.iconst 0, 1) := by decide +kernel
theorem d27_20 : decode jdk_65_method_124_code 20 = .ok (.aload_n 2, 1) := by decide +kernel
theorem d27_21 : decode jdk_65_method_124_code 21 = .ok (.iconst 0, 1) := by decide +kernel
theorem d27_22 : decode jdk_65_method_124_code 22 = .ok (.aload_n 0, 1) := by decide +kernel
theorem d27_23 : decode jdk_65_method_124_code 23 = .ok (.arraylength, 1) := by decide +kernel
theorem d27_24 : decode jdk_65_method_124_code 24 = .ok (.iload_n 1, 1) := by decide +kernel
theorem d27_25 : decode jdk_65_method_124_code 25 = .ok (.invokestatic 304, 3) := by decide +kernel
theorem d27_28 : decode jdk_65_method_124_code 28 = .ok (.invokestatic 150, 3) := by decide +kernel
theorem d27_31 : decode jdk_65_method_124_code 31 = .ok (.aload_n 2, 1) := by decide +kernel
theorem d27_32 : decode jdk_65_method_124_code 32 = .ok (.areturn, 1) := by decide +kernel
theorem d28_0 : decode jdk_29_method_69_code 0 = .ok (.iload_n 0, 1) := by decide +kernel
theorem d28_1 : decode jdk_29_method_69_code 1 = .ok (.iload_n 1, 1) := by decide +kernel
theorem d28_2 : decode jdk_29_method_69_code 2 = .ok (.if_icmp .gt 7, 3) := by decide +kernel
theorem d28_5 : decode jdk_29_method_69_code 5 = .ok (.iload_n 0, 1) := by decide +kernel
theorem d28_6 : decode jdk_29_method_69_code 6 = .ok (.goto 4, 3) := by decide +kernel
theorem d28_9 : decode jdk_29_method_69_code 9 = .ok (.iload_n 1, 1) := by decide +kernel
theorem d28_10 : decode jdk_29_method_69_code 10 = .ok (.ireturn, 1) := by decide +kernel
theorem pd_0 : parseMethodDescriptor "(I)I" = some ⟨[.int], (some .int)⟩ := by decide +kernel
theorem pd_1 : parseMethodDescriptor "(I)V" = some ⟨[.int], none⟩ := by decide +kernel
theorem pd_2 : parseMethodDescriptor "()V" = some ⟨[], none⟩ := by decide +kernel
theorem pd_3 : parseMethodDescriptor "(II)V" = some ⟨[.int, .int], none⟩ := by decide +kernel
theorem pd_4 : parseMethodDescriptor "(IIZ)V" = some ⟨[.int, .int, .boolean], none⟩ := by decide +kernel
theorem pd_5 : parseMethodDescriptor "()I" = some ⟨[], (some .int)⟩ := by decide +kernel
theorem pd_6 : parseMethodDescriptor "(I)Z" = some ⟨[.int], (some .boolean)⟩ := by decide +kernel
theorem pd_7 : parseMethodDescriptor "(J)I" = some ⟨[.long], (some .int)⟩ := by decide +kernel
theorem pd_8 : parseMethodDescriptor "(II)I" = some ⟨[.int, .int], (some .int)⟩ := by decide +kernel
theorem pd_9 : parseMethodDescriptor "([JI)[J" = some ⟨[(.array .long), .int], (some (.array .long))⟩ := by decide +kernel
theorem pd_10 : parseMethodDescriptor "(ILjava/util/Map;)V" = some ⟨[.int, (.object "java/util/Map")], none⟩ := by decide +kernel
theorem pd_11 : parseMethodDescriptor "(Z)V" = some ⟨[.boolean], none⟩ := by decide +kernel
theorem pd_12 : parseMethodDescriptor "(Lcom/example/petrel/petrel/HoaLabel$Tables;)Ljava/util/BitSet;" = some ⟨[(.object "com/example/petrel/petrel/HoaLabel$Tables")], (some (.object "java/util/BitSet"))⟩ := by decide +kernel
theorem pd_13 : parseMethodDescriptor "(Ljava/util/BitSet;IIZ)Z" = some ⟨[(.object "java/util/BitSet"), .int, .int, .boolean], (some .boolean)⟩ := by decide +kernel
theorem pf_0 : plainFor (⟨"java/lang/Integer", "numberOfLeadingZeros", "(I)I"⟩ : MethodName) = true := by decide +kernel
theorem pf_1 : plainFor (⟨"java/lang/Long", "bitCount", "(J)I"⟩ : MethodName) = true := by decide +kernel
theorem pf_2 : plainFor (⟨"java/lang/Long", "numberOfLeadingZeros", "(J)I"⟩ : MethodName) = true := by decide +kernel
theorem pf_3 : plainFor (⟨"java/lang/Math", "min", "(II)I"⟩ : MethodName) = true := by decide +kernel
theorem pf_4 : plainFor (⟨"java/lang/Math", "max", "(II)I"⟩ : MethodName) = true := by decide +kernel
theorem pn_0 : plainName "java/util/BitSet" = true := by first | (simp [plainName, overriddenIn]; done) | decide +kernel
theorem pn_1 : plainName "java/lang/Record" = true := by first | (simp [plainName, overriddenIn]; done) | decide +kernel
theorem pn_2 : plainName "java/util/Arrays" = true := by first | (simp [plainName, overriddenIn]; done) | decide +kernel
theorem pn_3 : plainName "com/example/petrel/petrel/HoaLabel$Tables" = true := by first | (simp [plainName, overriddenIn]; done) | decide +kernel
theorem pn_4 : plainName "com/example/petrel/petrel/HoaLabel$Constant" = true := by first | (simp [plainName, overriddenIn]; done) | decide +kernel
theorem pn_5 : plainName "com/example/petrel/petrel/ConstantTablePinLaw" = true := by first | (simp [plainName, overriddenIn]; done) | decide +kernel
theorem toInt_lt {x y : Int32} : x < y ↔ x.toInt < y.toInt := Int32.lt_iff_toInt_lt
theorem not_ens {wd : Int32} {q m : Nat} (hq : wd.toInt = (q : Int)) (h : q < m) (hm : m ≤ 8000) : ¬ Int32.ofNat m < wd + (1 : Int32) := fun z => by
  have := toInt_lt.mp z
  have e := ofNat_toInt (n := m) (by omega)
  have h1 := c_iadd wd 1
  have h2 := rng32 (wd + (1 : Int32))
  have e1 : (1 : Int32).toInt = 1 := rfl
  omega
theorem not_neg {x : Int32} (h : 0 ≤ x.toInt) : ¬ x < 0 := fun z => by have := toInt_lt.mp z; have e : (0 : Int32).toInt = 0 := rfl; omega
theorem inc_nat {x : Int32} (h0 : 0 ≤ x.toInt) (h1 : x.toInt ≤ 8000) : (x + (1 : Int32)).toInt = x.toInt + 1 := by
  have h2 := c_iadd x 1
  have h3 := rng32 (x + (1 : Int32))
  have e1 : (1 : Int32).toInt = 1 := rfl
  omega
theorem at_long {us : List Int64} {q : Nat} (h : q < us.length) : ∃ u, (us.map Value.long)[q]? = some (.long u) := ⟨us[q], by rw [List.getElem?_map, List.getElem?_eq_getElem h]; rfl⟩
def bcount (x : Int64) : Int32 :=
  let x1 := x - ((ushrL x (1 : Int32)) &&& (6148914691236517205 : Int64))
  let x2 := (x1 &&& (3689348814741910323 : Int64)) + ((ushrL x1 (2 : Int32)) &&& (3689348814741910323 : Int64))
  let x3 := (x2 + (ushrL x2 (4 : Int32))) &&& (1085102592571150095 : Int64)
  let x4 := x3 + (ushrL x3 (8 : Int32))
  let x5 := x4 + (ushrL x4 (16 : Int32))
  let x6 := x5 + (ushrL x5 (32 : Int32))
  x6.toInt32 &&& (127 : Int32)
def nz0 (i n : Int32) : Int32 := n - (ushr i (1 : Int32))
def nz1 (i n : Int32) : Int32 := if i < (4 : Int32) then nz0 i n else nz0 (ushr i (2 : Int32)) (n + (-2 : Int32))
def nz2 (i n : Int32) : Int32 := if i < (16 : Int32) then nz1 i n else nz1 (ushr i (4 : Int32)) (n + (-4 : Int32))
def nz3 (i n : Int32) : Int32 := if i < (256 : Int32) then nz2 i n else nz2 (ushr i (8 : Int32)) (n + (-8 : Int32))
def nlzI (x : Int32) : Int32 := if (0 : Int32) < x then (if x < (65536 : Int32) then nz3 x (31 : Int32) else nz3 (ushr x (16 : Int32)) ((31 : Int32) + (-16 : Int32))) else if x = (0 : Int32) then (32 : Int32) else (0 : Int32)
def nlzL (x : Int64) : Int32 := if (ushrL x (32 : Int32)).toInt32 = (0 : Int32) then (32 : Int32) + nlzI x.toInt32 else nlzI (ushrL x (32 : Int32)).toInt32
def bitv (u : Int64) (p : Int32) : Int32 := if (lcmpW (u &&& ((1 : Int64) <<< (p &&& 0x3f).toInt64)) (0 : Int64)) = (0 : Int32) then (0 : Int32) else (1 : Int32)
def gv1 (u : Int64) (p : Int32) : Int32 := if (p >>> ((6 : Int32) &&& 31)) < (1 : Int32) then bitv u p else (0 : Int32)
def gv2 (u w : Int64) (p : Int32) : Int32 := if (p >>> ((6 : Int32) &&& 31)) < (2 : Int32) then (if (p >>> ((6 : Int32) &&& 31)) < (1 : Int32) then bitv u p else bitv w p) else (0 : Int32)
theorem nn0 {x : Int32} (h : ¬ x < 0) : 0 ≤ x.toInt := by have e : (0 : Int32).toInt = 0 := rfl; rw [toInt_lt] at h; omega
theorem ix0 {x : Int32} (h : ¬ x < 0) (q : x < (1 : Int32)) : x.toInt = ((0 : Nat) : Int) := by have := nn0 h; have e : (1 : Int32).toInt = 1 := rfl; rw [toInt_lt] at q; omega
theorem ix1 {x : Int32} (h : ¬ x < (1 : Int32)) (q : x < (2 : Int32)) : x.toInt = ((1 : Nat) : Int) := by have e : (1 : Int32).toInt = 1 := rfl; have e : (2 : Int32).toInt = 2 := rfl; rw [toInt_lt] at h q; omega
theorem bnd {P : Int32 → Prop} (n : Nat) (hn : n ≤ 8000) (h : ∀ i : Fin n, P (Int32.ofNat i.val)) (j : Int32) (h0 : 0 ≤ j.toInt) (h1 : j.toInt < (n : Int)) : P j := by
  have e : j = Int32.ofNat j.toInt.toNat := by rw [← Int32.toInt_inj, ofNat_toInt (by omega)]; omega
  rw [e]; exact h ⟨j.toInt.toNat, by omega⟩
theorem and7 (x : Int32) : (x &&& (7 : Int32)) = 0 ∨ (x &&& (7 : Int32)) = 1 ∨ (x &&& (7 : Int32)) = 2 ∨ (x &&& (7 : Int32)) = 3 ∨ (x &&& (7 : Int32)) = 4 ∨ (x &&& (7 : Int32)) = 5 ∨ (x &&& (7 : Int32)) = 6 ∨ (x &&& (7 : Int32)) = 7 := by
  have r := c_and x 7 (by decide)
  simp only [← Int32.toInt_inj]
  generalize (x &&& (7 : Int32)).toInt = y at *
  have e : (7 : Int32).toInt = 7 := rfl
  show y = 0 ∨ y = 1 ∨ y = 2 ∨ y = 3 ∨ y = 4 ∨ y = 5 ∨ y = 6 ∨ y = 7
  omega
theorem sta_int {args : Array Value} {s : State} {C n d : String} {v : Int32} (hv : (Jvm.Cond.eq (Term.static C n d) (Term.int v)).value args s none s [] = some true) (hi : (Jvm.Cond.initializedFor C n d).before args s = true) : Sta s s.heap C n d (.int v) := by
  obtain ⟨x, y, e1, e2, k1, k2⟩ := cmp_v (Or.inl hv)
  cases (Term.int_eval v).symm.trans e2
  obtain ⟨z, rfl⟩ := k2
  have := gotT (Cond.eq_ints e1 (Term.int_eval v)) hv
  subst this
  exact Sta.start e1 (Or.inl hi)
def VC1 (e n vc : Int32) (nn : Nat) : Prop := (n.toInt = (nn : Int)) ∧ (nn ≤ 7) ∧ (((1 : Int32) <<< (n &&& 31)) = vc) ∧ (0 ≤ vc.toInt) ∧ (vc.toInt ≤ 8000) ∧ ((((vc - (1 : Int32)) >>> ((6 : Int32) &&& 31)) + (1 : Int32)).toInt = ((1 : Nat) : Int)) ∧ (∀ j : Int32, 0 ≤ j.toInt → j.toInt < vc.toInt → ∃ q : Nat, (j >>> ((6 : Int32) &&& 31)).toInt = (q : Int) ∧ q < 1) ∧ (¬ vc < 0) ∧ (¬ (0 : Int32) = vc) ∧ (((vc - (1 : Int32)) >>> ((6 : Int32) &&& 31)) = (0 : Int32)) ∧ (¬ (vc + (2 : Int32)) < 0) ∧ (¬ (0 : Int32) = (vc + (2 : Int32))) ∧ ((((vc + (2 : Int32)) - (1 : Int32)) >>> ((6 : Int32) &&& 31)) = e) ∧ (((0 : Int32) + (bcount ((0 : Int64) ||| (((-1 : Int64) <<< ((0 : Int32) &&& 0x3f).toInt64) &&& (ushrL (-1 : Int64) (-vc)))))) = vc) ∧ (((0 : Int32) + ((64 : Int32) - (nlzL ((0 : Int64) ||| (((-1 : Int64) <<< ((0 : Int32) &&& 0x3f).toInt64) &&& (ushrL (-1 : Int64) (-vc))))))) = vc) ∧ (∀ p : Int32, 0 ≤ p.toInt → p.toInt < (vc + (2 : Int32)).toInt → gv1 ((0 : Int64) ||| (((-1 : Int64) <<< ((0 : Int32) &&& 0x3f).toInt64) &&& (ushrL (-1 : Int64) (-vc)))) p = if p < vc then (1 : Int32) else (0 : Int32)) ∧ (∀ p : Int32, 0 ≤ p.toInt → p.toInt < (vc + (2 : Int32)).toInt → ¬ (p >>> ((6 : Int32) &&& 31)) < 0) ∧ (0 < (vc + (2 : Int32)).toInt)
theorem VC1.hn {e n vc : Int32} {nn : Nat} (H : VC1 e n vc nn) : n.toInt = (nn : Int) := H.1
theorem VC1.hn7 {e n vc : Int32} {nn : Nat} (H : VC1 e n vc nn) : nn ≤ 7 := H.2.1
theorem VC1.hvc {e n vc : Int32} {nn : Nat} (H : VC1 e n vc nn) : ((1 : Int32) <<< (n &&& 31)) = vc := H.2.2.1
theorem VC1.hv0 {e n vc : Int32} {nn : Nat} (H : VC1 e n vc nn) : 0 ≤ vc.toInt := H.2.2.2.1
theorem VC1.hv1 {e n vc : Int32} {nn : Nat} (H : VC1 e n vc nn) : vc.toInt ≤ 8000 := H.2.2.2.2.1
theorem VC1.hm {e n vc : Int32} {nn : Nat} (H : VC1 e n vc nn) : (((vc - (1 : Int32)) >>> ((6 : Int32) &&& 31)) + (1 : Int32)).toInt = ((1 : Nat) : Int) := H.2.2.2.2.2.1
theorem VC1.hj {e n vc : Int32} {nn : Nat} (H : VC1 e n vc nn) : ∀ j : Int32, 0 ≤ j.toInt → j.toInt < vc.toInt → ∃ q : Nat, (j >>> ((6 : Int32) &&& 31)).toInt = (q : Int) ∧ q < 1 := H.2.2.2.2.2.2.1
theorem VC1.hy {e n vc : Int32} {nn : Nat} (H : VC1 e n vc nn) : ¬ vc < 0 := H.2.2.2.2.2.2.2.1
theorem VC1.hyn {e n vc : Int32} {nn : Nat} (H : VC1 e n vc nn) : ¬ (0 : Int32) = vc := H.2.2.2.2.2.2.2.2.1
theorem VC1.he {e n vc : Int32} {nn : Nat} (H : VC1 e n vc nn) : ((vc - (1 : Int32)) >>> ((6 : Int32) &&& 31)) = (0 : Int32) := H.2.2.2.2.2.2.2.2.2.1
theorem VC1.gy {e n vc : Int32} {nn : Nat} (H : VC1 e n vc nn) : ¬ (vc + (2 : Int32)) < 0 := H.2.2.2.2.2.2.2.2.2.2.1
theorem VC1.gyn {e n vc : Int32} {nn : Nat} (H : VC1 e n vc nn) : ¬ (0 : Int32) = (vc + (2 : Int32)) := H.2.2.2.2.2.2.2.2.2.2.2.1
theorem VC1.ge {e n vc : Int32} {nn : Nat} (H : VC1 e n vc nn) : (((vc + (2 : Int32)) - (1 : Int32)) >>> ((6 : Int32) &&& 31)) = e := H.2.2.2.2.2.2.2.2.2.2.2.2.1
theorem VC1.h1 {e n vc : Int32} {nn : Nat} (H : VC1 e n vc nn) : ((0 : Int32) + (bcount ((0 : Int64) ||| (((-1 : Int64) <<< ((0 : Int32) &&& 0x3f).toInt64) &&& (ushrL (-1 : Int64) (-vc)))))) = vc := H.2.2.2.2.2.2.2.2.2.2.2.2.2.1
theorem VC1.h2 {e n vc : Int32} {nn : Nat} (H : VC1 e n vc nn) : ((0 : Int32) + ((64 : Int32) - (nlzL ((0 : Int64) ||| (((-1 : Int64) <<< ((0 : Int32) &&& 0x3f).toInt64) &&& (ushrL (-1 : Int64) (-vc))))))) = vc := H.2.2.2.2.2.2.2.2.2.2.2.2.2.2.1
theorem VC1.h3 {e n vc : Int32} {nn : Nat} (H : VC1 e n vc nn) : ∀ p : Int32, 0 ≤ p.toInt → p.toInt < (vc + (2 : Int32)).toInt → gv1 ((0 : Int64) ||| (((-1 : Int64) <<< ((0 : Int32) &&& 0x3f).toInt64) &&& (ushrL (-1 : Int64) (-vc)))) p = if p < vc then (1 : Int32) else (0 : Int32) := H.2.2.2.2.2.2.2.2.2.2.2.2.2.2.2.1
theorem VC1.hs {e n vc : Int32} {nn : Nat} (H : VC1 e n vc nn) : ∀ p : Int32, 0 ≤ p.toInt → p.toInt < (vc + (2 : Int32)).toInt → ¬ (p >>> ((6 : Int32) &&& 31)) < 0 := H.2.2.2.2.2.2.2.2.2.2.2.2.2.2.2.2.1
theorem VC1.hp {e n vc : Int32} {nn : Nat} (H : VC1 e n vc nn) : 0 < (vc + (2 : Int32)).toInt := H.2.2.2.2.2.2.2.2.2.2.2.2.2.2.2.2.2
def VC2 (e n vc : Int32) (nn : Nat) : Prop := (n.toInt = (nn : Int)) ∧ (nn ≤ 7) ∧ (((1 : Int32) <<< (n &&& 31)) = vc) ∧ (0 ≤ vc.toInt) ∧ (vc.toInt ≤ 8000) ∧ ((((vc - (1 : Int32)) >>> ((6 : Int32) &&& 31)) + (1 : Int32)).toInt = ((2 : Nat) : Int)) ∧ (∀ j : Int32, 0 ≤ j.toInt → j.toInt < vc.toInt → ∃ q : Nat, (j >>> ((6 : Int32) &&& 31)).toInt = (q : Int) ∧ q < 2) ∧ (¬ vc < 0) ∧ (¬ (0 : Int32) = vc) ∧ (((vc - (1 : Int32)) >>> ((6 : Int32) &&& 31)) = (1 : Int32)) ∧ (¬ (vc + (2 : Int32)) < 0) ∧ (¬ (0 : Int32) = (vc + (2 : Int32))) ∧ ((((vc + (2 : Int32)) - (1 : Int32)) >>> ((6 : Int32) &&& 31)) = e) ∧ ((((0 : Int32) + (bcount ((0 : Int64) ||| ((-1 : Int64) <<< ((0 : Int32) &&& 0x3f).toInt64)))) + (bcount ((0 : Int64) ||| (ushrL (-1 : Int64) (-vc))))) = vc) ∧ (((64 : Int32) + ((64 : Int32) - (nlzL ((0 : Int64) ||| (ushrL (-1 : Int64) (-vc)))))) = vc) ∧ (∀ p : Int32, 0 ≤ p.toInt → p.toInt < (vc + (2 : Int32)).toInt → gv2 ((0 : Int64) ||| ((-1 : Int64) <<< ((0 : Int32) &&& 0x3f).toInt64)) ((0 : Int64) ||| (ushrL (-1 : Int64) (-vc))) p = if p < vc then (1 : Int32) else (0 : Int32)) ∧ (∀ p : Int32, 0 ≤ p.toInt → p.toInt < (vc + (2 : Int32)).toInt → ¬ (p >>> ((6 : Int32) &&& 31)) < 0) ∧ (0 < (vc + (2 : Int32)).toInt)
theorem VC2.hn {e n vc : Int32} {nn : Nat} (H : VC2 e n vc nn) : n.toInt = (nn : Int) := H.1
theorem VC2.hn7 {e n vc : Int32} {nn : Nat} (H : VC2 e n vc nn) : nn ≤ 7 := H.2.1
theorem VC2.hvc {e n vc : Int32} {nn : Nat} (H : VC2 e n vc nn) : ((1 : Int32) <<< (n &&& 31)) = vc := H.2.2.1
theorem VC2.hv0 {e n vc : Int32} {nn : Nat} (H : VC2 e n vc nn) : 0 ≤ vc.toInt := H.2.2.2.1
theorem VC2.hv1 {e n vc : Int32} {nn : Nat} (H : VC2 e n vc nn) : vc.toInt ≤ 8000 := H.2.2.2.2.1
theorem VC2.hm {e n vc : Int32} {nn : Nat} (H : VC2 e n vc nn) : (((vc - (1 : Int32)) >>> ((6 : Int32) &&& 31)) + (1 : Int32)).toInt = ((2 : Nat) : Int) := H.2.2.2.2.2.1
theorem VC2.hj {e n vc : Int32} {nn : Nat} (H : VC2 e n vc nn) : ∀ j : Int32, 0 ≤ j.toInt → j.toInt < vc.toInt → ∃ q : Nat, (j >>> ((6 : Int32) &&& 31)).toInt = (q : Int) ∧ q < 2 := H.2.2.2.2.2.2.1
theorem VC2.hy {e n vc : Int32} {nn : Nat} (H : VC2 e n vc nn) : ¬ vc < 0 := H.2.2.2.2.2.2.2.1
theorem VC2.hyn {e n vc : Int32} {nn : Nat} (H : VC2 e n vc nn) : ¬ (0 : Int32) = vc := H.2.2.2.2.2.2.2.2.1
theorem VC2.he {e n vc : Int32} {nn : Nat} (H : VC2 e n vc nn) : ((vc - (1 : Int32)) >>> ((6 : Int32) &&& 31)) = (1 : Int32) := H.2.2.2.2.2.2.2.2.2.1
theorem VC2.gy {e n vc : Int32} {nn : Nat} (H : VC2 e n vc nn) : ¬ (vc + (2 : Int32)) < 0 := H.2.2.2.2.2.2.2.2.2.2.1
theorem VC2.gyn {e n vc : Int32} {nn : Nat} (H : VC2 e n vc nn) : ¬ (0 : Int32) = (vc + (2 : Int32)) := H.2.2.2.2.2.2.2.2.2.2.2.1
theorem VC2.ge {e n vc : Int32} {nn : Nat} (H : VC2 e n vc nn) : (((vc + (2 : Int32)) - (1 : Int32)) >>> ((6 : Int32) &&& 31)) = e := H.2.2.2.2.2.2.2.2.2.2.2.2.1
theorem VC2.h1 {e n vc : Int32} {nn : Nat} (H : VC2 e n vc nn) : (((0 : Int32) + (bcount ((0 : Int64) ||| ((-1 : Int64) <<< ((0 : Int32) &&& 0x3f).toInt64)))) + (bcount ((0 : Int64) ||| (ushrL (-1 : Int64) (-vc))))) = vc := H.2.2.2.2.2.2.2.2.2.2.2.2.2.1
theorem VC2.h2 {e n vc : Int32} {nn : Nat} (H : VC2 e n vc nn) : ((64 : Int32) + ((64 : Int32) - (nlzL ((0 : Int64) ||| (ushrL (-1 : Int64) (-vc)))))) = vc := H.2.2.2.2.2.2.2.2.2.2.2.2.2.2.1
theorem VC2.h3 {e n vc : Int32} {nn : Nat} (H : VC2 e n vc nn) : ∀ p : Int32, 0 ≤ p.toInt → p.toInt < (vc + (2 : Int32)).toInt → gv2 ((0 : Int64) ||| ((-1 : Int64) <<< ((0 : Int32) &&& 0x3f).toInt64)) ((0 : Int64) ||| (ushrL (-1 : Int64) (-vc))) p = if p < vc then (1 : Int32) else (0 : Int32) := H.2.2.2.2.2.2.2.2.2.2.2.2.2.2.2.1
theorem VC2.hs {e n vc : Int32} {nn : Nat} (H : VC2 e n vc nn) : ∀ p : Int32, 0 ≤ p.toInt → p.toInt < (vc + (2 : Int32)).toInt → ¬ (p >>> ((6 : Int32) &&& 31)) < 0 := H.2.2.2.2.2.2.2.2.2.2.2.2.2.2.2.2.1
theorem VC2.hp {e n vc : Int32} {nn : Nat} (H : VC2 e n vc nn) : 0 < (vc + (2 : Int32)).toInt := H.2.2.2.2.2.2.2.2.2.2.2.2.2.2.2.2.2
theorem vc_0 : VC1 (0 : Int32) (0 : Int32) (1 : Int32) 0 := by
  unfold VC1
  exact ⟨by decide +kernel,
    by decide,
    by decide +kernel,
    by decide +kernel,
    by decide +kernel,
    by decide +kernel,
    fun j a b => ⟨0, bnd (P := fun j => (j >>> ((6 : Int32) &&& 31)).toInt = ((0 : Nat) : Int)) 1 (by decide) (by decide +kernel) j a b, by decide⟩,
    by decide +kernel,
    by decide +kernel,
    by decide +kernel,
    by decide +kernel,
    by decide +kernel,
    by decide +kernel,
    by decide +kernel,
    by decide +kernel,
    fun p a b => bnd (P := fun p => _ = if p < (1 : Int32) then (1 : Int32) else (0 : Int32)) 3 (by decide) (by decide +kernel) p a b,
    fun p a b => bnd (P := fun p => ¬ (p >>> ((6 : Int32) &&& 31)) < 0) 3 (by decide) (by decide +kernel) p a b,
    by decide +kernel⟩
theorem vc_1 : VC1 (0 : Int32) (1 : Int32) (2 : Int32) 1 := by
  unfold VC1
  exact ⟨by decide +kernel,
    by decide,
    by decide +kernel,
    by decide +kernel,
    by decide +kernel,
    by decide +kernel,
    fun j a b => ⟨0, bnd (P := fun j => (j >>> ((6 : Int32) &&& 31)).toInt = ((0 : Nat) : Int)) 2 (by decide) (by decide +kernel) j a b, by decide⟩,
    by decide +kernel,
    by decide +kernel,
    by decide +kernel,
    by decide +kernel,
    by decide +kernel,
    by decide +kernel,
    by decide +kernel,
    by decide +kernel,
    fun p a b => bnd (P := fun p => _ = if p < (2 : Int32) then (1 : Int32) else (0 : Int32)) 4 (by decide) (by decide +kernel) p a b,
    fun p a b => bnd (P := fun p => ¬ (p >>> ((6 : Int32) &&& 31)) < 0) 4 (by decide) (by decide +kernel) p a b,
    by decide +kernel⟩
theorem vc_2 : VC1 (0 : Int32) (2 : Int32) (4 : Int32) 2 := by
  unfold VC1
  exact ⟨by decide +kernel,
    by decide,
    by decide +kernel,
    by decide +kernel,
    by decide +kernel,
    by decide +kernel,
    fun j a b => ⟨0, bnd (P := fun j => (j >>> ((6 : Int32) &&& 31)).toInt = ((0 : Nat) : Int)) 4 (by decide) (by decide +kernel) j a b, by decide⟩,
    by decide +kernel,
    by decide +kernel,
    by decide +kernel,
    by decide +kernel,
    by decide +kernel,
    by decide +kernel,
    by decide +kernel,
    by decide +kernel,
    fun p a b => bnd (P := fun p => _ = if p < (4 : Int32) then (1 : Int32) else (0 : Int32)) 6 (by decide) (by decide +kernel) p a b,
    fun p a b => bnd (P := fun p => ¬ (p >>> ((6 : Int32) &&& 31)) < 0) 6 (by decide) (by decide +kernel) p a b,
    by decide +kernel⟩
theorem vc_3 : VC1 (0 : Int32) (3 : Int32) (8 : Int32) 3 := by
  unfold VC1
  exact ⟨by decide +kernel,
    by decide,
    by decide +kernel,
    by decide +kernel,
    by decide +kernel,
    by decide +kernel,
    fun j a b => ⟨0, bnd (P := fun j => (j >>> ((6 : Int32) &&& 31)).toInt = ((0 : Nat) : Int)) 8 (by decide) (by decide +kernel) j a b, by decide⟩,
    by decide +kernel,
    by decide +kernel,
    by decide +kernel,
    by decide +kernel,
    by decide +kernel,
    by decide +kernel,
    by decide +kernel,
    by decide +kernel,
    fun p a b => bnd (P := fun p => _ = if p < (8 : Int32) then (1 : Int32) else (0 : Int32)) 10 (by decide) (by decide +kernel) p a b,
    fun p a b => bnd (P := fun p => ¬ (p >>> ((6 : Int32) &&& 31)) < 0) 10 (by decide) (by decide +kernel) p a b,
    by decide +kernel⟩
theorem vc_4 : VC1 (0 : Int32) (4 : Int32) (16 : Int32) 4 := by
  unfold VC1
  exact ⟨by decide +kernel,
    by decide,
    by decide +kernel,
    by decide +kernel,
    by decide +kernel,
    by decide +kernel,
    fun j a b => ⟨0, bnd (P := fun j => (j >>> ((6 : Int32) &&& 31)).toInt = ((0 : Nat) : Int)) 16 (by decide) (by decide +kernel) j a b, by decide⟩,
    by decide +kernel,
    by decide +kernel,
    by decide +kernel,
    by decide +kernel,
    by decide +kernel,
    by decide +kernel,
    by decide +kernel,
    by decide +kernel,
    fun p a b => bnd (P := fun p => _ = if p < (16 : Int32) then (1 : Int32) else (0 : Int32)) 18 (by decide) (by decide +kernel) p a b,
    fun p a b => bnd (P := fun p => ¬ (p >>> ((6 : Int32) &&& 31)) < 0) 18 (by decide) (by decide +kernel) p a b,
    by decide +kernel⟩
theorem vc_5 : VC1 (0 : Int32) (5 : Int32) (32 : Int32) 5 := by
  unfold VC1
  exact ⟨by decide +kernel,
    by decide,
    by decide +kernel,
    by decide +kernel,
    by decide +kernel,
    by decide +kernel,
    fun j a b => ⟨0, bnd (P := fun j => (j >>> ((6 : Int32) &&& 31)).toInt = ((0 : Nat) : Int)) 32 (by decide) (by decide +kernel) j a b, by decide⟩,
    by decide +kernel,
    by decide +kernel,
    by decide +kernel,
    by decide +kernel,
    by decide +kernel,
    by decide +kernel,
    by decide +kernel,
    by decide +kernel,
    fun p a b => bnd (P := fun p => _ = if p < (32 : Int32) then (1 : Int32) else (0 : Int32)) 34 (by decide) (by decide +kernel) p a b,
    fun p a b => bnd (P := fun p => ¬ (p >>> ((6 : Int32) &&& 31)) < 0) 34 (by decide) (by decide +kernel) p a b,
    by decide +kernel⟩
theorem vc_6 : VC1 (1 : Int32) (6 : Int32) (64 : Int32) 6 := by
  unfold VC1
  exact ⟨by decide +kernel,
    by decide,
    by decide +kernel,
    by decide +kernel,
    by decide +kernel,
    by decide +kernel,
    fun j a b => ⟨0, bnd (P := fun j => (j >>> ((6 : Int32) &&& 31)).toInt = ((0 : Nat) : Int)) 64 (by decide) (by decide +kernel) j a b, by decide⟩,
    by decide +kernel,
    by decide +kernel,
    by decide +kernel,
    by decide +kernel,
    by decide +kernel,
    by decide +kernel,
    by decide +kernel,
    by decide +kernel,
    fun p a b => bnd (P := fun p => _ = if p < (64 : Int32) then (1 : Int32) else (0 : Int32)) 66 (by decide) (by decide +kernel) p a b,
    fun p a b => bnd (P := fun p => ¬ (p >>> ((6 : Int32) &&& 31)) < 0) 66 (by decide) (by decide +kernel) p a b,
    by decide +kernel⟩
theorem vc_7 : VC2 (2 : Int32) (7 : Int32) (128 : Int32) 7 := by
  unfold VC2
  exact ⟨by decide +kernel,
    by decide,
    by decide +kernel,
    by decide +kernel,
    by decide +kernel,
    by decide +kernel,
    fun j a b => (bnd (P := fun j => (j >>> ((6 : Int32) &&& 31)).toInt = ((0 : Nat) : Int) ∨ (j >>> ((6 : Int32) &&& 31)).toInt = ((1 : Nat) : Int)) 128 (by decide) (by decide +kernel) j a b).elim (fun z => ⟨0, z, by decide⟩) (fun z => ⟨1, z, by decide⟩),
    by decide +kernel,
    by decide +kernel,
    by decide +kernel,
    by decide +kernel,
    by decide +kernel,
    by decide +kernel,
    by decide +kernel,
    by decide +kernel,
    fun p a b => bnd (P := fun p => _ = if p < (128 : Int32) then (1 : Int32) else (0 : Int32)) 130 (by decide) (by decide +kernel) p a b,
    fun p a b => bnd (P := fun p => ¬ (p >>> ((6 : Int32) &&& 31)) < 0) 130 (by decide) (by decide +kernel) p a b,
    by decide +kernel⟩
abbrev G_wi (md : Md) (l : Launch) (Z : State) (n0 : Nat) (x : Int32) (h0 : Heap) := Go md l Z n0 ({ frames := 0, cells := 0, slots := 0, locals := 0 } : Room) jdk_92_method_1_code 1 (some .int) "java/util/BitSet" "wordIndex" (fun v h' _ => h0 = h' ∧ v = some (.int (x >>> ((6 : Int32) &&& 31))))
theorem ef_wi (mid : MethodId) (x : Int32)  : entryFrame mid #[(.int x)] 1 = mkF mid 0 #[.val (.int x)] [] := by first | (simp [entryFrame, mkF, argsToLocals, Value.category]; done) | rfl
set_option maxRecDepth 65536 in
set_option maxHeartbeats 40000000 in
theorem c_wi {md : Md} {l : Launch} {Z : State} {n0 : Nat} {a0 : Array Value} (hw : HW a0 Z) (x : Int32) {h0 : Heap}  : G_wi md l Z n0 x h0 0 0 [] h0 0 #[.val (.int x)] [] := by
  refine Go.iloadN 1 d5_0 rfl rfl ?_
  refine Go.bipush 3 (6 : Int32) d5_1 rfl rfl ?_
  refine Go.ishr 4 d5_3 rfl ?_
  exact Go.retI d5_4 rfl (sf' := []) (⟨rfl, rfl⟩) (fun _ q => nomatch q) (Nat.le_of_ble_eq_true rfl) (Nat.le_of_ble_eq_true rfl)
abbrev G_ci (md : Md) (l : Launch) (Z : State) (n0 : Nat) (a : Addr) (h0 : Heap) := Go md l Z n0 ({ frames := 0, cells := 0, slots := 0, locals := 0 } : Room) jdk_92_method_2_code 1 none "java/util/BitSet" "checkInvariants" (fun v h' _ => h0 = h' ∧ v = none)
theorem ef_ci (mid : MethodId) (a : Addr)  : entryFrame mid #[(.ref a)] 1 = mkF mid 0 #[.val (.ref a)] [] := by first | (simp [entryFrame, mkF, argsToLocals, Value.category]; done) | rfl
set_option maxRecDepth 65536 in
set_option maxHeartbeats 40000000 in
theorem c_ci {md : Md} {l : Launch} {Z : State} {n0 : Nat} {a0 : Array Value} (hw : HW a0 Z) (a : Addr) {h0 : Heap} (SA : Sta Z Z.heap "java/util/BitSet" "$assertionsDisabled" "Z" (.int 1)) : G_ci md l Z n0 a h0 0 0 [] h0 0 #[.val (.ref a)] [] := by
  refine Go.getS 3 d9_0 rfl (w57 hw) Via.refl SA ?_
  refine Go.ifY 37 d9_3 (by decide) (by decide) (feq (by decide)).2 ?_
  refine Go.getS 40 d9_37 rfl (w57 hw) Via.refl SA ?_
  refine Go.ifY 70 d9_40 (by decide) (by decide) (feq (by decide)).2 ?_
  refine Go.getS 73 d9_70 rfl (w57 hw) Via.refl SA ?_
  refine Go.ifY 110 d9_73 (by decide) (by decide) (feq (by decide)).2 ?_
  exact Go.ret0 d9_110 rfl (sf' := []) (⟨rfl, rfl⟩) (fun _ q => nomatch q) (Nat.le_of_ble_eq_true rfl) (Nat.le_of_ble_eq_true rfl)
abbrev G_cr (md : Md) (l : Launch) (Z : State) (n0 : Nat) (x y : Int32) (h0 : Heap) := Go md l Z n0 ({ frames := 0, cells := 0, slots := 0, locals := 0 } : Room) jdk_92_method_16_code 2 none "java/util/BitSet" "checkRange" (fun v h' _ => h0 = h' ∧ v = none)
theorem ef_cr (mid : MethodId) (x y : Int32)  : entryFrame mid #[(.int x), (.int y)] 2 = mkF mid 0 #[.val (.int x), .val (.int y)] [] := by first | (simp [entryFrame, mkF, argsToLocals, Value.category]; done) | rfl
set_option maxRecDepth 65536 in
set_option maxHeartbeats 40000000 in
theorem c_cr {md : Md} {l : Launch} {Z : State} {n0 : Nat} {a0 : Array Value} (hw : HW a0 Z) (x y : Int32) {h0 : Heap} (hx : ¬ x < 0) (hy : ¬ y < 0) (hxy : ¬ y < x) : G_cr md l Z n0 x y h0 0 0 [] h0 0 #[.val (.int x), .val (.int y)] [] := by
  refine Go.iloadN 1 d15_0 rfl rfl ?_
  refine Go.ifY 31 d15_1 (by decide) (by decide) (flt hx).2.1 ?_
  refine Go.iloadN 32 d15_31 rfl rfl ?_
  refine Go.ifY 62 d15_32 (by decide) (by decide) (flt hy).2.1 ?_
  refine Go.iloadN 63 d15_62 rfl rfl ?_
  refine Go.iloadN 64 d15_63 rfl rfl ?_
  refine Go.icmpY 103 d15_64 (by decide) (by decide) (flt hxy).2.2.2 ?_
  exact Go.ret0 d15_103 rfl (sf' := []) (⟨rfl, rfl⟩) (fun _ q => nomatch q) (Nat.le_of_ble_eq_true rfl) (Nat.le_of_ble_eq_true rfl)
abbrev G_initw (md : Md) (l : Launch) (Z : State) (n0 : Nat) (a : Addr) (nb : Int32) (m : Nat) (k : Int32) (h0 : Heap) := Go md l Z n0 ({ frames := 1, cells := 1, slots := 2, locals := 13 } : Room) jdk_92_method_6_code 2 none "java/util/BitSet" "initWords" (fun v h' _ => v = none ∧ Keep h0 h' [a] ∧ Exa Z h' a "java/util/BitSet" ∧ Fld Z h' a "java/util/BitSet" "wordsInUse" "I" (.int k) ∧ ∃ b, h0.size ≤ b ∧ Fld Z h' a "java/util/BitSet" "words" "[J" (.ref b) ∧ Ary Z h' b .long (List.replicate m (.long 0)))
theorem ef_initw (mid : MethodId) (a : Addr) (nb : Int32) (m : Nat) (k : Int32)  : entryFrame mid #[(.ref a), (.int nb)] 2 = mkF mid 0 #[.val (.ref a), .val (.int nb)] [] := by first | (simp [entryFrame, mkF, argsToLocals, Value.category]; done) | rfl
set_option maxRecDepth 65536 in
set_option maxHeartbeats 40000000 in
theorem c_initw {l : Launch} {Z : State} {n0 : Nat} {a0 : Array Value} (hw : HW a0 Z) (a : Addr) (nb : Int32) (m : Nat) (k : Int32) {h0 : Heap} (E : Exa Z h0 a "java/util/BitSet") (n0a : n0 ≤ a) {u1 : Value} (F1 : Fld Z h0 a "java/util/BitSet" "words" "[J" u1) (F2 : Fld Z h0 a "java/util/BitSet" "wordsInUse" "I" (.int k)) (hm : (((nb - (1 : Int32)) >>> ((6 : Int32) &&& 31)) + (1 : Int32)).toInt = (m : Int)) (hm2 : m ≤ 2) : G_initw none l Z n0 a nb m k h0 0 0 [a] h0 0 #[.val (.ref a), .val (.int nb)] [] := by
  refine Go.aloadN 1 d4_0 rfl rfl rfl ?_
  refine Go.iloadN 2 d4_1 rfl rfl ?_
  refine Go.iconst 3 (1 : Int32) d4_2 rfl rfl ?_
  refine Go.isub 4 d4_3 rfl ?_
  refine Go.callS (S := [(.ref a)]) 7 [(.int (nb - (1 : Int32)))] d4_4 rfl rfl (w30 hw) (w31 hw) (w16 hw) (w32 hw) (by decide) (call_of_go (R := _) (len := 3) (W := 1) (plainFor_of_name pn_0) (fun mid => ef_wi mid (nb - (1 : Int32)) ) (c_wi hw (nb - (1 : Int32)) ) (w32 hw) (w16 hw) (by decide) (by decide)) (lenOf pd_0 rfl) (Nat.le_of_ble_eq_true rfl) rfl (Nat.le_of_ble_eq_true rfl) (Nat.le_of_ble_eq_true rfl) (fun _ q => nomatch q) (fun v h_1 sf_2 hq => ?_)
  obtain ⟨rfl, rfl⟩ := hq
  refine Go.more (sf' := [a]) ?_ (Nat.le_refl _) (Nat.le_refl _) (fun _ q => List.mem_append_right _ q)
  show G_initw none l Z n0 a nb m k h0 0 0 [a] h0 7 #[.val (.ref a), .val (.int nb)] [(.int ((nb - (1 : Int32)) >>> ((6 : Int32) &&& 31))), (.ref a)]
  refine Go.iconst 8 (1 : Int32) d4_7 rfl rfl ?_
  refine Go.iadd 9 d4_8 rfl ?_
  refine Go.newA m 11 d4_9 rfl rfl (w33 hw) hm 2 hm2 (by decide) (Nat.le_of_ble_eq_true rfl) (Nat.le_of_ble_eq_true rfl) (fun h_3 x_4 g_5 nq_6 E_7 lt_8 A_9 => ?_)
  have A_10 : Ary Z h_3 x_4 .long (List.replicate m (.long 0)) := A_9
  show G_initw none l Z n0 a nb m k h0 1 2 [x_4, a] h_3 11 #[.val (.ref a), .val (.int nb)] [(.ref x_4), (.ref a)]
  have ne_x_4 : x_4 ≠ a := Nat.ne_of_gt (Nat.lt_of_lt_of_le E.lt (Nat.le_of_eq g_5))
  have f_11 := E.ext E_7
  have f_12 := F1.ext E_7
  refine Go.putF 14 (.ref x_4) d4_11 rfl (w34 hw) Via.refl f_12 f_11 (Or.inl (w35 hw)) (w15 hw) (ty := (.array .long)) (by decide) rfl rfl (List.mem_of_getElem? (i := 1) rfl) n0a (fun h_13 W_14 => ?_)
  have f_15 := (f_11.wr W_14)
  have f_16 := ((F2.ext E_7).other W_14 (Or.inr (slot_ne (Or.inl (w22 hw)) (Or.inl (w35 hw)) (by decide) (t := .int) (t' := (.array .long)) (by decide) (by decide))))
  have f_17 := (A_10.other W_14 ne_x_4)
  exact Go.ret0 d4_14 rfl (sf' := []) (⟨rfl, (((Keep.refl h0 [a]).ext E_7).wr W_14 (Or.inl (List.mem_of_getElem? (i := 0) rfl))), f_15, f_16, x_4, (Nat.le_of_eq g_5), (f_12.same W_14), f_17⟩) (fun _ q => nomatch q) (Nat.le_of_ble_eq_true rfl) (Nat.le_of_ble_eq_true rfl)
abbrev G_bsinit (md : Md) (l : Launch) (Z : State) (n0 : Nat) (a : Addr) (nb : Int32) (m : Nat) (h0 : Heap) := Go md l Z n0 ({ frames := 2, cells := 1, slots := 2, locals := 26 } : Room) jdk_92_method_5_code 2 none "java/util/BitSet" "<init>" (fun v h' _ => v = none ∧ Keep h0 h' [a] ∧ Exa Z h' a "java/util/BitSet" ∧ Fld Z h' a "java/util/BitSet" "wordsInUse" "I" (.int 0) ∧ ∃ b, h0.size ≤ b ∧ Fld Z h' a "java/util/BitSet" "words" "[J" (.ref b) ∧ Ary Z h' b .long (List.replicate m (.long 0)))
theorem ef_bsinit (mid : MethodId) (a : Addr) (nb : Int32) (m : Nat)  : entryFrame mid #[(.ref a), (.int nb)] 2 = mkF mid 0 #[.val (.ref a), .val (.int nb)] [] := by first | (simp [entryFrame, mkF, argsToLocals, Value.category]; done) | rfl
set_option maxRecDepth 65536 in
set_option maxHeartbeats 40000000 in
theorem c_bsinit {l : Launch} {Z : State} {n0 : Nat} {a0 : Array Value} (hw : HW a0 Z) (a : Addr) (nb : Int32) (m : Nat) {h0 : Heap} (E : Exa Z h0 a "java/util/BitSet") (n0a : n0 ≤ a) {u1 u2 u3 : Value} (F1 : Fld Z h0 a "java/util/BitSet" "words" "[J" u1) (F2 : Fld Z h0 a "java/util/BitSet" "wordsInUse" "I" u2) (F3 : Fld Z h0 a "java/util/BitSet" "sizeIsSticky" "Z" u3) (hnb : ¬ nb < 0) (hm : (((nb - (1 : Int32)) >>> ((6 : Int32) &&& 31)) + (1 : Int32)).toInt = (m : Int)) (hm2 : m ≤ 2) : G_bsinit none l Z n0 a nb m h0 0 0 [a] h0 0 #[.val (.ref a), .val (.int nb)] [] := by
  refine Go.aloadN 1 d3_0 rfl rfl rfl ?_
  refine Go.initO (W := 0) 4 d3_1 rfl (w20 hw) (w7 hw) (w8 hw) rfl (by decide) (Nat.le_of_ble_eq_true rfl) (by decide) ?_
  refine Go.aloadN 5 d3_4 rfl rfl rfl ?_
  refine Go.iconst 6 (0 : Int32) d3_5 rfl rfl ?_
  refine Go.putF 9 (.int (0 : Int32)) d3_6 rfl (w21 hw) Via.refl F2 E (Or.inl (w22 hw)) (w15 hw) (ty := .int) (by decide) rfl rfl (List.mem_of_getElem? (i := 0) rfl) n0a (fun h_1 W_2 => ?_)
  refine Go.aloadN 10 d3_9 rfl rfl rfl ?_
  refine Go.iconst 11 (0 : Int32) d3_10 rfl rfl ?_
  have f_3 := (E.wr W_2)
  have f_4 := (F3.other W_2 (Or.inr (slot_ne (Or.inl (w24 hw)) (Or.inl (w22 hw)) (by decide) (t := .boolean) (t' := .int) (by decide) (by decide))))
  refine Go.putF 14 (.int (0 : Int32)) d3_11 rfl (w23 hw) Via.refl f_4 f_3 (Or.inl (w24 hw)) (w15 hw) (ty := .boolean) (by decide) rfl rfl (List.mem_of_getElem? (i := 0) rfl) n0a (fun h_5 W_6 => ?_)
  refine Go.iloadN 15 d3_14 rfl rfl ?_
  refine Go.ifY 45 d3_15 (by decide) (by decide) (flt hnb).2.1 ?_
  refine Go.aloadN 46 d3_45 rfl rfl rfl ?_
  refine Go.iloadN 47 d3_46 rfl rfl ?_
  have f_7 := (f_3.wr W_6)
  have f_8 := ((F1.other W_2 (Or.inr (slot_ne (Or.inl (w35 hw)) (Or.inl (w22 hw)) (by decide) (t := (.array .long)) (t' := .int) (by decide) (by decide)))).other W_6 (Or.inr (slot_ne (Or.inl (w35 hw)) (Or.inl (w24 hw)) (by decide) (t := (.array .long)) (t' := .boolean) (by decide) (by decide))))
  have f_9 := ((F2.same W_2).other W_6 (Or.inr (slot_ne (Or.inl (w22 hw)) (Or.inl (w24 hw)) (by decide) (t := .int) (t' := .boolean) (by decide) (by decide))))
  refine Go.callP (S := []) (a := a) 50 [(.int nb)] d3_47 rfl rfl (w25 hw) (w26 hw) (w28 hw) (w27 hw) (w29 hw) (by decide) f_7 (call_of_go (R := _) (len := 3) (W := 0) (plainFor_of_name pn_0) (fun mid => ef_initw mid a nb m (0 : Int32) ) (c_initw hw a nb m (0 : Int32) f_7 n0a f_8 f_9 hm hm2) (w29 hw) (w16 hw) (by decide) (by decide)) (lenOf pd_1 rfl) (Nat.le_of_ble_eq_true rfl) rfl (Nat.le_of_ble_eq_true rfl) (Nat.le_of_ble_eq_true rfl) (fun _ q => q) (fun v h2 sf_10 hq => ?_)
  obtain ⟨rfl, K2, E2, G2, b, le_b, H2, A2⟩ := hq
  have lb : h0.size ≤ b := Nat.le_trans (((Keep.refl h0 [a]).wr W_2 (Or.inl (List.mem_of_getElem? (i := 0) rfl))).wr W_6 (Or.inl (List.mem_of_getElem? (i := 0) rfl))).1 le_b
  have ne_b : b ≠ a := Nat.ne_of_gt (Nat.lt_of_lt_of_le E.lt lb)
  refine Go.more (sf' := [a]) ?_ (Nat.le_refl _) (Nat.le_refl _) (fun _ q => List.mem_append_right _ q)
  show G_bsinit none l Z n0 a nb m h0 1 2 [a] h2 50 #[.val (.ref a), .val (.int nb)] []
  refine Go.aloadN 51 d3_50 rfl rfl rfl ?_
  refine Go.iconst 52 (1 : Int32) d3_51 rfl rfl ?_
  obtain ⟨o_11, fo_12⟩ := Fld.any H2 E2 (w15 hw) (Or.inl (w24 hw))
  refine Go.putF 55 (.int (1 : Int32)) d3_52 rfl (w23 hw) Via.refl fo_12 E2 (Or.inl (w24 hw)) (w15 hw) (ty := .boolean) (by decide) rfl rfl (List.mem_of_getElem? (i := 0) rfl) n0a (fun h_13 W_14 => ?_)
  have f_15 := (E2.wr W_14)
  have f_16 := (G2.other W_14 (Or.inr (slot_ne (Or.inl (w22 hw)) (Or.inl (w24 hw)) (by decide) (t := .int) (t' := .boolean) (by decide) (by decide))))
  have f_17 := (H2.other W_14 (Or.inr (slot_ne (Or.inl (w35 hw)) (Or.inl (w24 hw)) (by decide) (t := (.array .long)) (t' := .boolean) (by decide) (by decide))))
  have f_18 := (A2.other W_14 ne_b)
  exact Go.ret0 d3_55 rfl (sf' := []) (⟨rfl, (((((Keep.refl h0 [a]).wr W_2 (Or.inl (List.mem_of_getElem? (i := 0) rfl))).wr W_6 (Or.inl (List.mem_of_getElem? (i := 0) rfl))).trans K2 (allS (Or.inl (List.mem_of_getElem? (i := 0) rfl)) all0)).wr W_14 (Or.inl (List.mem_of_getElem? (i := 0) rfl))), f_15, f_16, b, lb, f_17, f_18⟩) (fun _ q => nomatch q) (Nat.le_of_ble_eq_true rfl) (Nat.le_of_ble_eq_true rfl)
abbrev G_ens (md : Md) (l : Launch) (Z : State) (n0 : Nat) (a b : Addr) (r : Int32) (vs : List Value) (h0 : Heap) := Go md l Z n0 ({ frames := 0, cells := 0, slots := 0, locals := 0 } : Room) jdk_92_method_14_code 3 none "java/util/BitSet" "ensureCapacity" (fun v h' _ => h0 = h' ∧ v = none)
theorem ef_ens (mid : MethodId) (a b : Addr) (r : Int32) (vs : List Value)  : entryFrame mid #[(.ref a), (.int r)] 3 = mkF mid 0 #[.val (.ref a), .val (.int r), .unset] [] := by first | (simp [entryFrame, mkF, argsToLocals, Value.category]; done) | rfl
set_option maxRecDepth 65536 in
set_option maxHeartbeats 40000000 in
theorem c_ens {md : Md} {l : Launch} {Z : State} {n0 : Nat} {a0 : Array Value} (hw : HW a0 Z) (a b : Addr) (r : Int32) (vs : List Value) {h0 : Heap} (F1 : Fld Z h0 a "java/util/BitSet" "words" "[J" (.ref b)) (A : Ary Z h0 b .long vs) (hle : ¬ Int32.ofNat vs.length < r) : G_ens md l Z n0 a b r vs h0 0 0 [] h0 0 #[.val (.ref a), .val (.int r), .unset] [] := by
  refine Go.aloadN 1 d8_0 rfl rfl rfl ?_
  refine Go.getF 4 d8_1 rfl (w34 hw) Via.refl F1 ?_
  refine Go.alen 5 (Int32.ofNat vs.length) d8_4 rfl A rfl ?_
  refine Go.iloadN 6 d8_5 rfl rfl ?_
  refine Go.icmpY 38 d8_6 (by decide) (by decide) (flt hle).2.1 ?_
  exact Go.ret0 d8_38 rfl (sf' := []) (⟨rfl, rfl⟩) (fun _ q => nomatch q) (Nat.le_of_ble_eq_true rfl) (Nat.le_of_ble_eq_true rfl)
abbrev G_exp (md : Md) (l : Launch) (Z : State) (n0 : Nat) (a b : Addr) (wd k : Int32) (vs : List Value) (h0 : Heap) := Go md l Z n0 ({ frames := 1, cells := 0, slots := 0, locals := 14 } : Room) jdk_92_method_15_code 3 none "java/util/BitSet" "expandTo" (fun v h' _ => v = none ∧ Keep h0 h' [a] ∧ Exa Z h' a "java/util/BitSet" ∧ Fld Z h' a "java/util/BitSet" "words" "[J" (.ref b) ∧ Fld Z h' a "java/util/BitSet" "wordsInUse" "I" (.int (if k < wd + (1 : Int32) then wd + (1 : Int32) else k)) ∧ Ary Z h' b .long vs)
theorem ef_exp (mid : MethodId) (a b : Addr) (wd k : Int32) (vs : List Value)  : entryFrame mid #[(.ref a), (.int wd)] 3 = mkF mid 0 #[.val (.ref a), .val (.int wd), .unset] [] := by first | (simp [entryFrame, mkF, argsToLocals, Value.category]; done) | rfl
set_option maxRecDepth 65536 in
set_option maxHeartbeats 40000000 in
theorem c_exp {l : Launch} {Z : State} {n0 : Nat} {a0 : Array Value} (hw : HW a0 Z) (a b : Addr) (wd k : Int32) (vs : List Value) {h0 : Heap} (E : Exa Z h0 a "java/util/BitSet") (n0a : n0 ≤ a) (nba : b ≠ a) (F1 : Fld Z h0 a "java/util/BitSet" "words" "[J" (.ref b)) (F2 : Fld Z h0 a "java/util/BitSet" "wordsInUse" "I" (.int k)) (A : Ary Z h0 b .long vs) (hle : ¬ Int32.ofNat vs.length < wd + (1 : Int32)) : G_exp none l Z n0 a b wd k vs h0 0 0 [a] h0 0 #[.val (.ref a), .val (.int wd), .unset] [] := by
  refine Go.iloadN 1 d7_0 rfl rfl ?_
  refine Go.iconst 2 (1 : Int32) d7_1 rfl rfl ?_
  refine Go.iadd 3 d7_2 rfl ?_
  refine Go.istoreN 4 #[.val (.ref a), .val (.int wd), .val (.int (wd + (1 : Int32)))] d7_3 rfl rfl ?_
  refine Go.aloadN 5 d7_4 rfl rfl rfl ?_
  refine Go.getF 8 d7_5 rfl (w21 hw) Via.refl F2 ?_
  refine Go.iloadN 9 d7_8 rfl rfl ?_
  by_cases hc9 : k < (wd + (1 : Int32))
  · skip
    refine Go.icmpN 12 d7_9 rfl (tlt hc9).2.1 ?_
    refine Go.aloadN 13 d7_12 rfl rfl rfl ?_
    refine Go.iloadN 14 d7_13 rfl rfl ?_
    refine Go.callP (S := []) (a := a) 17 [(.int (wd + (1 : Int32)))] d7_14 rfl rfl (w47 hw) (w48 hw) (w50 hw) (w49 hw) (w51 hw) (by decide) E (call_of_go (R := _) (len := 3) (W := 0) (plainFor_of_name pn_0) (fun mid => ef_ens mid a b (wd + (1 : Int32)) vs ) (c_ens hw a b (wd + (1 : Int32)) vs F1 A hle) (w51 hw) (w16 hw) (by decide) (by decide)) (lenOf pd_1 rfl) (Nat.le_of_ble_eq_true rfl) rfl (Nat.le_of_ble_eq_true rfl) (Nat.le_of_ble_eq_true rfl) (fun _ q => nomatch q) (fun v h_1 sf_2 hq => ?_)
    obtain ⟨rfl, rfl⟩ := hq
    refine Go.more (sf' := [a]) ?_ (Nat.le_refl _) (Nat.le_refl _) (fun _ q => List.mem_append_right _ q)
    show G_exp none l Z n0 a b wd k vs h0 0 0 [a] h0 17 #[.val (.ref a), .val (.int wd), .val (.int (wd + (1 : Int32)))] []
    refine Go.aloadN 18 d7_17 rfl rfl rfl ?_
    refine Go.iloadN 19 d7_18 rfl rfl ?_
    refine Go.putF 22 (.int (wd + (1 : Int32))) d7_19 rfl (w21 hw) Via.refl F2 E (Or.inl (w22 hw)) (w15 hw) (ty := .int) (by decide) rfl rfl (List.mem_of_getElem? (i := 0) rfl) n0a (fun h_3 W_4 => ?_)
    have f_5 := (E.wr W_4)
    have f_6 := (F1.other W_4 (Or.inr (slot_ne (Or.inl (w35 hw)) (Or.inl (w22 hw)) (by decide) (t := (.array .long)) (t' := .int) (by decide) (by decide))))
    have f_7 := (A.other W_4 nba)
    exact Go.ret0 d7_22 rfl (sf' := []) (⟨rfl, ((Keep.refl h0 [a]).wr W_4 (Or.inl (List.mem_of_getElem? (i := 0) rfl))), f_5, f_6, by rw [if_pos hc9]; exact (F2.same W_4), f_7⟩) (fun _ q => nomatch q) (Nat.le_of_ble_eq_true rfl) (Nat.le_of_ble_eq_true rfl)
  · skip
    refine Go.icmpY 22 d7_9 (by decide) (by decide) (flt hc9).2.1 ?_
    exact Go.ret0 d7_22 rfl (sf' := []) (⟨rfl, (Keep.refl h0 [a]), E, F1, by rw [if_neg hc9]; exact F2, A⟩) (fun _ q => nomatch q) (Nat.le_of_ble_eq_true rfl) (Nat.le_of_ble_eq_true rfl)
abbrev G_seti (md : Md) (l : Launch) (Z : State) (n0 : Nat) (a b : Addr) (i k : Int32) (us : List Int64) (q : Nat) (h0 : Heap) := Go md l Z n0 ({ frames := 2, cells := 0, slots := 0, locals := 28 } : Room) jdk_92_method_19_code 3 none "java/util/BitSet" "set" (fun v h' _ => v = none ∧ Keep h0 h' [a, b] ∧ Exa Z h' a "java/util/BitSet" ∧ Fld Z h' a "java/util/BitSet" "words" "[J" (.ref b) ∧ ∃ (k2 : Int32) (us2 : List Int64), us2.length = us.length ∧ Fld Z h' a "java/util/BitSet" "wordsInUse" "I" (.int k2) ∧ Ary Z h' b .long (us2.map Value.long))
theorem ef_seti (mid : MethodId) (a b : Addr) (i k : Int32) (us : List Int64) (q : Nat)  : entryFrame mid #[(.ref a), (.int i)] 3 = mkF mid 0 #[.val (.ref a), .val (.int i), .unset] [] := by first | (simp [entryFrame, mkF, argsToLocals, Value.category]; done) | rfl
set_option maxRecDepth 65536 in
set_option maxHeartbeats 40000000 in
theorem c_seti {l : Launch} {Z : State} {n0 : Nat} {a0 : Array Value} (hw : HW a0 Z) (a b : Addr) (i k : Int32) (us : List Int64) (q : Nat) {h0 : Heap} (E : Exa Z h0 a "java/util/BitSet") (n0a : n0 ≤ a) (nba : b ≠ a) (F1 : Fld Z h0 a "java/util/BitSet" "words" "[J" (.ref b)) (F2 : Fld Z h0 a "java/util/BitSet" "wordsInUse" "I" (.int k)) (A : Ary Z h0 b .long (us.map Value.long)) (n0b : n0 ≤ b) (hi : ¬ i < 0) (hq : (i >>> ((6 : Int32) &&& 31)).toInt = (q : Int)) (hq2 : q < us.length) (hl : us.length ≤ 2) (SA : Sta Z Z.heap "java/util/BitSet" "$assertionsDisabled" "Z" (.int 1)) : G_seti none l Z n0 a b i k us q h0 0 0 [a, b] h0 0 #[.val (.ref a), .val (.int i), .unset] [] := by
  refine Go.iloadN 1 d6_0 rfl rfl ?_
  refine Go.ifY 31 d6_1 (by decide) (by decide) (flt hi).2.1 ?_
  refine Go.iloadN 32 d6_31 rfl rfl ?_
  refine Go.callS (S := []) 35 [(.int i)] d6_32 rfl rfl (w30 hw) (w31 hw) (w16 hw) (w32 hw) (by decide) (call_of_go (R := _) (len := 3) (W := 0) (plainFor_of_name pn_0) (fun mid => ef_wi mid i ) (c_wi hw i ) (w32 hw) (w16 hw) (by decide) (by decide)) (lenOf pd_0 rfl) (Nat.le_of_ble_eq_true rfl) rfl (Nat.le_of_ble_eq_true rfl) (Nat.le_of_ble_eq_true rfl) (fun _ q => nomatch q) (fun v h_1 sf_2 hq => ?_)
  obtain ⟨rfl, rfl⟩ := hq
  refine Go.more (sf' := [a, b]) ?_ (Nat.le_refl _) (Nat.le_refl _) (fun _ q => List.mem_append_right _ q)
  show G_seti none l Z n0 a b i k us q h0 0 0 [a, b] h0 35 #[.val (.ref a), .val (.int i), .unset] [(.int (i >>> ((6 : Int32) &&& 31)))]
  refine Go.istoreN 36 #[.val (.ref a), .val (.int i), .val (.int (i >>> ((6 : Int32) &&& 31)))] d6_35 rfl rfl ?_
  refine Go.aloadN 37 d6_36 rfl rfl rfl ?_
  refine Go.iloadN 38 d6_37 rfl rfl ?_
  refine Go.callP (S := []) (a := a) 41 [(.int (i >>> ((6 : Int32) &&& 31)))] d6_38 rfl rfl (w42 hw) (w43 hw) (w45 hw) (w44 hw) (w46 hw) (by decide) E (call_of_go (R := _) (len := 3) (W := 0) (plainFor_of_name pn_0) (fun mid => ef_exp mid a b (i >>> ((6 : Int32) &&& 31)) k (us.map Value.long) ) (c_exp hw a b (i >>> ((6 : Int32) &&& 31)) k (us.map Value.long) E n0a nba F1 F2 A (not_ens hq (by simpa using hq2) (by simp; omega))) (w46 hw) (w16 hw) (by decide) (by decide)) (lenOf pd_1 rfl) (Nat.le_of_ble_eq_true rfl) rfl (Nat.le_of_ble_eq_true rfl) (Nat.le_of_ble_eq_true rfl) (sub1 (List.mem_of_getElem? (i := 0) rfl)) (fun v h2 sf_3 hq => ?_)
  obtain ⟨rfl, K2, E2, G1, G2, A2⟩ := hq
  refine Go.more (sf' := [a, b]) ?_ (Nat.le_refl _) (Nat.le_refl _) (fun _ q => List.mem_append_right _ q)
  show G_seti none l Z n0 a b i k us q h0 0 0 [a, b] h2 41 #[.val (.ref a), .val (.int i), .val (.int (i >>> ((6 : Int32) &&& 31)))] []
  refine Go.aloadN 42 d6_41 rfl rfl rfl ?_
  refine Go.getF 45 d6_42 rfl (w34 hw) Via.refl G1 ?_
  refine Go.iloadN 46 d6_45 rfl rfl ?_
  refine Go.dup2 47 d6_46 rfl rfl rfl ?_
  obtain ⟨u0, hu0⟩ := at_long hq2
  refine Go.laload q 48 d6_47 rfl A2 hq hu0 ?_
  refine Go.lconst 49 (1 : Int64) d6_48 rfl rfl ?_
  refine Go.iloadN 50 d6_49 rfl rfl ?_
  refine Go.lshl 51 d6_50 rfl ?_
  refine Go.lor 52 d6_51 rfl ?_
  refine Go.lastore q 53 d6_52 rfl A2 hq (by simpa using hq2) (List.mem_of_getElem? (i := 1) rfl) n0b (fun h3 W3 A3 => ?_)
  have A4 : Ary Z h3 b .long ((us.set q (u0 ||| ((1 : Int64) <<< (i &&& 0x3f).toInt64))).map Value.long) := by rw [List.map_set]; exact A3
  refine Go.aloadN 54 d6_53 rfl rfl rfl ?_
  have f_6 := (E2.wr W3)
  refine Go.callP (S := []) (a := a) 57 [] d6_54 rfl rfl (w52 hw) (w53 hw) (w55 hw) (w54 hw) (w56 hw) (by decide) f_6 (call_of_go (R := _) (len := 3) (W := 0) (plainFor_of_name pn_0) (fun mid => ef_ci mid a ) (c_ci hw a SA) (w56 hw) (w16 hw) (by decide) (by decide)) (lenOf pd_2 rfl) (Nat.le_of_ble_eq_true rfl) rfl (Nat.le_of_ble_eq_true rfl) (Nat.le_of_ble_eq_true rfl) (fun _ q => nomatch q) (fun v h_4 sf_5 hq => ?_)
  obtain ⟨rfl, rfl⟩ := hq
  refine Go.more (sf' := [a, b]) ?_ (Nat.le_refl _) (Nat.le_refl _) (fun _ q => List.mem_append_right _ q)
  show G_seti none l Z n0 a b i k us q h0 0 0 [a, b] h3 57 #[.val (.ref a), .val (.int i), .val (.int (i >>> ((6 : Int32) &&& 31)))] []
  have f_7 := (G1.other W3 (Or.inl (Ne.symm nba)))
  have f_8 := (G2.other W3 (Or.inl (Ne.symm nba)))
  exact Go.ret0 d6_57 rfl (sf' := []) (⟨rfl, (((Keep.refl h0 [a, b]).trans K2 (allS (Or.inl (List.mem_of_getElem? (i := 0) rfl)) all0)).wr W3 (Or.inl (List.mem_of_getElem? (i := 1) rfl))), f_6, f_7, _, _, List.length_set, f_8, A4⟩) (fun _ q => nomatch q) (Nat.le_of_ble_eq_true rfl) (Nat.le_of_ble_eq_true rfl)
abbrev G_tabinit (md : Md) (l : Launch) (Z : State) (n0 : Nat) (a : Addr) (n vc : Int32) (nn m : Nat) (h0 : Heap) := Go md l Z n0 ({ frames := 3, cells := 15, slots := 42, locals := 42 } : Room) prog_8_method_1_code 5 none "com/example/petrel/petrel/HoaLabel$Tables" "<init>" (fun v h' _ => v = none ∧ Keep h0 h' [a] ∧ Exa Z h' a "com/example/petrel/petrel/HoaLabel$Tables" ∧ Fld Z h' a "com/example/petrel/petrel/HoaLabel$Tables" "valuationCount" "I" (.int vc))
theorem ef_tabinit (mid : MethodId) (a : Addr) (n vc : Int32) (nn m : Nat)  : entryFrame mid #[(.ref a), (.int n), .null] 5 = mkF mid 0 #[.val (.ref a), .val (.int n), .val .null, .unset, .unset] [] := by first | (simp [entryFrame, mkF, argsToLocals, Value.category]; done) | rfl
set_option maxRecDepth 65536 in
set_option maxHeartbeats 40000000 in
theorem c_tabinit {l : Launch} {Z : State} {n0 : Nat} {a0 : Array Value} (hw : HW a0 Z) (a : Addr) (n vc : Int32) (nn m : Nat) {h0 : Heap} (E : Exa Z h0 a "com/example/petrel/petrel/HoaLabel$Tables") (n0a : n0 ≤ a) {u1 : Value} (F1 : Fld Z h0 a "com/example/petrel/petrel/HoaLabel$Tables" "valuationCount" "I" u1) (hn : n.toInt = (nn : Int)) (hn7 : nn ≤ 7) (hvc : ((1 : Int32) <<< (n &&& 31)) = vc) (hv0 : 0 ≤ vc.toInt) (hv1 : vc.toInt ≤ 8000) (hm : (((vc - (1 : Int32)) >>> ((6 : Int32) &&& 31)) + (1 : Int32)).toInt = (m : Int)) (hm2 : m ≤ 2) (hj : ∀ j : Int32, 0 ≤ j.toInt → j.toInt < vc.toInt → ∃ q : Nat, (j >>> ((6 : Int32) &&& 31)).toInt = (q : Int) ∧ q < m) (SA : Sta Z Z.heap "java/util/BitSet" "$assertionsDisabled" "Z" (.int 1)) : G_tabinit none l Z n0 a n vc nn m h0 0 0 [a] h0 0 #[.val (.ref a), .val (.int n), .val .null, .unset, .unset] [] := by
  refine Go.aloadN 1 d1_0 rfl rfl rfl ?_
  refine Go.initO (W := 0) 4 d1_1 rfl (w6 hw) (w7 hw) (w8 hw) rfl (by decide) (Nat.le_of_ble_eq_true rfl) (by decide) ?_
  refine Go.aloadN 5 d1_4 rfl rfl rfl ?_
  refine Go.iconst 6 (1 : Int32) d1_5 rfl rfl ?_
  refine Go.iloadN 7 d1_6 rfl rfl ?_
  refine Go.ishl 8 d1_7 rfl ?_
  rw [hvc]
  show G_tabinit none l Z n0 a n vc nn m h0 0 0 [a] h0 8 #[.val (.ref a), .val (.int n), .val .null, .unset, .unset] [(.int vc), (.ref a)]
  refine Go.putF 11 (.int vc) d1_8 rfl (w9 hw) Via.refl F1 E (Or.inr ⟨(w10 hw), rfl, rfl⟩) (w1 hw) (ty := .int) (by decide) rfl rfl (List.mem_of_getElem? (i := 0) rfl) n0a (fun h_1 W_2 => ?_)
  refine Go.aloadN 12 d1_11 rfl rfl rfl ?_
  refine Go.iloadN 13 d1_12 rfl rfl ?_
  refine Go.newR nn 16 d1_13 rfl (w11 hw) (w12 hw) hn 7 hn7 (by decide) (Nat.le_of_ble_eq_true rfl) (Nat.le_of_ble_eq_true rfl) (fun h_3 r g_r q_r E_4 lt_r A_r O_r => ?_)
  show G_tabinit none l Z n0 a n vc nn m h0 1 7 [r, a] h_3 16 #[.val (.ref a), .val (.int n), .val .null, .unset, .unset] [(.ref r), (.ref a)]
  have lea_r : h0.size ≤ r := Nat.le_trans ((Keep.refl h0 [a]).wr W_2 (Or.inl (List.mem_of_getElem? (i := 0) rfl))).1 (Nat.le_of_eq g_r)
  have ne_ra : r ≠ a := Nat.ne_of_gt (Nat.lt_of_lt_of_le E.lt lea_r)
  have f_5 := ((E.wr W_2).ext E_4)
  have f_6 := (F1.same W_2).ext E_4
  obtain ⟨o_7, fo_8⟩ := Fld.any f_6 f_5 (w1 hw) (Or.inr (w14 hw))
  refine Go.putF 19 (.ref r) d1_16 rfl (w13 hw) Via.refl fo_8 f_5 (Or.inr ⟨(w14 hw), rfl, rfl⟩) (w1 hw) (ty := (.array (.object "java/util/BitSet"))) (by decide) rfl rfl (List.mem_of_getElem? (i := 1) rfl) n0a (fun h_9 W_10 => ?_)
  refine Go.iconst 20 (0 : Int32) d1_19 rfl rfl ?_
  refine Go.istoreN 21 #[.val (.ref a), .val (.int n), .val .null, .val (.int (0 : Int32)), .unset] d1_20 rfl rfl ?_
  have f_11 := (f_5.wr W_10)
  have f_12 := (f_6.other W_10 (Or.inr (slot_ne (Or.inr (w10 hw)) (Or.inr (w14 hw)) (by decide) (t := .int) (t' := (.array (.object "java/util/BitSet"))) (by decide) (by decide))))
  have f_13 := (A_r.other W_10 ne_ra)
  have f_14 := (O_r.wr W_10)
  have out0 : ∀ (h : Heap) (i : Int32) (s4 : Slot) (vs : List Value) (hi : i.toInt + 0 = n.toInt) (hi0 : 0 ≤ i.toInt) (hs4 : ∀ i : Int32, storeLocals #[.val (.ref a), .val (.int n), .val .null, .val (.int i), s4] 4 (.int 0) = some #[.val (.ref a), .val (.int n), .val .null, .val (.int i), .val (.int 0)]) (K0 : Keep h0 h [a]) (Ea : Exa Z h a "com/example/petrel/petrel/HoaLabel$Tables") (Fv : Fld Z h a "com/example/petrel/petrel/HoaLabel$Tables" "valuationCount" "I" (.int vc)) (Fa : Fld Z h a "com/example/petrel/petrel/HoaLabel$Tables" "aps" "[Ljava/util/BitSet;" (.ref r)) (Ar : Ary Z h r (.object "java/util/BitSet") vs) (lr : vs.length = nn) (Or_ : Ova Z h r "java/util/BitSet"), G_tabinit none l Z n0 a n vc nn m h0 15 42 [] h 21 #[.val (.ref a), .val (.int n), .val .null, .val (.int i), s4] [] := by
    intro h i s4 vs hi hi0 hs4 K0 Ea Fv Fa Ar lr Or_
    refine Go.iloadN 22 d1_21 rfl rfl ?_
    refine Go.iloadN 23 d1_22 rfl rfl ?_
    refine Go.icmpY 87 d1_23 (by decide) (by decide) (flt (fun z => by have := toInt_lt.mp z; omega)).2.1 ?_
    refine Go.aloadN 88 d1_87 rfl rfl rfl ?_
    refine Go.aloadN 89 d1_88 rfl rfl rfl ?_
    obtain ⟨o_15, fo_16⟩ := Fld.any Fv Ea (w1 hw) (Or.inr (w59 hw))
    refine Go.sfN [a] ?_
    refine Go.putF 92 .null d1_89 rfl (w58 hw) Via.refl fo_16 Ea (Or.inr ⟨(w59 hw), rfl, rfl⟩) (w1 hw) (ty := (.object "java/util/Map")) (by decide) rfl rfl (List.mem_of_getElem? (i := 0) rfl) n0a (fun h_17 W_18 => ?_)
    have f_19 := (Ea.wr W_18)
    have f_20 := (Fv.other W_18 (Or.inr (slot_ne (Or.inr (w10 hw)) (Or.inr (w59 hw)) (by decide) (t := .int) (t' := (.object "java/util/Map")) (by decide) (by decide))))
    exact Go.ret0 d1_92 rfl (sf' := []) (⟨rfl, (K0.wr W_18 (Or.inl (List.mem_of_getElem? (i := 0) rfl))), f_19, f_20⟩) (fun _ q => nomatch q) (Nat.le_of_ble_eq_true rfl) (Nat.le_of_ble_eq_true rfl)
  have out1 : ∀ (h : Heap) (i : Int32) (s4 : Slot) (vs : List Value) (hi : i.toInt + 1 = n.toInt) (hi0 : 0 ≤ i.toInt) (hs4 : ∀ i : Int32, storeLocals #[.val (.ref a), .val (.int n), .val .null, .val (.int i), s4] 4 (.int 0) = some #[.val (.ref a), .val (.int n), .val .null, .val (.int i), .val (.int 0)]) (K0 : Keep h0 h [a]) (Ea : Exa Z h a "com/example/petrel/petrel/HoaLabel$Tables") (Fv : Fld Z h a "com/example/petrel/petrel/HoaLabel$Tables" "valuationCount" "I" (.int vc)) (Fa : Fld Z h a "com/example/petrel/petrel/HoaLabel$Tables" "aps" "[Ljava/util/BitSet;" (.ref r)) (Ar : Ary Z h r (.object "java/util/BitSet") vs) (lr : vs.length = nn) (Or_ : Ova Z h r "java/util/BitSet"), G_tabinit none l Z n0 a n vc nn m h0 13 37 [] h 21 #[.val (.ref a), .val (.int n), .val .null, .val (.int i), s4] [] := by
    intro h i s4 vs hi hi0 hs4 K0 Ea Fv Fa Ar lr Or_
    refine Go.iloadN 22 d1_21 rfl rfl ?_
    refine Go.iloadN 23 d1_22 rfl rfl ?_
    refine Go.icmpN 26 d1_23 rfl (tlt (toInt_lt.mpr (by omega))).2.1 ?_
    refine Go.aloadN 27 d1_26 rfl rfl rfl ?_
    refine Go.getF 30 d1_27 rfl (w13 hw) Via.refl Fa ?_
    refine Go.iloadN 31 d1_30 rfl rfl ?_
    refine Go.new 34 d1_31 rfl (w11 hw) (w15 hw) (w16 hw) (Nat.le_of_ble_eq_true rfl) (Nat.le_of_ble_eq_true rfl) (fun h_21 x_22 g_23 q_24 E_25 lt_26 A_27 D_28 => ?_)
    show G_tabinit none l Z n0 a n vc nn m h0 14 40 [x_22] h_21 34 #[.val (.ref a), .val (.int n), .val .null, .val (.int i), s4] [(.ref x_22), (.int i), (.ref r)]
    obtain ⟨x, rfl⟩ : ∃ y_ : Addr, y_ = x_22 := ⟨_, rfl⟩
    have lt_x := A_27.lt
    have sx : h.size ≤ x := Nat.le_of_eq g_23
    have lex0 : h0.size ≤ x := Nat.le_trans K0.1 sx
    have nxr : x ≠ r := Nat.ne_of_gt (Nat.lt_of_lt_of_le Ar.lt sx)
    have nxa : x ≠ a := Nat.ne_of_gt (Nat.lt_of_lt_of_le Ea.lt sx)
    show G_tabinit none l Z n0 a n vc nn m h0 14 40 [x] h_21 34 #[.val (.ref a), .val (.int n), .val .null, .val (.int i), s4] [(.ref x), (.int i), (.ref r)]
    refine Go.dup 35 d1_34 rfl rfl ?_
    refine Go.aloadN 36 d1_35 rfl rfl rfl ?_
    have f_29 := Fv.ext E_25
    refine Go.getF 39 d1_36 rfl (w9 hw) Via.refl f_29 ?_
    refine Go.old fun _ nq => ?_
    refine Go.callC (S := [(.ref x), (.int i), (.ref r)]) (a := x) 42 [(.int vc)] d1_39 rfl rfl rfl (w17 hw) (w18 hw) (w19 hw) (by decide) (call_of_go (R := _) (len := 3) (W := 3) (plainFor_of_name pn_0) (fun mid => ef_bsinit mid x vc m ) (c_bsinit hw x vc m A_27 q_24 (D_28 (Or.inl (w35 hw)) (ty := (.array .long)) (by decide)) (D_28 (Or.inl (w22 hw)) (ty := .int) (by decide)) (D_28 (Or.inl (w24 hw)) (ty := .boolean) (by decide)) (not_neg hv0) hm hm2) (w19 hw) (w16 hw) (by decide) (by decide)) (lenOf pd_1 rfl) (Nat.le_of_ble_eq_true rfl) rfl (Nat.le_of_ble_eq_true rfl) (Nat.le_of_ble_eq_true rfl) (fun _ q => q) (fun v hb sf_30 hq => ?_)
    obtain ⟨rfl, Kb, Ex, Fu, b, le_b, Fw, Ab⟩ := hq
    have n0b := Nat.le_trans nq le_b
    have nbx : b ≠ x := Nat.ne_of_gt (Nat.lt_of_lt_of_le lt_x le_b)
    have leb0 : h0.size ≤ b := Nat.le_trans lex0 (Nat.le_of_lt (Nat.lt_of_lt_of_le lt_x le_b))
    have nbr : b ≠ r := Nat.ne_of_gt (Nat.lt_of_lt_of_le (Ar.lt) (Nat.le_trans sx (Nat.le_of_lt (Nat.lt_of_lt_of_le lt_x le_b))))
    have nba : b ≠ a := Nat.ne_of_gt (Nat.lt_of_lt_of_le (Ea.lt) (Nat.le_trans sx (Nat.le_of_lt (Nat.lt_of_lt_of_le lt_x le_b))))
    refine Go.more (sf' := [x]) ?_ (Nat.le_refl _) (Nat.le_refl _) (fun _ q => List.mem_append_right _ q)
    show G_tabinit none l Z n0 a n vc nn m h0 15 42 [x] hb 42 #[.val (.ref a), .val (.int n), .val .null, .val (.int i), s4] [(.ref x), (.int i), (.ref r)]
    have X_31 : Ext h hb := extK E_25 Kb (allS (Nat.le_of_eq g_23) all0)
    have f_32 := Ar.ext X_31
    have f_33 := Or_.ext X_31
    refine Go.sfN [r, x] ?_
    refine Go.aastore i.toInt.toNat 43 d1_42 rfl f_32 (by omega) (by omega) (sto_of f_32 f_33 (Ins.self Ex)) rfl (List.mem_of_getElem? (i := 0) rfl) q_r (fun hs Ws As => ?_)
    refine Go.iconst 44 (0 : Int32) d1_43 rfl rfl ?_
    refine Go.istore 46 #[.val (.ref a), .val (.int n), .val .null, .val (.int i), .val (.int (0 : Int32))] d1_44 rfl (hs4 i) ?_
    have inn : ∀ (dd : Nat) (hj_ : Heap) (j k : Int32) (us : List Int64) (hjd : j.toInt + (dd : Int) = vc.toInt) (hj0 : 0 ≤ j.toInt) (lus : us.length = m) (K0 : Keep h0 hj_ [a]) (Ea : Exa Z hj_ a "com/example/petrel/petrel/HoaLabel$Tables") (Fv : Fld Z hj_ a "com/example/petrel/petrel/HoaLabel$Tables" "valuationCount" "I" (.int vc)) (Fa : Fld Z hj_ a "com/example/petrel/petrel/HoaLabel$Tables" "aps" "[Ljava/util/BitSet;" (.ref r)) (Ar : Ary Z hj_ r (.object "java/util/BitSet") (vs.set i.toInt.toNat (.ref x))) (Or_ : Ova Z hj_ r "java/util/BitSet") (Ex : Exa Z hj_ x "java/util/BitSet") (Fw : Fld Z hj_ x "java/util/BitSet" "words" "[J" (.ref b)) (Fu : Fld Z hj_ x "java/util/BitSet" "wordsInUse" "I" (.int k)) (Ab : Ary Z hj_ b .long (us.map Value.long)), G_tabinit none l Z n0 a n vc nn m h0 15 42 [] hj_ 46 #[.val (.ref a), .val (.int n), .val .null, .val (.int i), .val (.int j)] [] := by
      intro dd
      induction dd with
      | zero =>
        intro hj_ j k us hjd hj0 lus K0 Ea Fv Fa Ar Or_ Ex Fw Fu Ab
        refine Go.iload 48 d1_46 rfl rfl ?_
        refine Go.aloadN 49 d1_48 rfl rfl rfl ?_
        refine Go.getF 52 d1_49 rfl (w9 hw) Via.refl Fv ?_
        refine Go.icmpY 81 d1_52 (by decide) (by decide) (flt (fun z => by have := toInt_lt.mp z; omega)).2.1 ?_
        refine Go.iinc 84 #[.val (.ref a), .val (.int n), .val .null, .val (.int (i + (1 : Int32))), .val (.int j)] (1 : Int32) d1_81 rfl rfl rfl rfl ?_
        refine Go.goto 21 d1_84 (by decide) (by decide) ?_
        refine Go.more (cells' := 15) (slots' := 42) (sf' := []) ?_ (Nat.le_of_ble_eq_true rfl) (Nat.le_of_ble_eq_true rfl) (fun _ q => nomatch q)
        exact out0 _ _ _ _ (by rw [inc_nat (by omega) (by omega)]; omega) (by rw [inc_nat (by omega) (by omega)]; omega) (fun _ => rfl) K0 Ea Fv Fa Ar (by rw [List.length_set]; exact lr) Or_
      | succ dd ih =>
        intro hj_ j k us hjd hj0 lus K0 Ea Fv Fa Ar Or_ Ex Fw Fu Ab
        refine Go.iload 48 d1_46 rfl rfl ?_
        refine Go.aloadN 49 d1_48 rfl rfl rfl ?_
        refine Go.getF 52 d1_49 rfl (w9 hw) Via.refl Fv ?_
        refine Go.icmpN 55 d1_52 rfl (tlt (toInt_lt.mpr (by omega))).2.1 ?_
        refine Go.iload 57 d1_55 rfl rfl ?_
        refine Go.iloadN 58 d1_57 rfl rfl ?_
        refine Go.ishr 59 d1_58 rfl ?_
        refine Go.iconst 60 (1 : Int32) d1_59 rfl rfl ?_
        refine Go.iand 61 d1_60 rfl ?_
        by_cases hc61 : ((j >>> (i &&& 31)) &&& (1 : Int32)) = (0 : Int32)
        · skip
          refine Go.ifY 75 d1_61 (by decide) (by decide) (teq hc61).1 ?_
          refine Go.iinc 78 #[.val (.ref a), .val (.int n), .val .null, .val (.int i), .val (.int (j + (1 : Int32)))] (1 : Int32) d1_75 rfl rfl rfl rfl ?_
          refine Go.goto 46 d1_78 (by decide) (by decide) ?_
          refine Go.sfN [] ?_
          exact ih _ _ _ _ (by rw [inc_nat (by omega) (by omega)]; omega) (by rw [inc_nat (by omega) (by omega)]; omega) lus K0 Ea Fv Fa Ar Or_ Ex Fw Fu Ab
        · skip
          refine Go.ifN 64 d1_61 rfl (feq hc61).1 ?_
          refine Go.aloadN 65 d1_64 rfl rfl rfl ?_
          refine Go.getF 68 d1_65 rfl (w13 hw) Via.refl Fa ?_
          refine Go.iloadN 69 d1_68 rfl rfl ?_
          refine Go.aaload i.toInt.toNat 70 d1_69 rfl rfl Ar (by omega) (List.getElem?_set_self (by omega)) ?_
          refine Go.iload 72 d1_70 rfl rfl ?_
          obtain ⟨q, hq1, hq2⟩ := hj j (by omega) (by omega)
          refine Go.sfN [x, b] ?_
          refine Go.callV (S := []) (a := x) 75 [(.int j)] d1_72 rfl rfl (w37 hw) (w38 hw) (w40 hw) (w39 hw) (fun _ q => notFace_of_selects (args := #[]) (mvT q (w40 hw))) (by decide) Ex (call_of_go (R := _) (len := 3) (W := 0) (plainFor_of_name pn_0) (fun mid => ef_seti mid x b j k us q ) (c_seti hw x b j k us q Ex q_24 nbx Fw Fu Ab n0b (not_neg (by omega)) hq1 (by omega) (by omega) SA) (w41 hw) (w16 hw) (by decide) (by decide)) (lenOf pd_1 rfl) (Nat.le_of_ble_eq_true rfl) rfl (Nat.le_of_ble_eq_true rfl) (Nat.le_of_ble_eq_true rfl) (fun _ q => q) (fun v hi sf_34 hq => ?_)
          obtain ⟨rfl, Ki, Ei, Fwi, k2, us2, lu2, Fui, Ai⟩ := hq
          refine Go.more (sf' := [x, b]) ?_ (Nat.le_refl _) (Nat.le_refl _) (fun _ q => List.mem_append_right _ q)
          show G_tabinit none l Z n0 a n vc nn m h0 15 42 [x, b] hi 75 #[.val (.ref a), .val (.int n), .val .null, .val (.int i), .val (.int j)] []
          refine Go.iinc 78 #[.val (.ref a), .val (.int n), .val .null, .val (.int i), .val (.int (j + (1 : Int32)))] (1 : Int32) d1_75 rfl rfl rfl rfl ?_
          refine Go.goto 46 d1_78 (by decide) (by decide) ?_
          have f_35 := (Ea.keep Ki)
          have f_36 := (Fv.keep Ki (ninS (Ne.symm nxa) (ninS (Ne.symm nba) nin0)))
          have f_37 := (Fa.keep Ki (ninS (Ne.symm nxa) (ninS (Ne.symm nba) nin0)))
          have f_38 := (Ary.keep Ki Ar (ninS (Ne.symm nxr) (ninS (Ne.symm nbr) nin0)))
          have f_39 := (Or_.keep Ki)
          refine Go.sfN [] ?_
          exact ih _ _ _ _ (by rw [inc_nat (by omega) (by omega)]; omega) (by rw [inc_nat (by omega) (by omega)]; omega) (lu2.trans lus) (K0.trans Ki (allS (Or.inr lex0) (allS (Or.inr leb0) all0))) f_35 f_36 f_37 f_38 f_39 Ei Fwi Fui Ai
    have f_40 := (((Ea.ext E_25).keep Kb).wr Ws)
    have f_41 := ((f_29.keep Kb (ninS (Ne.symm nxa) nin0)).other Ws (Or.inl (Ne.symm ne_ra)))
    have f_42 := (((Fa.ext E_25).keep Kb (ninS (Ne.symm nxa) nin0)).other Ws (Or.inl (Ne.symm ne_ra)))
    have f_43 := (f_33.wr Ws)
    have f_44 := (Ex.wr Ws)
    have f_45 := (Fw.other Ws (Or.inl nxr))
    have f_46 := (Fu.other Ws (Or.inl nxr))
    have f_47 := (Ab.other Ws nbr)
    have Ab0 : Ary Z hs b .long ((List.replicate m (0 : Int64)).map Value.long) := by rw [List.map_replicate]; exact f_47
    refine Go.sfN [] ?_
    exact inn vc.toInt.toNat _ (0 : Int32) _ _ (by have e : (0 : Int32).toInt = 0 := rfl; omega) (by decide) List.length_replicate (((K0.ext E_25).trans Kb (allS (Or.inr lex0) all0)).wr Ws (Or.inr lea_r)) f_40 f_41 f_42 As f_43 f_44 f_45 f_46 Ab0
  have out2 : ∀ (h : Heap) (i : Int32) (s4 : Slot) (vs : List Value) (hi : i.toInt + 2 = n.toInt) (hi0 : 0 ≤ i.toInt) (hs4 : ∀ i : Int32, storeLocals #[.val (.ref a), .val (.int n), .val .null, .val (.int i), s4] 4 (.int 0) = some #[.val (.ref a), .val (.int n), .val .null, .val (.int i), .val (.int 0)]) (K0 : Keep h0 h [a]) (Ea : Exa Z h a "com/example/petrel/petrel/HoaLabel$Tables") (Fv : Fld Z h a "com/example/petrel/petrel/HoaLabel$Tables" "valuationCount" "I" (.int vc)) (Fa : Fld Z h a "com/example/petrel/petrel/HoaLabel$Tables" "aps" "[Ljava/util/BitSet;" (.ref r)) (Ar : Ary Z h r (.object "java/util/BitSet") vs) (lr : vs.length = nn) (Or_ : Ova Z h r "java/util/BitSet"), G_tabinit none l Z n0 a n vc nn m h0 11 32 [] h 21 #[.val (.ref a), .val (.int n), .val .null, .val (.int i), s4] [] := by
    intro h i s4 vs hi hi0 hs4 K0 Ea Fv Fa Ar lr Or_
    refine Go.iloadN 22 d1_21 rfl rfl ?_
    refine Go.iloadN 23 d1_22 rfl rfl ?_
    refine Go.icmpN 26 d1_23 rfl (tlt (toInt_lt.mpr (by omega))).2.1 ?_
    refine Go.aloadN 27 d1_26 rfl rfl rfl ?_
    refine Go.getF 30 d1_27 rfl (w13 hw) Via.refl Fa ?_
    refine Go.iloadN 31 d1_30 rfl rfl ?_
    refine Go.new 34 d1_31 rfl (w11 hw) (w15 hw) (w16 hw) (Nat.le_of_ble_eq_true rfl) (Nat.le_of_ble_eq_true rfl) (fun h_48 x_49 g_50 q_51 E_52 lt_53 A_54 D_55 => ?_)
    show G_tabinit none l Z n0 a n vc nn m h0 12 35 [x_49] h_48 34 #[.val (.ref a), .val (.int n), .val .null, .val (.int i), s4] [(.ref x_49), (.int i), (.ref r)]
    obtain ⟨x, rfl⟩ : ∃ y_ : Addr, y_ = x_49 := ⟨_, rfl⟩
    have lt_x := A_54.lt
    have sx : h.size ≤ x := Nat.le_of_eq g_50
    have lex0 : h0.size ≤ x := Nat.le_trans K0.1 sx
    have nxr : x ≠ r := Nat.ne_of_gt (Nat.lt_of_lt_of_le Ar.lt sx)
    have nxa : x ≠ a := Nat.ne_of_gt (Nat.lt_of_lt_of_le Ea.lt sx)
    show G_tabinit none l Z n0 a n vc nn m h0 12 35 [x] h_48 34 #[.val (.ref a), .val (.int n), .val .null, .val (.int i), s4] [(.ref x), (.int i), (.ref r)]
    refine Go.dup 35 d1_34 rfl rfl ?_
    refine Go.aloadN 36 d1_35 rfl rfl rfl ?_
    have f_56 := Fv.ext E_52
    refine Go.getF 39 d1_36 rfl (w9 hw) Via.refl f_56 ?_
    refine Go.old fun _ nq => ?_
    refine Go.callC (S := [(.ref x), (.int i), (.ref r)]) (a := x) 42 [(.int vc)] d1_39 rfl rfl rfl (w17 hw) (w18 hw) (w19 hw) (by decide) (call_of_go (R := _) (len := 3) (W := 3) (plainFor_of_name pn_0) (fun mid => ef_bsinit mid x vc m ) (c_bsinit hw x vc m A_54 q_51 (D_55 (Or.inl (w35 hw)) (ty := (.array .long)) (by decide)) (D_55 (Or.inl (w22 hw)) (ty := .int) (by decide)) (D_55 (Or.inl (w24 hw)) (ty := .boolean) (by decide)) (not_neg hv0) hm hm2) (w19 hw) (w16 hw) (by decide) (by decide)) (lenOf pd_1 rfl) (Nat.le_of_ble_eq_true rfl) rfl (Nat.le_of_ble_eq_true rfl) (Nat.le_of_ble_eq_true rfl) (fun _ q => q) (fun v hb sf_57 hq => ?_)
    obtain ⟨rfl, Kb, Ex, Fu, b, le_b, Fw, Ab⟩ := hq
    have n0b := Nat.le_trans nq le_b
    have nbx : b ≠ x := Nat.ne_of_gt (Nat.lt_of_lt_of_le lt_x le_b)
    have leb0 : h0.size ≤ b := Nat.le_trans lex0 (Nat.le_of_lt (Nat.lt_of_lt_of_le lt_x le_b))
    have nbr : b ≠ r := Nat.ne_of_gt (Nat.lt_of_lt_of_le (Ar.lt) (Nat.le_trans sx (Nat.le_of_lt (Nat.lt_of_lt_of_le lt_x le_b))))
    have nba : b ≠ a := Nat.ne_of_gt (Nat.lt_of_lt_of_le (Ea.lt) (Nat.le_trans sx (Nat.le_of_lt (Nat.lt_of_lt_of_le lt_x le_b))))
    refine Go.more (sf' := [x]) ?_ (Nat.le_refl _) (Nat.le_refl _) (fun _ q => List.mem_append_right _ q)
    show G_tabinit none l Z n0 a n vc nn m h0 13 37 [x] hb 42 #[.val (.ref a), .val (.int n), .val .null, .val (.int i), s4] [(.ref x), (.int i), (.ref r)]
    have X_58 : Ext h hb := extK E_52 Kb (allS (Nat.le_of_eq g_50) all0)
    have f_59 := Ar.ext X_58
    have f_60 := Or_.ext X_58
    refine Go.sfN [r, x] ?_
    refine Go.aastore i.toInt.toNat 43 d1_42 rfl f_59 (by omega) (by omega) (sto_of f_59 f_60 (Ins.self Ex)) rfl (List.mem_of_getElem? (i := 0) rfl) q_r (fun hs Ws As => ?_)
    refine Go.iconst 44 (0 : Int32) d1_43 rfl rfl ?_
    refine Go.istore 46 #[.val (.ref a), .val (.int n), .val .null, .val (.int i), .val (.int (0 : Int32))] d1_44 rfl (hs4 i) ?_
    have inn : ∀ (dd : Nat) (hj_ : Heap) (j k : Int32) (us : List Int64) (hjd : j.toInt + (dd : Int) = vc.toInt) (hj0 : 0 ≤ j.toInt) (lus : us.length = m) (K0 : Keep h0 hj_ [a]) (Ea : Exa Z hj_ a "com/example/petrel/petrel/HoaLabel$Tables") (Fv : Fld Z hj_ a "com/example/petrel/petrel/HoaLabel$Tables" "valuationCount" "I" (.int vc)) (Fa : Fld Z hj_ a "com/example/petrel/petrel/HoaLabel$Tables" "aps" "[Ljava/util/BitSet;" (.ref r)) (Ar : Ary Z hj_ r (.object "java/util/BitSet") (vs.set i.toInt.toNat (.ref x))) (Or_ : Ova Z hj_ r "java/util/BitSet") (Ex : Exa Z hj_ x "java/util/BitSet") (Fw : Fld Z hj_ x "java/util/BitSet" "words" "[J" (.ref b)) (Fu : Fld Z hj_ x "java/util/BitSet" "wordsInUse" "I" (.int k)) (Ab : Ary Z hj_ b .long (us.map Value.long)), G_tabinit none l Z n0 a n vc nn m h0 13 37 [] hj_ 46 #[.val (.ref a), .val (.int n), .val .null, .val (.int i), .val (.int j)] [] := by
      intro dd
      induction dd with
      | zero =>
        intro hj_ j k us hjd hj0 lus K0 Ea Fv Fa Ar Or_ Ex Fw Fu Ab
        refine Go.iload 48 d1_46 rfl rfl ?_
        refine Go.aloadN 49 d1_48 rfl rfl rfl ?_
        refine Go.getF 52 d1_49 rfl (w9 hw) Via.refl Fv ?_
        refine Go.icmpY 81 d1_52 (by decide) (by decide) (flt (fun z => by have := toInt_lt.mp z; omega)).2.1 ?_
        refine Go.iinc 84 #[.val (.ref a), .val (.int n), .val .null, .val (.int (i + (1 : Int32))), .val (.int j)] (1 : Int32) d1_81 rfl rfl rfl rfl ?_
        refine Go.goto 21 d1_84 (by decide) (by decide) ?_
        refine Go.more (cells' := 13) (slots' := 37) (sf' := []) ?_ (Nat.le_of_ble_eq_true rfl) (Nat.le_of_ble_eq_true rfl) (fun _ q => nomatch q)
        exact out1 _ _ _ _ (by rw [inc_nat (by omega) (by omega)]; omega) (by rw [inc_nat (by omega) (by omega)]; omega) (fun _ => rfl) K0 Ea Fv Fa Ar (by rw [List.length_set]; exact lr) Or_
      | succ dd ih =>
        intro hj_ j k us hjd hj0 lus K0 Ea Fv Fa Ar Or_ Ex Fw Fu Ab
        refine Go.iload 48 d1_46 rfl rfl ?_
        refine Go.aloadN 49 d1_48 rfl rfl rfl ?_
        refine Go.getF 52 d1_49 rfl (w9 hw) Via.refl Fv ?_
        refine Go.icmpN 55 d1_52 rfl (tlt (toInt_lt.mpr (by omega))).2.1 ?_
        refine Go.iload 57 d1_55 rfl rfl ?_
        refine Go.iloadN 58 d1_57 rfl rfl ?_
        refine Go.ishr 59 d1_58 rfl ?_
        refine Go.iconst 60 (1 : Int32) d1_59 rfl rfl ?_
        refine Go.iand 61 d1_60 rfl ?_
        by_cases hc61 : ((j >>> (i &&& 31)) &&& (1 : Int32)) = (0 : Int32)
        · skip
          refine Go.ifY 75 d1_61 (by decide) (by decide) (teq hc61).1 ?_
          refine Go.iinc 78 #[.val (.ref a), .val (.int n), .val .null, .val (.int i), .val (.int (j + (1 : Int32)))] (1 : Int32) d1_75 rfl rfl rfl rfl ?_
          refine Go.goto 46 d1_78 (by decide) (by decide) ?_
          refine Go.sfN [] ?_
          exact ih _ _ _ _ (by rw [inc_nat (by omega) (by omega)]; omega) (by rw [inc_nat (by omega) (by omega)]; omega) lus K0 Ea Fv Fa Ar Or_ Ex Fw Fu Ab
        · skip
          refine Go.ifN 64 d1_61 rfl (feq hc61).1 ?_
          refine Go.aloadN 65 d1_64 rfl rfl rfl ?_
          refine Go.getF 68 d1_65 rfl (w13 hw) Via.refl Fa ?_
          refine Go.iloadN 69 d1_68 rfl rfl ?_
          refine Go.aaload i.toInt.toNat 70 d1_69 rfl rfl Ar (by omega) (List.getElem?_set_self (by omega)) ?_
          refine Go.iload 72 d1_70 rfl rfl ?_
          obtain ⟨q, hq1, hq2⟩ := hj j (by omega) (by omega)
          refine Go.sfN [x, b] ?_
          refine Go.callV (S := []) (a := x) 75 [(.int j)] d1_72 rfl rfl (w37 hw) (w38 hw) (w40 hw) (w39 hw) (fun _ q => notFace_of_selects (args := #[]) (mvT q (w40 hw))) (by decide) Ex (call_of_go (R := _) (len := 3) (W := 0) (plainFor_of_name pn_0) (fun mid => ef_seti mid x b j k us q ) (c_seti hw x b j k us q Ex q_51 nbx Fw Fu Ab n0b (not_neg (by omega)) hq1 (by omega) (by omega) SA) (w41 hw) (w16 hw) (by decide) (by decide)) (lenOf pd_1 rfl) (Nat.le_of_ble_eq_true rfl) rfl (Nat.le_of_ble_eq_true rfl) (Nat.le_of_ble_eq_true rfl) (fun _ q => q) (fun v hi sf_61 hq => ?_)
          obtain ⟨rfl, Ki, Ei, Fwi, k2, us2, lu2, Fui, Ai⟩ := hq
          refine Go.more (sf' := [x, b]) ?_ (Nat.le_refl _) (Nat.le_refl _) (fun _ q => List.mem_append_right _ q)
          show G_tabinit none l Z n0 a n vc nn m h0 13 37 [x, b] hi 75 #[.val (.ref a), .val (.int n), .val .null, .val (.int i), .val (.int j)] []
          refine Go.iinc 78 #[.val (.ref a), .val (.int n), .val .null, .val (.int i), .val (.int (j + (1 : Int32)))] (1 : Int32) d1_75 rfl rfl rfl rfl ?_
          refine Go.goto 46 d1_78 (by decide) (by decide) ?_
          have f_62 := (Ea.keep Ki)
          have f_63 := (Fv.keep Ki (ninS (Ne.symm nxa) (ninS (Ne.symm nba) nin0)))
          have f_64 := (Fa.keep Ki (ninS (Ne.symm nxa) (ninS (Ne.symm nba) nin0)))
          have f_65 := (Ary.keep Ki Ar (ninS (Ne.symm nxr) (ninS (Ne.symm nbr) nin0)))
          have f_66 := (Or_.keep Ki)
          refine Go.sfN [] ?_
          exact ih _ _ _ _ (by rw [inc_nat (by omega) (by omega)]; omega) (by rw [inc_nat (by omega) (by omega)]; omega) (lu2.trans lus) (K0.trans Ki (allS (Or.inr lex0) (allS (Or.inr leb0) all0))) f_62 f_63 f_64 f_65 f_66 Ei Fwi Fui Ai
    have f_67 := (((Ea.ext E_52).keep Kb).wr Ws)
    have f_68 := ((f_56.keep Kb (ninS (Ne.symm nxa) nin0)).other Ws (Or.inl (Ne.symm ne_ra)))
    have f_69 := (((Fa.ext E_52).keep Kb (ninS (Ne.symm nxa) nin0)).other Ws (Or.inl (Ne.symm ne_ra)))
    have f_70 := (f_60.wr Ws)
    have f_71 := (Ex.wr Ws)
    have f_72 := (Fw.other Ws (Or.inl nxr))
    have f_73 := (Fu.other Ws (Or.inl nxr))
    have f_74 := (Ab.other Ws nbr)
    have Ab0 : Ary Z hs b .long ((List.replicate m (0 : Int64)).map Value.long) := by rw [List.map_replicate]; exact f_74
    refine Go.sfN [] ?_
    exact inn vc.toInt.toNat _ (0 : Int32) _ _ (by have e : (0 : Int32).toInt = 0 := rfl; omega) (by decide) List.length_replicate (((K0.ext E_52).trans Kb (allS (Or.inr lex0) all0)).wr Ws (Or.inr lea_r)) f_67 f_68 f_69 As f_70 f_71 f_72 f_73 Ab0
  have out3 : ∀ (h : Heap) (i : Int32) (s4 : Slot) (vs : List Value) (hi : i.toInt + 3 = n.toInt) (hi0 : 0 ≤ i.toInt) (hs4 : ∀ i : Int32, storeLocals #[.val (.ref a), .val (.int n), .val .null, .val (.int i), s4] 4 (.int 0) = some #[.val (.ref a), .val (.int n), .val .null, .val (.int i), .val (.int 0)]) (K0 : Keep h0 h [a]) (Ea : Exa Z h a "com/example/petrel/petrel/HoaLabel$Tables") (Fv : Fld Z h a "com/example/petrel/petrel/HoaLabel$Tables" "valuationCount" "I" (.int vc)) (Fa : Fld Z h a "com/example/petrel/petrel/HoaLabel$Tables" "aps" "[Ljava/util/BitSet;" (.ref r)) (Ar : Ary Z h r (.object "java/util/BitSet") vs) (lr : vs.length = nn) (Or_ : Ova Z h r "java/util/BitSet"), G_tabinit none l Z n0 a n vc nn m h0 9 27 [] h 21 #[.val (.ref a), .val (.int n), .val .null, .val (.int i), s4] [] := by
    intro h i s4 vs hi hi0 hs4 K0 Ea Fv Fa Ar lr Or_
    refine Go.iloadN 22 d1_21 rfl rfl ?_
    refine Go.iloadN 23 d1_22 rfl rfl ?_
    refine Go.icmpN 26 d1_23 rfl (tlt (toInt_lt.mpr (by omega))).2.1 ?_
    refine Go.aloadN 27 d1_26 rfl rfl rfl ?_
    refine Go.getF 30 d1_27 rfl (w13 hw) Via.refl Fa ?_
    refine Go.iloadN 31 d1_30 rfl rfl ?_
    refine Go.new 34 d1_31 rfl (w11 hw) (w15 hw) (w16 hw) (Nat.le_of_ble_eq_true rfl) (Nat.le_of_ble_eq_true rfl) (fun h_75 x_76 g_77 q_78 E_79 lt_80 A_81 D_82 => ?_)
    show G_tabinit none l Z n0 a n vc nn m h0 10 30 [x_76] h_75 34 #[.val (.ref a), .val (.int n), .val .null, .val (.int i), s4] [(.ref x_76), (.int i), (.ref r)]
    obtain ⟨x, rfl⟩ : ∃ y_ : Addr, y_ = x_76 := ⟨_, rfl⟩
    have lt_x := A_81.lt
    have sx : h.size ≤ x := Nat.le_of_eq g_77
    have lex0 : h0.size ≤ x := Nat.le_trans K0.1 sx
    have nxr : x ≠ r := Nat.ne_of_gt (Nat.lt_of_lt_of_le Ar.lt sx)
    have nxa : x ≠ a := Nat.ne_of_gt (Nat.lt_of_lt_of_le Ea.lt sx)
    show G_tabinit none l Z n0 a n vc nn m h0 10 30 [x] h_75 34 #[.val (.ref a), .val (.int n), .val .null, .val (.int i), s4] [(.ref x), (.int i), (.ref r)]
    refine Go.dup 35 d1_34 rfl rfl ?_
    refine Go.aloadN 36 d1_35 rfl rfl rfl ?_
    have f_83 := Fv.ext E_79
    refine Go.getF 39 d1_36 rfl (w9 hw) Via.refl f_83 ?_
    refine Go.old fun _ nq => ?_
    refine Go.callC (S := [(.ref x), (.int i), (.ref r)]) (a := x) 42 [(.int vc)] d1_39 rfl rfl rfl (w17 hw) (w18 hw) (w19 hw) (by decide) (call_of_go (R := _) (len := 3) (W := 3) (plainFor_of_name pn_0) (fun mid => ef_bsinit mid x vc m ) (c_bsinit hw x vc m A_81 q_78 (D_82 (Or.inl (w35 hw)) (ty := (.array .long)) (by decide)) (D_82 (Or.inl (w22 hw)) (ty := .int) (by decide)) (D_82 (Or.inl (w24 hw)) (ty := .boolean) (by decide)) (not_neg hv0) hm hm2) (w19 hw) (w16 hw) (by decide) (by decide)) (lenOf pd_1 rfl) (Nat.le_of_ble_eq_true rfl) rfl (Nat.le_of_ble_eq_true rfl) (Nat.le_of_ble_eq_true rfl) (fun _ q => q) (fun v hb sf_84 hq => ?_)
    obtain ⟨rfl, Kb, Ex, Fu, b, le_b, Fw, Ab⟩ := hq
    have n0b := Nat.le_trans nq le_b
    have nbx : b ≠ x := Nat.ne_of_gt (Nat.lt_of_lt_of_le lt_x le_b)
    have leb0 : h0.size ≤ b := Nat.le_trans lex0 (Nat.le_of_lt (Nat.lt_of_lt_of_le lt_x le_b))
    have nbr : b ≠ r := Nat.ne_of_gt (Nat.lt_of_lt_of_le (Ar.lt) (Nat.le_trans sx (Nat.le_of_lt (Nat.lt_of_lt_of_le lt_x le_b))))
    have nba : b ≠ a := Nat.ne_of_gt (Nat.lt_of_lt_of_le (Ea.lt) (Nat.le_trans sx (Nat.le_of_lt (Nat.lt_of_lt_of_le lt_x le_b))))
    refine Go.more (sf' := [x]) ?_ (Nat.le_refl _) (Nat.le_refl _) (fun _ q => List.mem_append_right _ q)
    show G_tabinit none l Z n0 a n vc nn m h0 11 32 [x] hb 42 #[.val (.ref a), .val (.int n), .val .null, .val (.int i), s4] [(.ref x), (.int i), (.ref r)]
    have X_85 : Ext h hb := extK E_79 Kb (allS (Nat.le_of_eq g_77) all0)
    have f_86 := Ar.ext X_85
    have f_87 := Or_.ext X_85
    refine Go.sfN [r, x] ?_
    refine Go.aastore i.toInt.toNat 43 d1_42 rfl f_86 (by omega) (by omega) (sto_of f_86 f_87 (Ins.self Ex)) rfl (List.mem_of_getElem? (i := 0) rfl) q_r (fun hs Ws As => ?_)
    refine Go.iconst 44 (0 : Int32) d1_43 rfl rfl ?_
    refine Go.istore 46 #[.val (.ref a), .val (.int n), .val .null, .val (.int i), .val (.int (0 : Int32))] d1_44 rfl (hs4 i) ?_
    have inn : ∀ (dd : Nat) (hj_ : Heap) (j k : Int32) (us : List Int64) (hjd : j.toInt + (dd : Int) = vc.toInt) (hj0 : 0 ≤ j.toInt) (lus : us.length = m) (K0 : Keep h0 hj_ [a]) (Ea : Exa Z hj_ a "com/example/petrel/petrel/HoaLabel$Tables") (Fv : Fld Z hj_ a "com/example/petrel/petrel/HoaLabel$Tables" "valuationCount" "I" (.int vc)) (Fa : Fld Z hj_ a "com/example/petrel/petrel/HoaLabel$Tables" "aps" "[Ljava/util/BitSet;" (.ref r)) (Ar : Ary Z hj_ r (.object "java/util/BitSet") (vs.set i.toInt.toNat (.ref x))) (Or_ : Ova Z hj_ r "java/util/BitSet") (Ex : Exa Z hj_ x "java/util/BitSet") (Fw : Fld Z hj_ x "java/util/BitSet" "words" "[J" (.ref b)) (Fu : Fld Z hj_ x "java/util/BitSet" "wordsInUse" "I" (.int k)) (Ab : Ary Z hj_ b .long (us.map Value.long)), G_tabinit none l Z n0 a n vc nn m h0 11 32 [] hj_ 46 #[.val (.ref a), .val (.int n), .val .null, .val (.int i), .val (.int j)] [] := by
      intro dd
      induction dd with
      | zero =>
        intro hj_ j k us hjd hj0 lus K0 Ea Fv Fa Ar Or_ Ex Fw Fu Ab
        refine Go.iload 48 d1_46 rfl rfl ?_
        refine Go.aloadN 49 d1_48 rfl rfl rfl ?_
        refine Go.getF 52 d1_49 rfl (w9 hw) Via.refl Fv ?_
        refine Go.icmpY 81 d1_52 (by decide) (by decide) (flt (fun z => by have := toInt_lt.mp z; omega)).2.1 ?_
        refine Go.iinc 84 #[.val (.ref a), .val (.int n), .val .null, .val (.int (i + (1 : Int32))), .val (.int j)] (1 : Int32) d1_81 rfl rfl rfl rfl ?_
        refine Go.goto 21 d1_84 (by decide) (by decide) ?_
        refine Go.more (cells' := 11) (slots' := 32) (sf' := []) ?_ (Nat.le_of_ble_eq_true rfl) (Nat.le_of_ble_eq_true rfl) (fun _ q => nomatch q)
        exact out2 _ _ _ _ (by rw [inc_nat (by omega) (by omega)]; omega) (by rw [inc_nat (by omega) (by omega)]; omega) (fun _ => rfl) K0 Ea Fv Fa Ar (by rw [List.length_set]; exact lr) Or_
      | succ dd ih =>
        intro hj_ j k us hjd hj0 lus K0 Ea Fv Fa Ar Or_ Ex Fw Fu Ab
        refine Go.iload 48 d1_46 rfl rfl ?_
        refine Go.aloadN 49 d1_48 rfl rfl rfl ?_
        refine Go.getF 52 d1_49 rfl (w9 hw) Via.refl Fv ?_
        refine Go.icmpN 55 d1_52 rfl (tlt (toInt_lt.mpr (by omega))).2.1 ?_
        refine Go.iload 57 d1_55 rfl rfl ?_
        refine Go.iloadN 58 d1_57 rfl rfl ?_
        refine Go.ishr 59 d1_58 rfl ?_
        refine Go.iconst 60 (1 : Int32) d1_59 rfl rfl ?_
        refine Go.iand 61 d1_60 rfl ?_
        by_cases hc61 : ((j >>> (i &&& 31)) &&& (1 : Int32)) = (0 : Int32)
        · skip
          refine Go.ifY 75 d1_61 (by decide) (by decide) (teq hc61).1 ?_
          refine Go.iinc 78 #[.val (.ref a), .val (.int n), .val .null, .val (.int i), .val (.int (j + (1 : Int32)))] (1 : Int32) d1_75 rfl rfl rfl rfl ?_
          refine Go.goto 46 d1_78 (by decide) (by decide) ?_
          refine Go.sfN [] ?_
          exact ih _ _ _ _ (by rw [inc_nat (by omega) (by omega)]; omega) (by rw [inc_nat (by omega) (by omega)]; omega) lus K0 Ea Fv Fa Ar Or_ Ex Fw Fu Ab
        · skip
          refine Go.ifN 64 d1_61 rfl (feq hc61).1 ?_
          refine Go.aloadN 65 d1_64 rfl rfl rfl ?_
          refine Go.getF 68 d1_65 rfl (w13 hw) Via.refl Fa ?_
          refine Go.iloadN 69 d1_68 rfl rfl ?_
          refine Go.aaload i.toInt.toNat 70 d1_69 rfl rfl Ar (by omega) (List.getElem?_set_self (by omega)) ?_
          refine Go.iload 72 d1_70 rfl rfl ?_
          obtain ⟨q, hq1, hq2⟩ := hj j (by omega) (by omega)
          refine Go.sfN [x, b] ?_
          refine Go.callV (S := []) (a := x) 75 [(.int j)] d1_72 rfl rfl (w37 hw) (w38 hw) (w40 hw) (w39 hw) (fun _ q => notFace_of_selects (args := #[]) (mvT q (w40 hw))) (by decide) Ex (call_of_go (R := _) (len := 3) (W := 0) (plainFor_of_name pn_0) (fun mid => ef_seti mid x b j k us q ) (c_seti hw x b j k us q Ex q_78 nbx Fw Fu Ab n0b (not_neg (by omega)) hq1 (by omega) (by omega) SA) (w41 hw) (w16 hw) (by decide) (by decide)) (lenOf pd_1 rfl) (Nat.le_of_ble_eq_true rfl) rfl (Nat.le_of_ble_eq_true rfl) (Nat.le_of_ble_eq_true rfl) (fun _ q => q) (fun v hi sf_88 hq => ?_)
          obtain ⟨rfl, Ki, Ei, Fwi, k2, us2, lu2, Fui, Ai⟩ := hq
          refine Go.more (sf' := [x, b]) ?_ (Nat.le_refl _) (Nat.le_refl _) (fun _ q => List.mem_append_right _ q)
          show G_tabinit none l Z n0 a n vc nn m h0 11 32 [x, b] hi 75 #[.val (.ref a), .val (.int n), .val .null, .val (.int i), .val (.int j)] []
          refine Go.iinc 78 #[.val (.ref a), .val (.int n), .val .null, .val (.int i), .val (.int (j + (1 : Int32)))] (1 : Int32) d1_75 rfl rfl rfl rfl ?_
          refine Go.goto 46 d1_78 (by decide) (by decide) ?_
          have f_89 := (Ea.keep Ki)
          have f_90 := (Fv.keep Ki (ninS (Ne.symm nxa) (ninS (Ne.symm nba) nin0)))
          have f_91 := (Fa.keep Ki (ninS (Ne.symm nxa) (ninS (Ne.symm nba) nin0)))
          have f_92 := (Ary.keep Ki Ar (ninS (Ne.symm nxr) (ninS (Ne.symm nbr) nin0)))
          have f_93 := (Or_.keep Ki)
          refine Go.sfN [] ?_
          exact ih _ _ _ _ (by rw [inc_nat (by omega) (by omega)]; omega) (by rw [inc_nat (by omega) (by omega)]; omega) (lu2.trans lus) (K0.trans Ki (allS (Or.inr lex0) (allS (Or.inr leb0) all0))) f_89 f_90 f_91 f_92 f_93 Ei Fwi Fui Ai
    have f_94 := (((Ea.ext E_79).keep Kb).wr Ws)
    have f_95 := ((f_83.keep Kb (ninS (Ne.symm nxa) nin0)).other Ws (Or.inl (Ne.symm ne_ra)))
    have f_96 := (((Fa.ext E_79).keep Kb (ninS (Ne.symm nxa) nin0)).other Ws (Or.inl (Ne.symm ne_ra)))
    have f_97 := (f_87.wr Ws)
    have f_98 := (Ex.wr Ws)
    have f_99 := (Fw.other Ws (Or.inl nxr))
    have f_100 := (Fu.other Ws (Or.inl nxr))
    have f_101 := (Ab.other Ws nbr)
    have Ab0 : Ary Z hs b .long ((List.replicate m (0 : Int64)).map Value.long) := by rw [List.map_replicate]; exact f_101
    refine Go.sfN [] ?_
    exact inn vc.toInt.toNat _ (0 : Int32) _ _ (by have e : (0 : Int32).toInt = 0 := rfl; omega) (by decide) List.length_replicate (((K0.ext E_79).trans Kb (allS (Or.inr lex0) all0)).wr Ws (Or.inr lea_r)) f_94 f_95 f_96 As f_97 f_98 f_99 f_100 Ab0
  have out4 : ∀ (h : Heap) (i : Int32) (s4 : Slot) (vs : List Value) (hi : i.toInt + 4 = n.toInt) (hi0 : 0 ≤ i.toInt) (hs4 : ∀ i : Int32, storeLocals #[.val (.ref a), .val (.int n), .val .null, .val (.int i), s4] 4 (.int 0) = some #[.val (.ref a), .val (.int n), .val .null, .val (.int i), .val (.int 0)]) (K0 : Keep h0 h [a]) (Ea : Exa Z h a "com/example/petrel/petrel/HoaLabel$Tables") (Fv : Fld Z h a "com/example/petrel/petrel/HoaLabel$Tables" "valuationCount" "I" (.int vc)) (Fa : Fld Z h a "com/example/petrel/petrel/HoaLabel$Tables" "aps" "[Ljava/util/BitSet;" (.ref r)) (Ar : Ary Z h r (.object "java/util/BitSet") vs) (lr : vs.length = nn) (Or_ : Ova Z h r "java/util/BitSet"), G_tabinit none l Z n0 a n vc nn m h0 7 22 [] h 21 #[.val (.ref a), .val (.int n), .val .null, .val (.int i), s4] [] := by
    intro h i s4 vs hi hi0 hs4 K0 Ea Fv Fa Ar lr Or_
    refine Go.iloadN 22 d1_21 rfl rfl ?_
    refine Go.iloadN 23 d1_22 rfl rfl ?_
    refine Go.icmpN 26 d1_23 rfl (tlt (toInt_lt.mpr (by omega))).2.1 ?_
    refine Go.aloadN 27 d1_26 rfl rfl rfl ?_
    refine Go.getF 30 d1_27 rfl (w13 hw) Via.refl Fa ?_
    refine Go.iloadN 31 d1_30 rfl rfl ?_
    refine Go.new 34 d1_31 rfl (w11 hw) (w15 hw) (w16 hw) (Nat.le_of_ble_eq_true rfl) (Nat.le_of_ble_eq_true rfl) (fun h_102 x_103 g_104 q_105 E_106 lt_107 A_108 D_109 => ?_)
    show G_tabinit none l Z n0 a n vc nn m h0 8 25 [x_103] h_102 34 #[.val (.ref a), .val (.int n), .val .null, .val (.int i), s4] [(.ref x_103), (.int i), (.ref r)]
    obtain ⟨x, rfl⟩ : ∃ y_ : Addr, y_ = x_103 := ⟨_, rfl⟩
    have lt_x := A_108.lt
    have sx : h.size ≤ x := Nat.le_of_eq g_104
    have lex0 : h0.size ≤ x := Nat.le_trans K0.1 sx
    have nxr : x ≠ r := Nat.ne_of_gt (Nat.lt_of_lt_of_le Ar.lt sx)
    have nxa : x ≠ a := Nat.ne_of_gt (Nat.lt_of_lt_of_le Ea.lt sx)
    show G_tabinit none l Z n0 a n vc nn m h0 8 25 [x] h_102 34 #[.val (.ref a), .val (.int n), .val .null, .val (.int i), s4] [(.ref x), (.int i), (.ref r)]
    refine Go.dup 35 d1_34 rfl rfl ?_
    refine Go.aloadN 36 d1_35 rfl rfl rfl ?_
    have f_110 := Fv.ext E_106
    refine Go.getF 39 d1_36 rfl (w9 hw) Via.refl f_110 ?_
    refine Go.old fun _ nq => ?_
    refine Go.callC (S := [(.ref x), (.int i), (.ref r)]) (a := x) 42 [(.int vc)] d1_39 rfl rfl rfl (w17 hw) (w18 hw) (w19 hw) (by decide) (call_of_go (R := _) (len := 3) (W := 3) (plainFor_of_name pn_0) (fun mid => ef_bsinit mid x vc m ) (c_bsinit hw x vc m A_108 q_105 (D_109 (Or.inl (w35 hw)) (ty := (.array .long)) (by decide)) (D_109 (Or.inl (w22 hw)) (ty := .int) (by decide)) (D_109 (Or.inl (w24 hw)) (ty := .boolean) (by decide)) (not_neg hv0) hm hm2) (w19 hw) (w16 hw) (by decide) (by decide)) (lenOf pd_1 rfl) (Nat.le_of_ble_eq_true rfl) rfl (Nat.le_of_ble_eq_true rfl) (Nat.le_of_ble_eq_true rfl) (fun _ q => q) (fun v hb sf_111 hq => ?_)
    obtain ⟨rfl, Kb, Ex, Fu, b, le_b, Fw, Ab⟩ := hq
    have n0b := Nat.le_trans nq le_b
    have nbx : b ≠ x := Nat.ne_of_gt (Nat.lt_of_lt_of_le lt_x le_b)
    have leb0 : h0.size ≤ b := Nat.le_trans lex0 (Nat.le_of_lt (Nat.lt_of_lt_of_le lt_x le_b))
    have nbr : b ≠ r := Nat.ne_of_gt (Nat.lt_of_lt_of_le (Ar.lt) (Nat.le_trans sx (Nat.le_of_lt (Nat.lt_of_lt_of_le lt_x le_b))))
    have nba : b ≠ a := Nat.ne_of_gt (Nat.lt_of_lt_of_le (Ea.lt) (Nat.le_trans sx (Nat.le_of_lt (Nat.lt_of_lt_of_le lt_x le_b))))
    refine Go.more (sf' := [x]) ?_ (Nat.le_refl _) (Nat.le_refl _) (fun _ q => List.mem_append_right _ q)
    show G_tabinit none l Z n0 a n vc nn m h0 9 27 [x] hb 42 #[.val (.ref a), .val (.int n), .val .null, .val (.int i), s4] [(.ref x), (.int i), (.ref r)]
    have X_112 : Ext h hb := extK E_106 Kb (allS (Nat.le_of_eq g_104) all0)
    have f_113 := Ar.ext X_112
    have f_114 := Or_.ext X_112
    refine Go.sfN [r, x] ?_
    refine Go.aastore i.toInt.toNat 43 d1_42 rfl f_113 (by omega) (by omega) (sto_of f_113 f_114 (Ins.self Ex)) rfl (List.mem_of_getElem? (i := 0) rfl) q_r (fun hs Ws As => ?_)
    refine Go.iconst 44 (0 : Int32) d1_43 rfl rfl ?_
    refine Go.istore 46 #[.val (.ref a), .val (.int n), .val .null, .val (.int i), .val (.int (0 : Int32))] d1_44 rfl (hs4 i) ?_
    have inn : ∀ (dd : Nat) (hj_ : Heap) (j k : Int32) (us : List Int64) (hjd : j.toInt + (dd : Int) = vc.toInt) (hj0 : 0 ≤ j.toInt) (lus : us.length = m) (K0 : Keep h0 hj_ [a]) (Ea : Exa Z hj_ a "com/example/petrel/petrel/HoaLabel$Tables") (Fv : Fld Z hj_ a "com/example/petrel/petrel/HoaLabel$Tables" "valuationCount" "I" (.int vc)) (Fa : Fld Z hj_ a "com/example/petrel/petrel/HoaLabel$Tables" "aps" "[Ljava/util/BitSet;" (.ref r)) (Ar : Ary Z hj_ r (.object "java/util/BitSet") (vs.set i.toInt.toNat (.ref x))) (Or_ : Ova Z hj_ r "java/util/BitSet") (Ex : Exa Z hj_ x "java/util/BitSet") (Fw : Fld Z hj_ x "java/util/BitSet" "words" "[J" (.ref b)) (Fu : Fld Z hj_ x "java/util/BitSet" "wordsInUse" "I" (.int k)) (Ab : Ary Z hj_ b .long (us.map Value.long)), G_tabinit none l Z n0 a n vc nn m h0 9 27 [] hj_ 46 #[.val (.ref a), .val (.int n), .val .null, .val (.int i), .val (.int j)] [] := by
      intro dd
      induction dd with
      | zero =>
        intro hj_ j k us hjd hj0 lus K0 Ea Fv Fa Ar Or_ Ex Fw Fu Ab
        refine Go.iload 48 d1_46 rfl rfl ?_
        refine Go.aloadN 49 d1_48 rfl rfl rfl ?_
        refine Go.getF 52 d1_49 rfl (w9 hw) Via.refl Fv ?_
        refine Go.icmpY 81 d1_52 (by decide) (by decide) (flt (fun z => by have := toInt_lt.mp z; omega)).2.1 ?_
        refine Go.iinc 84 #[.val (.ref a), .val (.int n), .val .null, .val (.int (i + (1 : Int32))), .val (.int j)] (1 : Int32) d1_81 rfl rfl rfl rfl ?_
        refine Go.goto 21 d1_84 (by decide) (by decide) ?_
        refine Go.more (cells' := 9) (slots' := 27) (sf' := []) ?_ (Nat.le_of_ble_eq_true rfl) (Nat.le_of_ble_eq_true rfl) (fun _ q => nomatch q)
        exact out3 _ _ _ _ (by rw [inc_nat (by omega) (by omega)]; omega) (by rw [inc_nat (by omega) (by omega)]; omega) (fun _ => rfl) K0 Ea Fv Fa Ar (by rw [List.length_set]; exact lr) Or_
      | succ dd ih =>
        intro hj_ j k us hjd hj0 lus K0 Ea Fv Fa Ar Or_ Ex Fw Fu Ab
        refine Go.iload 48 d1_46 rfl rfl ?_
        refine Go.aloadN 49 d1_48 rfl rfl rfl ?_
        refine Go.getF 52 d1_49 rfl (w9 hw) Via.refl Fv ?_
        refine Go.icmpN 55 d1_52 rfl (tlt (toInt_lt.mpr (by omega))).2.1 ?_
        refine Go.iload 57 d1_55 rfl rfl ?_
        refine Go.iloadN 58 d1_57 rfl rfl ?_
        refine Go.ishr 59 d1_58 rfl ?_
        refine Go.iconst 60 (1 : Int32) d1_59 rfl rfl ?_
        refine Go.iand 61 d1_60 rfl ?_
        by_cases hc61 : ((j >>> (i &&& 31)) &&& (1 : Int32)) = (0 : Int32)
        · skip
          refine Go.ifY 75 d1_61 (by decide) (by decide) (teq hc61).1 ?_
          refine Go.iinc 78 #[.val (.ref a), .val (.int n), .val .null, .val (.int i), .val (.int (j + (1 : Int32)))] (1 : Int32) d1_75 rfl rfl rfl rfl ?_
          refine Go.goto 46 d1_78 (by decide) (by decide) ?_
          refine Go.sfN [] ?_
          exact ih _ _ _ _ (by rw [inc_nat (by omega) (by omega)]; omega) (by rw [inc_nat (by omega) (by omega)]; omega) lus K0 Ea Fv Fa Ar Or_ Ex Fw Fu Ab
        · skip
          refine Go.ifN 64 d1_61 rfl (feq hc61).1 ?_
          refine Go.aloadN 65 d1_64 rfl rfl rfl ?_
          refine Go.getF 68 d1_65 rfl (w13 hw) Via.refl Fa ?_
          refine Go.iloadN 69 d1_68 rfl rfl ?_
          refine Go.aaload i.toInt.toNat 70 d1_69 rfl rfl Ar (by omega) (List.getElem?_set_self (by omega)) ?_
          refine Go.iload 72 d1_70 rfl rfl ?_
          obtain ⟨q, hq1, hq2⟩ := hj j (by omega) (by omega)
          refine Go.sfN [x, b] ?_
          refine Go.callV (S := []) (a := x) 75 [(.int j)] d1_72 rfl rfl (w37 hw) (w38 hw) (w40 hw) (w39 hw) (fun _ q => notFace_of_selects (args := #[]) (mvT q (w40 hw))) (by decide) Ex (call_of_go (R := _) (len := 3) (W := 0) (plainFor_of_name pn_0) (fun mid => ef_seti mid x b j k us q ) (c_seti hw x b j k us q Ex q_105 nbx Fw Fu Ab n0b (not_neg (by omega)) hq1 (by omega) (by omega) SA) (w41 hw) (w16 hw) (by decide) (by decide)) (lenOf pd_1 rfl) (Nat.le_of_ble_eq_true rfl) rfl (Nat.le_of_ble_eq_true rfl) (Nat.le_of_ble_eq_true rfl) (fun _ q => q) (fun v hi sf_115 hq => ?_)
          obtain ⟨rfl, Ki, Ei, Fwi, k2, us2, lu2, Fui, Ai⟩ := hq
          refine Go.more (sf' := [x, b]) ?_ (Nat.le_refl _) (Nat.le_refl _) (fun _ q => List.mem_append_right _ q)
          show G_tabinit none l Z n0 a n vc nn m h0 9 27 [x, b] hi 75 #[.val (.ref a), .val (.int n), .val .null, .val (.int i), .val (.int j)] []
          refine Go.iinc 78 #[.val (.ref a), .val (.int n), .val .null, .val (.int i), .val (.int (j + (1 : Int32)))] (1 : Int32) d1_75 rfl rfl rfl rfl ?_
          refine Go.goto 46 d1_78 (by decide) (by decide) ?_
          have f_116 := (Ea.keep Ki)
          have f_117 := (Fv.keep Ki (ninS (Ne.symm nxa) (ninS (Ne.symm nba) nin0)))
          have f_118 := (Fa.keep Ki (ninS (Ne.symm nxa) (ninS (Ne.symm nba) nin0)))
          have f_119 := (Ary.keep Ki Ar (ninS (Ne.symm nxr) (ninS (Ne.symm nbr) nin0)))
          have f_120 := (Or_.keep Ki)
          refine Go.sfN [] ?_
          exact ih _ _ _ _ (by rw [inc_nat (by omega) (by omega)]; omega) (by rw [inc_nat (by omega) (by omega)]; omega) (lu2.trans lus) (K0.trans Ki (allS (Or.inr lex0) (allS (Or.inr leb0) all0))) f_116 f_117 f_118 f_119 f_120 Ei Fwi Fui Ai
    have f_121 := (((Ea.ext E_106).keep Kb).wr Ws)
    have f_122 := ((f_110.keep Kb (ninS (Ne.symm nxa) nin0)).other Ws (Or.inl (Ne.symm ne_ra)))
    have f_123 := (((Fa.ext E_106).keep Kb (ninS (Ne.symm nxa) nin0)).other Ws (Or.inl (Ne.symm ne_ra)))
    have f_124 := (f_114.wr Ws)
    have f_125 := (Ex.wr Ws)
    have f_126 := (Fw.other Ws (Or.inl nxr))
    have f_127 := (Fu.other Ws (Or.inl nxr))
    have f_128 := (Ab.other Ws nbr)
    have Ab0 : Ary Z hs b .long ((List.replicate m (0 : Int64)).map Value.long) := by rw [List.map_replicate]; exact f_128
    refine Go.sfN [] ?_
    exact inn vc.toInt.toNat _ (0 : Int32) _ _ (by have e : (0 : Int32).toInt = 0 := rfl; omega) (by decide) List.length_replicate (((K0.ext E_106).trans Kb (allS (Or.inr lex0) all0)).wr Ws (Or.inr lea_r)) f_121 f_122 f_123 As f_124 f_125 f_126 f_127 Ab0
  have out5 : ∀ (h : Heap) (i : Int32) (s4 : Slot) (vs : List Value) (hi : i.toInt + 5 = n.toInt) (hi0 : 0 ≤ i.toInt) (hs4 : ∀ i : Int32, storeLocals #[.val (.ref a), .val (.int n), .val .null, .val (.int i), s4] 4 (.int 0) = some #[.val (.ref a), .val (.int n), .val .null, .val (.int i), .val (.int 0)]) (K0 : Keep h0 h [a]) (Ea : Exa Z h a "com/example/petrel/petrel/HoaLabel$Tables") (Fv : Fld Z h a "com/example/petrel/petrel/HoaLabel$Tables" "valuationCount" "I" (.int vc)) (Fa : Fld Z h a "com/example/petrel/petrel/HoaLabel$Tables" "aps" "[Ljava/util/BitSet;" (.ref r)) (Ar : Ary Z h r (.object "java/util/BitSet") vs) (lr : vs.length = nn) (Or_ : Ova Z h r "java/util/BitSet"), G_tabinit none l Z n0 a n vc nn m h0 5 17 [] h 21 #[.val (.ref a), .val (.int n), .val .null, .val (.int i), s4] [] := by
    intro h i s4 vs hi hi0 hs4 K0 Ea Fv Fa Ar lr Or_
    refine Go.iloadN 22 d1_21 rfl rfl ?_
    refine Go.iloadN 23 d1_22 rfl rfl ?_
    refine Go.icmpN 26 d1_23 rfl (tlt (toInt_lt.mpr (by omega))).2.1 ?_
    refine Go.aloadN 27 d1_26 rfl rfl rfl ?_
    refine Go.getF 30 d1_27 rfl (w13 hw) Via.refl Fa ?_
    refine Go.iloadN 31 d1_30 rfl rfl ?_
    refine Go.new 34 d1_31 rfl (w11 hw) (w15 hw) (w16 hw) (Nat.le_of_ble_eq_true rfl) (Nat.le_of_ble_eq_true rfl) (fun h_129 x_130 g_131 q_132 E_133 lt_134 A_135 D_136 => ?_)
    show G_tabinit none l Z n0 a n vc nn m h0 6 20 [x_130] h_129 34 #[.val (.ref a), .val (.int n), .val .null, .val (.int i), s4] [(.ref x_130), (.int i), (.ref r)]
    obtain ⟨x, rfl⟩ : ∃ y_ : Addr, y_ = x_130 := ⟨_, rfl⟩
    have lt_x := A_135.lt
    have sx : h.size ≤ x := Nat.le_of_eq g_131
    have lex0 : h0.size ≤ x := Nat.le_trans K0.1 sx
    have nxr : x ≠ r := Nat.ne_of_gt (Nat.lt_of_lt_of_le Ar.lt sx)
    have nxa : x ≠ a := Nat.ne_of_gt (Nat.lt_of_lt_of_le Ea.lt sx)
    show G_tabinit none l Z n0 a n vc nn m h0 6 20 [x] h_129 34 #[.val (.ref a), .val (.int n), .val .null, .val (.int i), s4] [(.ref x), (.int i), (.ref r)]
    refine Go.dup 35 d1_34 rfl rfl ?_
    refine Go.aloadN 36 d1_35 rfl rfl rfl ?_
    have f_137 := Fv.ext E_133
    refine Go.getF 39 d1_36 rfl (w9 hw) Via.refl f_137 ?_
    refine Go.old fun _ nq => ?_
    refine Go.callC (S := [(.ref x), (.int i), (.ref r)]) (a := x) 42 [(.int vc)] d1_39 rfl rfl rfl (w17 hw) (w18 hw) (w19 hw) (by decide) (call_of_go (R := _) (len := 3) (W := 3) (plainFor_of_name pn_0) (fun mid => ef_bsinit mid x vc m ) (c_bsinit hw x vc m A_135 q_132 (D_136 (Or.inl (w35 hw)) (ty := (.array .long)) (by decide)) (D_136 (Or.inl (w22 hw)) (ty := .int) (by decide)) (D_136 (Or.inl (w24 hw)) (ty := .boolean) (by decide)) (not_neg hv0) hm hm2) (w19 hw) (w16 hw) (by decide) (by decide)) (lenOf pd_1 rfl) (Nat.le_of_ble_eq_true rfl) rfl (Nat.le_of_ble_eq_true rfl) (Nat.le_of_ble_eq_true rfl) (fun _ q => q) (fun v hb sf_138 hq => ?_)
    obtain ⟨rfl, Kb, Ex, Fu, b, le_b, Fw, Ab⟩ := hq
    have n0b := Nat.le_trans nq le_b
    have nbx : b ≠ x := Nat.ne_of_gt (Nat.lt_of_lt_of_le lt_x le_b)
    have leb0 : h0.size ≤ b := Nat.le_trans lex0 (Nat.le_of_lt (Nat.lt_of_lt_of_le lt_x le_b))
    have nbr : b ≠ r := Nat.ne_of_gt (Nat.lt_of_lt_of_le (Ar.lt) (Nat.le_trans sx (Nat.le_of_lt (Nat.lt_of_lt_of_le lt_x le_b))))
    have nba : b ≠ a := Nat.ne_of_gt (Nat.lt_of_lt_of_le (Ea.lt) (Nat.le_trans sx (Nat.le_of_lt (Nat.lt_of_lt_of_le lt_x le_b))))
    refine Go.more (sf' := [x]) ?_ (Nat.le_refl _) (Nat.le_refl _) (fun _ q => List.mem_append_right _ q)
    show G_tabinit none l Z n0 a n vc nn m h0 7 22 [x] hb 42 #[.val (.ref a), .val (.int n), .val .null, .val (.int i), s4] [(.ref x), (.int i), (.ref r)]
    have X_139 : Ext h hb := extK E_133 Kb (allS (Nat.le_of_eq g_131) all0)
    have f_140 := Ar.ext X_139
    have f_141 := Or_.ext X_139
    refine Go.sfN [r, x] ?_
    refine Go.aastore i.toInt.toNat 43 d1_42 rfl f_140 (by omega) (by omega) (sto_of f_140 f_141 (Ins.self Ex)) rfl (List.mem_of_getElem? (i := 0) rfl) q_r (fun hs Ws As => ?_)
    refine Go.iconst 44 (0 : Int32) d1_43 rfl rfl ?_
    refine Go.istore 46 #[.val (.ref a), .val (.int n), .val .null, .val (.int i), .val (.int (0 : Int32))] d1_44 rfl (hs4 i) ?_
    have inn : ∀ (dd : Nat) (hj_ : Heap) (j k : Int32) (us : List Int64) (hjd : j.toInt + (dd : Int) = vc.toInt) (hj0 : 0 ≤ j.toInt) (lus : us.length = m) (K0 : Keep h0 hj_ [a]) (Ea : Exa Z hj_ a "com/example/petrel/petrel/HoaLabel$Tables") (Fv : Fld Z hj_ a "com/example/petrel/petrel/HoaLabel$Tables" "valuationCount" "I" (.int vc)) (Fa : Fld Z hj_ a "com/example/petrel/petrel/HoaLabel$Tables" "aps" "[Ljava/util/BitSet;" (.ref r)) (Ar : Ary Z hj_ r (.object "java/util/BitSet") (vs.set i.toInt.toNat (.ref x))) (Or_ : Ova Z hj_ r "java/util/BitSet") (Ex : Exa Z hj_ x "java/util/BitSet") (Fw : Fld Z hj_ x "java/util/BitSet" "words" "[J" (.ref b)) (Fu : Fld Z hj_ x "java/util/BitSet" "wordsInUse" "I" (.int k)) (Ab : Ary Z hj_ b .long (us.map Value.long)), G_tabinit none l Z n0 a n vc nn m h0 7 22 [] hj_ 46 #[.val (.ref a), .val (.int n), .val .null, .val (.int i), .val (.int j)] [] := by
      intro dd
      induction dd with
      | zero =>
        intro hj_ j k us hjd hj0 lus K0 Ea Fv Fa Ar Or_ Ex Fw Fu Ab
        refine Go.iload 48 d1_46 rfl rfl ?_
        refine Go.aloadN 49 d1_48 rfl rfl rfl ?_
        refine Go.getF 52 d1_49 rfl (w9 hw) Via.refl Fv ?_
        refine Go.icmpY 81 d1_52 (by decide) (by decide) (flt (fun z => by have := toInt_lt.mp z; omega)).2.1 ?_
        refine Go.iinc 84 #[.val (.ref a), .val (.int n), .val .null, .val (.int (i + (1 : Int32))), .val (.int j)] (1 : Int32) d1_81 rfl rfl rfl rfl ?_
        refine Go.goto 21 d1_84 (by decide) (by decide) ?_
        refine Go.more (cells' := 7) (slots' := 22) (sf' := []) ?_ (Nat.le_of_ble_eq_true rfl) (Nat.le_of_ble_eq_true rfl) (fun _ q => nomatch q)
        exact out4 _ _ _ _ (by rw [inc_nat (by omega) (by omega)]; omega) (by rw [inc_nat (by omega) (by omega)]; omega) (fun _ => rfl) K0 Ea Fv Fa Ar (by rw [List.length_set]; exact lr) Or_
      | succ dd ih =>
        intro hj_ j k us hjd hj0 lus K0 Ea Fv Fa Ar Or_ Ex Fw Fu Ab
        refine Go.iload 48 d1_46 rfl rfl ?_
        refine Go.aloadN 49 d1_48 rfl rfl rfl ?_
        refine Go.getF 52 d1_49 rfl (w9 hw) Via.refl Fv ?_
        refine Go.icmpN 55 d1_52 rfl (tlt (toInt_lt.mpr (by omega))).2.1 ?_
        refine Go.iload 57 d1_55 rfl rfl ?_
        refine Go.iloadN 58 d1_57 rfl rfl ?_
        refine Go.ishr 59 d1_58 rfl ?_
        refine Go.iconst 60 (1 : Int32) d1_59 rfl rfl ?_
        refine Go.iand 61 d1_60 rfl ?_
        by_cases hc61 : ((j >>> (i &&& 31)) &&& (1 : Int32)) = (0 : Int32)
        · skip
          refine Go.ifY 75 d1_61 (by decide) (by decide) (teq hc61).1 ?_
          refine Go.iinc 78 #[.val (.ref a), .val (.int n), .val .null, .val (.int i), .val (.int (j + (1 : Int32)))] (1 : Int32) d1_75 rfl rfl rfl rfl ?_
          refine Go.goto 46 d1_78 (by decide) (by decide) ?_
          refine Go.sfN [] ?_
          exact ih _ _ _ _ (by rw [inc_nat (by omega) (by omega)]; omega) (by rw [inc_nat (by omega) (by omega)]; omega) lus K0 Ea Fv Fa Ar Or_ Ex Fw Fu Ab
        · skip
          refine Go.ifN 64 d1_61 rfl (feq hc61).1 ?_
          refine Go.aloadN 65 d1_64 rfl rfl rfl ?_
          refine Go.getF 68 d1_65 rfl (w13 hw) Via.refl Fa ?_
          refine Go.iloadN 69 d1_68 rfl rfl ?_
          refine Go.aaload i.toInt.toNat 70 d1_69 rfl rfl Ar (by omega) (List.getElem?_set_self (by omega)) ?_
          refine Go.iload 72 d1_70 rfl rfl ?_
          obtain ⟨q, hq1, hq2⟩ := hj j (by omega) (by omega)
          refine Go.sfN [x, b] ?_
          refine Go.callV (S := []) (a := x) 75 [(.int j)] d1_72 rfl rfl (w37 hw) (w38 hw) (w40 hw) (w39 hw) (fun _ q => notFace_of_selects (args := #[]) (mvT q (w40 hw))) (by decide) Ex (call_of_go (R := _) (len := 3) (W := 0) (plainFor_of_name pn_0) (fun mid => ef_seti mid x b j k us q ) (c_seti hw x b j k us q Ex q_132 nbx Fw Fu Ab n0b (not_neg (by omega)) hq1 (by omega) (by omega) SA) (w41 hw) (w16 hw) (by decide) (by decide)) (lenOf pd_1 rfl) (Nat.le_of_ble_eq_true rfl) rfl (Nat.le_of_ble_eq_true rfl) (Nat.le_of_ble_eq_true rfl) (fun _ q => q) (fun v hi sf_142 hq => ?_)
          obtain ⟨rfl, Ki, Ei, Fwi, k2, us2, lu2, Fui, Ai⟩ := hq
          refine Go.more (sf' := [x, b]) ?_ (Nat.le_refl _) (Nat.le_refl _) (fun _ q => List.mem_append_right _ q)
          show G_tabinit none l Z n0 a n vc nn m h0 7 22 [x, b] hi 75 #[.val (.ref a), .val (.int n), .val .null, .val (.int i), .val (.int j)] []
          refine Go.iinc 78 #[.val (.ref a), .val (.int n), .val .null, .val (.int i), .val (.int (j + (1 : Int32)))] (1 : Int32) d1_75 rfl rfl rfl rfl ?_
          refine Go.goto 46 d1_78 (by decide) (by decide) ?_
          have f_143 := (Ea.keep Ki)
          have f_144 := (Fv.keep Ki (ninS (Ne.symm nxa) (ninS (Ne.symm nba) nin0)))
          have f_145 := (Fa.keep Ki (ninS (Ne.symm nxa) (ninS (Ne.symm nba) nin0)))
          have f_146 := (Ary.keep Ki Ar (ninS (Ne.symm nxr) (ninS (Ne.symm nbr) nin0)))
          have f_147 := (Or_.keep Ki)
          refine Go.sfN [] ?_
          exact ih _ _ _ _ (by rw [inc_nat (by omega) (by omega)]; omega) (by rw [inc_nat (by omega) (by omega)]; omega) (lu2.trans lus) (K0.trans Ki (allS (Or.inr lex0) (allS (Or.inr leb0) all0))) f_143 f_144 f_145 f_146 f_147 Ei Fwi Fui Ai
    have f_148 := (((Ea.ext E_133).keep Kb).wr Ws)
    have f_149 := ((f_137.keep Kb (ninS (Ne.symm nxa) nin0)).other Ws (Or.inl (Ne.symm ne_ra)))
    have f_150 := (((Fa.ext E_133).keep Kb (ninS (Ne.symm nxa) nin0)).other Ws (Or.inl (Ne.symm ne_ra)))
    have f_151 := (f_141.wr Ws)
    have f_152 := (Ex.wr Ws)
    have f_153 := (Fw.other Ws (Or.inl nxr))
    have f_154 := (Fu.other Ws (Or.inl nxr))
    have f_155 := (Ab.other Ws nbr)
    have Ab0 : Ary Z hs b .long ((List.replicate m (0 : Int64)).map Value.long) := by rw [List.map_replicate]; exact f_155
    refine Go.sfN [] ?_
    exact inn vc.toInt.toNat _ (0 : Int32) _ _ (by have e : (0 : Int32).toInt = 0 := rfl; omega) (by decide) List.length_replicate (((K0.ext E_133).trans Kb (allS (Or.inr lex0) all0)).wr Ws (Or.inr lea_r)) f_148 f_149 f_150 As f_151 f_152 f_153 f_154 Ab0
  have out6 : ∀ (h : Heap) (i : Int32) (s4 : Slot) (vs : List Value) (hi : i.toInt + 6 = n.toInt) (hi0 : 0 ≤ i.toInt) (hs4 : ∀ i : Int32, storeLocals #[.val (.ref a), .val (.int n), .val .null, .val (.int i), s4] 4 (.int 0) = some #[.val (.ref a), .val (.int n), .val .null, .val (.int i), .val (.int 0)]) (K0 : Keep h0 h [a]) (Ea : Exa Z h a "com/example/petrel/petrel/HoaLabel$Tables") (Fv : Fld Z h a "com/example/petrel/petrel/HoaLabel$Tables" "valuationCount" "I" (.int vc)) (Fa : Fld Z h a "com/example/petrel/petrel/HoaLabel$Tables" "aps" "[Ljava/util/BitSet;" (.ref r)) (Ar : Ary Z h r (.object "java/util/BitSet") vs) (lr : vs.length = nn) (Or_ : Ova Z h r "java/util/BitSet"), G_tabinit none l Z n0 a n vc nn m h0 3 12 [] h 21 #[.val (.ref a), .val (.int n), .val .null, .val (.int i), s4] [] := by
    intro h i s4 vs hi hi0 hs4 K0 Ea Fv Fa Ar lr Or_
    refine Go.iloadN 22 d1_21 rfl rfl ?_
    refine Go.iloadN 23 d1_22 rfl rfl ?_
    refine Go.icmpN 26 d1_23 rfl (tlt (toInt_lt.mpr (by omega))).2.1 ?_
    refine Go.aloadN 27 d1_26 rfl rfl rfl ?_
    refine Go.getF 30 d1_27 rfl (w13 hw) Via.refl Fa ?_
    refine Go.iloadN 31 d1_30 rfl rfl ?_
    refine Go.new 34 d1_31 rfl (w11 hw) (w15 hw) (w16 hw) (Nat.le_of_ble_eq_true rfl) (Nat.le_of_ble_eq_true rfl) (fun h_156 x_157 g_158 q_159 E_160 lt_161 A_162 D_163 => ?_)
    show G_tabinit none l Z n0 a n vc nn m h0 4 15 [x_157] h_156 34 #[.val (.ref a), .val (.int n), .val .null, .val (.int i), s4] [(.ref x_157), (.int i), (.ref r)]
    obtain ⟨x, rfl⟩ : ∃ y_ : Addr, y_ = x_157 := ⟨_, rfl⟩
    have lt_x := A_162.lt
    have sx : h.size ≤ x := Nat.le_of_eq g_158
    have lex0 : h0.size ≤ x := Nat.le_trans K0.1 sx
    have nxr : x ≠ r := Nat.ne_of_gt (Nat.lt_of_lt_of_le Ar.lt sx)
    have nxa : x ≠ a := Nat.ne_of_gt (Nat.lt_of_lt_of_le Ea.lt sx)
    show G_tabinit none l Z n0 a n vc nn m h0 4 15 [x] h_156 34 #[.val (.ref a), .val (.int n), .val .null, .val (.int i), s4] [(.ref x), (.int i), (.ref r)]
    refine Go.dup 35 d1_34 rfl rfl ?_
    refine Go.aloadN 36 d1_35 rfl rfl rfl ?_
    have f_164 := Fv.ext E_160
    refine Go.getF 39 d1_36 rfl (w9 hw) Via.refl f_164 ?_
    refine Go.old fun _ nq => ?_
    refine Go.callC (S := [(.ref x), (.int i), (.ref r)]) (a := x) 42 [(.int vc)] d1_39 rfl rfl rfl (w17 hw) (w18 hw) (w19 hw) (by decide) (call_of_go (R := _) (len := 3) (W := 3) (plainFor_of_name pn_0) (fun mid => ef_bsinit mid x vc m ) (c_bsinit hw x vc m A_162 q_159 (D_163 (Or.inl (w35 hw)) (ty := (.array .long)) (by decide)) (D_163 (Or.inl (w22 hw)) (ty := .int) (by decide)) (D_163 (Or.inl (w24 hw)) (ty := .boolean) (by decide)) (not_neg hv0) hm hm2) (w19 hw) (w16 hw) (by decide) (by decide)) (lenOf pd_1 rfl) (Nat.le_of_ble_eq_true rfl) rfl (Nat.le_of_ble_eq_true rfl) (Nat.le_of_ble_eq_true rfl) (fun _ q => q) (fun v hb sf_165 hq => ?_)
    obtain ⟨rfl, Kb, Ex, Fu, b, le_b, Fw, Ab⟩ := hq
    have n0b := Nat.le_trans nq le_b
    have nbx : b ≠ x := Nat.ne_of_gt (Nat.lt_of_lt_of_le lt_x le_b)
    have leb0 : h0.size ≤ b := Nat.le_trans lex0 (Nat.le_of_lt (Nat.lt_of_lt_of_le lt_x le_b))
    have nbr : b ≠ r := Nat.ne_of_gt (Nat.lt_of_lt_of_le (Ar.lt) (Nat.le_trans sx (Nat.le_of_lt (Nat.lt_of_lt_of_le lt_x le_b))))
    have nba : b ≠ a := Nat.ne_of_gt (Nat.lt_of_lt_of_le (Ea.lt) (Nat.le_trans sx (Nat.le_of_lt (Nat.lt_of_lt_of_le lt_x le_b))))
    refine Go.more (sf' := [x]) ?_ (Nat.le_refl _) (Nat.le_refl _) (fun _ q => List.mem_append_right _ q)
    show G_tabinit none l Z n0 a n vc nn m h0 5 17 [x] hb 42 #[.val (.ref a), .val (.int n), .val .null, .val (.int i), s4] [(.ref x), (.int i), (.ref r)]
    have X_166 : Ext h hb := extK E_160 Kb (allS (Nat.le_of_eq g_158) all0)
    have f_167 := Ar.ext X_166
    have f_168 := Or_.ext X_166
    refine Go.sfN [r, x] ?_
    refine Go.aastore i.toInt.toNat 43 d1_42 rfl f_167 (by omega) (by omega) (sto_of f_167 f_168 (Ins.self Ex)) rfl (List.mem_of_getElem? (i := 0) rfl) q_r (fun hs Ws As => ?_)
    refine Go.iconst 44 (0 : Int32) d1_43 rfl rfl ?_
    refine Go.istore 46 #[.val (.ref a), .val (.int n), .val .null, .val (.int i), .val (.int (0 : Int32))] d1_44 rfl (hs4 i) ?_
    have inn : ∀ (dd : Nat) (hj_ : Heap) (j k : Int32) (us : List Int64) (hjd : j.toInt + (dd : Int) = vc.toInt) (hj0 : 0 ≤ j.toInt) (lus : us.length = m) (K0 : Keep h0 hj_ [a]) (Ea : Exa Z hj_ a "com/example/petrel/petrel/HoaLabel$Tables") (Fv : Fld Z hj_ a "com/example/petrel/petrel/HoaLabel$Tables" "valuationCount" "I" (.int vc)) (Fa : Fld Z hj_ a "com/example/petrel/petrel/HoaLabel$Tables" "aps" "[Ljava/util/BitSet;" (.ref r)) (Ar : Ary Z hj_ r (.object "java/util/BitSet") (vs.set i.toInt.toNat (.ref x))) (Or_ : Ova Z hj_ r "java/util/BitSet") (Ex : Exa Z hj_ x "java/util/BitSet") (Fw : Fld Z hj_ x "java/util/BitSet" "words" "[J" (.ref b)) (Fu : Fld Z hj_ x "java/util/BitSet" "wordsInUse" "I" (.int k)) (Ab : Ary Z hj_ b .long (us.map Value.long)), G_tabinit none l Z n0 a n vc nn m h0 5 17 [] hj_ 46 #[.val (.ref a), .val (.int n), .val .null, .val (.int i), .val (.int j)] [] := by
      intro dd
      induction dd with
      | zero =>
        intro hj_ j k us hjd hj0 lus K0 Ea Fv Fa Ar Or_ Ex Fw Fu Ab
        refine Go.iload 48 d1_46 rfl rfl ?_
        refine Go.aloadN 49 d1_48 rfl rfl rfl ?_
        refine Go.getF 52 d1_49 rfl (w9 hw) Via.refl Fv ?_
        refine Go.icmpY 81 d1_52 (by decide) (by decide) (flt (fun z => by have := toInt_lt.mp z; omega)).2.1 ?_
        refine Go.iinc 84 #[.val (.ref a), .val (.int n), .val .null, .val (.int (i + (1 : Int32))), .val (.int j)] (1 : Int32) d1_81 rfl rfl rfl rfl ?_
        refine Go.goto 21 d1_84 (by decide) (by decide) ?_
        refine Go.more (cells' := 5) (slots' := 17) (sf' := []) ?_ (Nat.le_of_ble_eq_true rfl) (Nat.le_of_ble_eq_true rfl) (fun _ q => nomatch q)
        exact out5 _ _ _ _ (by rw [inc_nat (by omega) (by omega)]; omega) (by rw [inc_nat (by omega) (by omega)]; omega) (fun _ => rfl) K0 Ea Fv Fa Ar (by rw [List.length_set]; exact lr) Or_
      | succ dd ih =>
        intro hj_ j k us hjd hj0 lus K0 Ea Fv Fa Ar Or_ Ex Fw Fu Ab
        refine Go.iload 48 d1_46 rfl rfl ?_
        refine Go.aloadN 49 d1_48 rfl rfl rfl ?_
        refine Go.getF 52 d1_49 rfl (w9 hw) Via.refl Fv ?_
        refine Go.icmpN 55 d1_52 rfl (tlt (toInt_lt.mpr (by omega))).2.1 ?_
        refine Go.iload 57 d1_55 rfl rfl ?_
        refine Go.iloadN 58 d1_57 rfl rfl ?_
        refine Go.ishr 59 d1_58 rfl ?_
        refine Go.iconst 60 (1 : Int32) d1_59 rfl rfl ?_
        refine Go.iand 61 d1_60 rfl ?_
        by_cases hc61 : ((j >>> (i &&& 31)) &&& (1 : Int32)) = (0 : Int32)
        · skip
          refine Go.ifY 75 d1_61 (by decide) (by decide) (teq hc61).1 ?_
          refine Go.iinc 78 #[.val (.ref a), .val (.int n), .val .null, .val (.int i), .val (.int (j + (1 : Int32)))] (1 : Int32) d1_75 rfl rfl rfl rfl ?_
          refine Go.goto 46 d1_78 (by decide) (by decide) ?_
          refine Go.sfN [] ?_
          exact ih _ _ _ _ (by rw [inc_nat (by omega) (by omega)]; omega) (by rw [inc_nat (by omega) (by omega)]; omega) lus K0 Ea Fv Fa Ar Or_ Ex Fw Fu Ab
        · skip
          refine Go.ifN 64 d1_61 rfl (feq hc61).1 ?_
          refine Go.aloadN 65 d1_64 rfl rfl rfl ?_
          refine Go.getF 68 d1_65 rfl (w13 hw) Via.refl Fa ?_
          refine Go.iloadN 69 d1_68 rfl rfl ?_
          refine Go.aaload i.toInt.toNat 70 d1_69 rfl rfl Ar (by omega) (List.getElem?_set_self (by omega)) ?_
          refine Go.iload 72 d1_70 rfl rfl ?_
          obtain ⟨q, hq1, hq2⟩ := hj j (by omega) (by omega)
          refine Go.sfN [x, b] ?_
          refine Go.callV (S := []) (a := x) 75 [(.int j)] d1_72 rfl rfl (w37 hw) (w38 hw) (w40 hw) (w39 hw) (fun _ q => notFace_of_selects (args := #[]) (mvT q (w40 hw))) (by decide) Ex (call_of_go (R := _) (len := 3) (W := 0) (plainFor_of_name pn_0) (fun mid => ef_seti mid x b j k us q ) (c_seti hw x b j k us q Ex q_159 nbx Fw Fu Ab n0b (not_neg (by omega)) hq1 (by omega) (by omega) SA) (w41 hw) (w16 hw) (by decide) (by decide)) (lenOf pd_1 rfl) (Nat.le_of_ble_eq_true rfl) rfl (Nat.le_of_ble_eq_true rfl) (Nat.le_of_ble_eq_true rfl) (fun _ q => q) (fun v hi sf_169 hq => ?_)
          obtain ⟨rfl, Ki, Ei, Fwi, k2, us2, lu2, Fui, Ai⟩ := hq
          refine Go.more (sf' := [x, b]) ?_ (Nat.le_refl _) (Nat.le_refl _) (fun _ q => List.mem_append_right _ q)
          show G_tabinit none l Z n0 a n vc nn m h0 5 17 [x, b] hi 75 #[.val (.ref a), .val (.int n), .val .null, .val (.int i), .val (.int j)] []
          refine Go.iinc 78 #[.val (.ref a), .val (.int n), .val .null, .val (.int i), .val (.int (j + (1 : Int32)))] (1 : Int32) d1_75 rfl rfl rfl rfl ?_
          refine Go.goto 46 d1_78 (by decide) (by decide) ?_
          have f_170 := (Ea.keep Ki)
          have f_171 := (Fv.keep Ki (ninS (Ne.symm nxa) (ninS (Ne.symm nba) nin0)))
          have f_172 := (Fa.keep Ki (ninS (Ne.symm nxa) (ninS (Ne.symm nba) nin0)))
          have f_173 := (Ary.keep Ki Ar (ninS (Ne.symm nxr) (ninS (Ne.symm nbr) nin0)))
          have f_174 := (Or_.keep Ki)
          refine Go.sfN [] ?_
          exact ih _ _ _ _ (by rw [inc_nat (by omega) (by omega)]; omega) (by rw [inc_nat (by omega) (by omega)]; omega) (lu2.trans lus) (K0.trans Ki (allS (Or.inr lex0) (allS (Or.inr leb0) all0))) f_170 f_171 f_172 f_173 f_174 Ei Fwi Fui Ai
    have f_175 := (((Ea.ext E_160).keep Kb).wr Ws)
    have f_176 := ((f_164.keep Kb (ninS (Ne.symm nxa) nin0)).other Ws (Or.inl (Ne.symm ne_ra)))
    have f_177 := (((Fa.ext E_160).keep Kb (ninS (Ne.symm nxa) nin0)).other Ws (Or.inl (Ne.symm ne_ra)))
    have f_178 := (f_168.wr Ws)
    have f_179 := (Ex.wr Ws)
    have f_180 := (Fw.other Ws (Or.inl nxr))
    have f_181 := (Fu.other Ws (Or.inl nxr))
    have f_182 := (Ab.other Ws nbr)
    have Ab0 : Ary Z hs b .long ((List.replicate m (0 : Int64)).map Value.long) := by rw [List.map_replicate]; exact f_182
    refine Go.sfN [] ?_
    exact inn vc.toInt.toNat _ (0 : Int32) _ _ (by have e : (0 : Int32).toInt = 0 := rfl; omega) (by decide) List.length_replicate (((K0.ext E_160).trans Kb (allS (Or.inr lex0) all0)).wr Ws (Or.inr lea_r)) f_175 f_176 f_177 As f_178 f_179 f_180 f_181 Ab0
  have out7 : ∀ (h : Heap) (i : Int32) (s4 : Slot) (vs : List Value) (hi : i.toInt + 7 = n.toInt) (hi0 : 0 ≤ i.toInt) (hs4 : ∀ i : Int32, storeLocals #[.val (.ref a), .val (.int n), .val .null, .val (.int i), s4] 4 (.int 0) = some #[.val (.ref a), .val (.int n), .val .null, .val (.int i), .val (.int 0)]) (K0 : Keep h0 h [a]) (Ea : Exa Z h a "com/example/petrel/petrel/HoaLabel$Tables") (Fv : Fld Z h a "com/example/petrel/petrel/HoaLabel$Tables" "valuationCount" "I" (.int vc)) (Fa : Fld Z h a "com/example/petrel/petrel/HoaLabel$Tables" "aps" "[Ljava/util/BitSet;" (.ref r)) (Ar : Ary Z h r (.object "java/util/BitSet") vs) (lr : vs.length = nn) (Or_ : Ova Z h r "java/util/BitSet"), G_tabinit none l Z n0 a n vc nn m h0 1 7 [] h 21 #[.val (.ref a), .val (.int n), .val .null, .val (.int i), s4] [] := by
    intro h i s4 vs hi hi0 hs4 K0 Ea Fv Fa Ar lr Or_
    refine Go.iloadN 22 d1_21 rfl rfl ?_
    refine Go.iloadN 23 d1_22 rfl rfl ?_
    refine Go.icmpN 26 d1_23 rfl (tlt (toInt_lt.mpr (by omega))).2.1 ?_
    refine Go.aloadN 27 d1_26 rfl rfl rfl ?_
    refine Go.getF 30 d1_27 rfl (w13 hw) Via.refl Fa ?_
    refine Go.iloadN 31 d1_30 rfl rfl ?_
    refine Go.new 34 d1_31 rfl (w11 hw) (w15 hw) (w16 hw) (Nat.le_of_ble_eq_true rfl) (Nat.le_of_ble_eq_true rfl) (fun h_183 x_184 g_185 q_186 E_187 lt_188 A_189 D_190 => ?_)
    show G_tabinit none l Z n0 a n vc nn m h0 2 10 [x_184] h_183 34 #[.val (.ref a), .val (.int n), .val .null, .val (.int i), s4] [(.ref x_184), (.int i), (.ref r)]
    obtain ⟨x, rfl⟩ : ∃ y_ : Addr, y_ = x_184 := ⟨_, rfl⟩
    have lt_x := A_189.lt
    have sx : h.size ≤ x := Nat.le_of_eq g_185
    have lex0 : h0.size ≤ x := Nat.le_trans K0.1 sx
    have nxr : x ≠ r := Nat.ne_of_gt (Nat.lt_of_lt_of_le Ar.lt sx)
    have nxa : x ≠ a := Nat.ne_of_gt (Nat.lt_of_lt_of_le Ea.lt sx)
    show G_tabinit none l Z n0 a n vc nn m h0 2 10 [x] h_183 34 #[.val (.ref a), .val (.int n), .val .null, .val (.int i), s4] [(.ref x), (.int i), (.ref r)]
    refine Go.dup 35 d1_34 rfl rfl ?_
    refine Go.aloadN 36 d1_35 rfl rfl rfl ?_
    have f_191 := Fv.ext E_187
    refine Go.getF 39 d1_36 rfl (w9 hw) Via.refl f_191 ?_
    refine Go.old fun _ nq => ?_
    refine Go.callC (S := [(.ref x), (.int i), (.ref r)]) (a := x) 42 [(.int vc)] d1_39 rfl rfl rfl (w17 hw) (w18 hw) (w19 hw) (by decide) (call_of_go (R := _) (len := 3) (W := 3) (plainFor_of_name pn_0) (fun mid => ef_bsinit mid x vc m ) (c_bsinit hw x vc m A_189 q_186 (D_190 (Or.inl (w35 hw)) (ty := (.array .long)) (by decide)) (D_190 (Or.inl (w22 hw)) (ty := .int) (by decide)) (D_190 (Or.inl (w24 hw)) (ty := .boolean) (by decide)) (not_neg hv0) hm hm2) (w19 hw) (w16 hw) (by decide) (by decide)) (lenOf pd_1 rfl) (Nat.le_of_ble_eq_true rfl) rfl (Nat.le_of_ble_eq_true rfl) (Nat.le_of_ble_eq_true rfl) (fun _ q => q) (fun v hb sf_192 hq => ?_)
    obtain ⟨rfl, Kb, Ex, Fu, b, le_b, Fw, Ab⟩ := hq
    have n0b := Nat.le_trans nq le_b
    have nbx : b ≠ x := Nat.ne_of_gt (Nat.lt_of_lt_of_le lt_x le_b)
    have leb0 : h0.size ≤ b := Nat.le_trans lex0 (Nat.le_of_lt (Nat.lt_of_lt_of_le lt_x le_b))
    have nbr : b ≠ r := Nat.ne_of_gt (Nat.lt_of_lt_of_le (Ar.lt) (Nat.le_trans sx (Nat.le_of_lt (Nat.lt_of_lt_of_le lt_x le_b))))
    have nba : b ≠ a := Nat.ne_of_gt (Nat.lt_of_lt_of_le (Ea.lt) (Nat.le_trans sx (Nat.le_of_lt (Nat.lt_of_lt_of_le lt_x le_b))))
    refine Go.more (sf' := [x]) ?_ (Nat.le_refl _) (Nat.le_refl _) (fun _ q => List.mem_append_right _ q)
    show G_tabinit none l Z n0 a n vc nn m h0 3 12 [x] hb 42 #[.val (.ref a), .val (.int n), .val .null, .val (.int i), s4] [(.ref x), (.int i), (.ref r)]
    have X_193 : Ext h hb := extK E_187 Kb (allS (Nat.le_of_eq g_185) all0)
    have f_194 := Ar.ext X_193
    have f_195 := Or_.ext X_193
    refine Go.sfN [r, x] ?_
    refine Go.aastore i.toInt.toNat 43 d1_42 rfl f_194 (by omega) (by omega) (sto_of f_194 f_195 (Ins.self Ex)) rfl (List.mem_of_getElem? (i := 0) rfl) q_r (fun hs Ws As => ?_)
    refine Go.iconst 44 (0 : Int32) d1_43 rfl rfl ?_
    refine Go.istore 46 #[.val (.ref a), .val (.int n), .val .null, .val (.int i), .val (.int (0 : Int32))] d1_44 rfl (hs4 i) ?_
    have inn : ∀ (dd : Nat) (hj_ : Heap) (j k : Int32) (us : List Int64) (hjd : j.toInt + (dd : Int) = vc.toInt) (hj0 : 0 ≤ j.toInt) (lus : us.length = m) (K0 : Keep h0 hj_ [a]) (Ea : Exa Z hj_ a "com/example/petrel/petrel/HoaLabel$Tables") (Fv : Fld Z hj_ a "com/example/petrel/petrel/HoaLabel$Tables" "valuationCount" "I" (.int vc)) (Fa : Fld Z hj_ a "com/example/petrel/petrel/HoaLabel$Tables" "aps" "[Ljava/util/BitSet;" (.ref r)) (Ar : Ary Z hj_ r (.object "java/util/BitSet") (vs.set i.toInt.toNat (.ref x))) (Or_ : Ova Z hj_ r "java/util/BitSet") (Ex : Exa Z hj_ x "java/util/BitSet") (Fw : Fld Z hj_ x "java/util/BitSet" "words" "[J" (.ref b)) (Fu : Fld Z hj_ x "java/util/BitSet" "wordsInUse" "I" (.int k)) (Ab : Ary Z hj_ b .long (us.map Value.long)), G_tabinit none l Z n0 a n vc nn m h0 3 12 [] hj_ 46 #[.val (.ref a), .val (.int n), .val .null, .val (.int i), .val (.int j)] [] := by
      intro dd
      induction dd with
      | zero =>
        intro hj_ j k us hjd hj0 lus K0 Ea Fv Fa Ar Or_ Ex Fw Fu Ab
        refine Go.iload 48 d1_46 rfl rfl ?_
        refine Go.aloadN 49 d1_48 rfl rfl rfl ?_
        refine Go.getF 52 d1_49 rfl (w9 hw) Via.refl Fv ?_
        refine Go.icmpY 81 d1_52 (by decide) (by decide) (flt (fun z => by have := toInt_lt.mp z; omega)).2.1 ?_
        refine Go.iinc 84 #[.val (.ref a), .val (.int n), .val .null, .val (.int (i + (1 : Int32))), .val (.int j)] (1 : Int32) d1_81 rfl rfl rfl rfl ?_
        refine Go.goto 21 d1_84 (by decide) (by decide) ?_
        refine Go.more (cells' := 3) (slots' := 12) (sf' := []) ?_ (Nat.le_of_ble_eq_true rfl) (Nat.le_of_ble_eq_true rfl) (fun _ q => nomatch q)
        exact out6 _ _ _ _ (by rw [inc_nat (by omega) (by omega)]; omega) (by rw [inc_nat (by omega) (by omega)]; omega) (fun _ => rfl) K0 Ea Fv Fa Ar (by rw [List.length_set]; exact lr) Or_
      | succ dd ih =>
        intro hj_ j k us hjd hj0 lus K0 Ea Fv Fa Ar Or_ Ex Fw Fu Ab
        refine Go.iload 48 d1_46 rfl rfl ?_
        refine Go.aloadN 49 d1_48 rfl rfl rfl ?_
        refine Go.getF 52 d1_49 rfl (w9 hw) Via.refl Fv ?_
        refine Go.icmpN 55 d1_52 rfl (tlt (toInt_lt.mpr (by omega))).2.1 ?_
        refine Go.iload 57 d1_55 rfl rfl ?_
        refine Go.iloadN 58 d1_57 rfl rfl ?_
        refine Go.ishr 59 d1_58 rfl ?_
        refine Go.iconst 60 (1 : Int32) d1_59 rfl rfl ?_
        refine Go.iand 61 d1_60 rfl ?_
        by_cases hc61 : ((j >>> (i &&& 31)) &&& (1 : Int32)) = (0 : Int32)
        · skip
          refine Go.ifY 75 d1_61 (by decide) (by decide) (teq hc61).1 ?_
          refine Go.iinc 78 #[.val (.ref a), .val (.int n), .val .null, .val (.int i), .val (.int (j + (1 : Int32)))] (1 : Int32) d1_75 rfl rfl rfl rfl ?_
          refine Go.goto 46 d1_78 (by decide) (by decide) ?_
          refine Go.sfN [] ?_
          exact ih _ _ _ _ (by rw [inc_nat (by omega) (by omega)]; omega) (by rw [inc_nat (by omega) (by omega)]; omega) lus K0 Ea Fv Fa Ar Or_ Ex Fw Fu Ab
        · skip
          refine Go.ifN 64 d1_61 rfl (feq hc61).1 ?_
          refine Go.aloadN 65 d1_64 rfl rfl rfl ?_
          refine Go.getF 68 d1_65 rfl (w13 hw) Via.refl Fa ?_
          refine Go.iloadN 69 d1_68 rfl rfl ?_
          refine Go.aaload i.toInt.toNat 70 d1_69 rfl rfl Ar (by omega) (List.getElem?_set_self (by omega)) ?_
          refine Go.iload 72 d1_70 rfl rfl ?_
          obtain ⟨q, hq1, hq2⟩ := hj j (by omega) (by omega)
          refine Go.sfN [x, b] ?_
          refine Go.callV (S := []) (a := x) 75 [(.int j)] d1_72 rfl rfl (w37 hw) (w38 hw) (w40 hw) (w39 hw) (fun _ q => notFace_of_selects (args := #[]) (mvT q (w40 hw))) (by decide) Ex (call_of_go (R := _) (len := 3) (W := 0) (plainFor_of_name pn_0) (fun mid => ef_seti mid x b j k us q ) (c_seti hw x b j k us q Ex q_186 nbx Fw Fu Ab n0b (not_neg (by omega)) hq1 (by omega) (by omega) SA) (w41 hw) (w16 hw) (by decide) (by decide)) (lenOf pd_1 rfl) (Nat.le_of_ble_eq_true rfl) rfl (Nat.le_of_ble_eq_true rfl) (Nat.le_of_ble_eq_true rfl) (fun _ q => q) (fun v hi sf_196 hq => ?_)
          obtain ⟨rfl, Ki, Ei, Fwi, k2, us2, lu2, Fui, Ai⟩ := hq
          refine Go.more (sf' := [x, b]) ?_ (Nat.le_refl _) (Nat.le_refl _) (fun _ q => List.mem_append_right _ q)
          show G_tabinit none l Z n0 a n vc nn m h0 3 12 [x, b] hi 75 #[.val (.ref a), .val (.int n), .val .null, .val (.int i), .val (.int j)] []
          refine Go.iinc 78 #[.val (.ref a), .val (.int n), .val .null, .val (.int i), .val (.int (j + (1 : Int32)))] (1 : Int32) d1_75 rfl rfl rfl rfl ?_
          refine Go.goto 46 d1_78 (by decide) (by decide) ?_
          have f_197 := (Ea.keep Ki)
          have f_198 := (Fv.keep Ki (ninS (Ne.symm nxa) (ninS (Ne.symm nba) nin0)))
          have f_199 := (Fa.keep Ki (ninS (Ne.symm nxa) (ninS (Ne.symm nba) nin0)))
          have f_200 := (Ary.keep Ki Ar (ninS (Ne.symm nxr) (ninS (Ne.symm nbr) nin0)))
          have f_201 := (Or_.keep Ki)
          refine Go.sfN [] ?_
          exact ih _ _ _ _ (by rw [inc_nat (by omega) (by omega)]; omega) (by rw [inc_nat (by omega) (by omega)]; omega) (lu2.trans lus) (K0.trans Ki (allS (Or.inr lex0) (allS (Or.inr leb0) all0))) f_197 f_198 f_199 f_200 f_201 Ei Fwi Fui Ai
    have f_202 := (((Ea.ext E_187).keep Kb).wr Ws)
    have f_203 := ((f_191.keep Kb (ninS (Ne.symm nxa) nin0)).other Ws (Or.inl (Ne.symm ne_ra)))
    have f_204 := (((Fa.ext E_187).keep Kb (ninS (Ne.symm nxa) nin0)).other Ws (Or.inl (Ne.symm ne_ra)))
    have f_205 := (f_195.wr Ws)
    have f_206 := (Ex.wr Ws)
    have f_207 := (Fw.other Ws (Or.inl nxr))
    have f_208 := (Fu.other Ws (Or.inl nxr))
    have f_209 := (Ab.other Ws nbr)
    have Ab0 : Ary Z hs b .long ((List.replicate m (0 : Int64)).map Value.long) := by rw [List.map_replicate]; exact f_209
    refine Go.sfN [] ?_
    exact inn vc.toInt.toNat _ (0 : Int32) _ _ (by have e : (0 : Int32).toInt = 0 := rfl; omega) (by decide) List.length_replicate (((K0.ext E_187).trans Kb (allS (Or.inr lex0) all0)).wr Ws (Or.inr lea_r)) f_202 f_203 f_204 As f_205 f_206 f_207 f_208 Ab0
  refine Go.more (sf' := []) ?_ (Nat.le_refl _) (Nat.le_refl _) (fun _ q => nomatch q)
  rcases (show nn = 0 ∨ nn = 1 ∨ nn = 2 ∨ nn = 3 ∨ nn = 4 ∨ nn = 5 ∨ nn = 6 ∨ nn = 7 by omega) with en | en | en | en | en | en | en | en
  · refine Go.more (cells' := 15) (slots' := 42) (sf' := []) ?_ (Nat.le_of_ble_eq_true rfl) (Nat.le_of_ble_eq_true rfl) (fun _ q => nomatch q)
    exact out0 _ (0 : Int32) _ _ (by have e : (0 : Int32).toInt = 0 := rfl; omega) (by decide) (fun _ => rfl) ((((Keep.refl h0 [a]).wr W_2 (Or.inl (List.mem_of_getElem? (i := 0) rfl))).ext E_4).wr W_10 (Or.inl (List.mem_of_getElem? (i := 0) rfl))) f_11 f_12 (fo_8.same W_10) f_13 (by simp) f_14
  · refine Go.more (cells' := 13) (slots' := 37) (sf' := []) ?_ (Nat.le_of_ble_eq_true rfl) (Nat.le_of_ble_eq_true rfl) (fun _ q => nomatch q)
    exact out1 _ (0 : Int32) _ _ (by have e : (0 : Int32).toInt = 0 := rfl; omega) (by decide) (fun _ => rfl) ((((Keep.refl h0 [a]).wr W_2 (Or.inl (List.mem_of_getElem? (i := 0) rfl))).ext E_4).wr W_10 (Or.inl (List.mem_of_getElem? (i := 0) rfl))) f_11 f_12 (fo_8.same W_10) f_13 (by simp) f_14
  · refine Go.more (cells' := 11) (slots' := 32) (sf' := []) ?_ (Nat.le_of_ble_eq_true rfl) (Nat.le_of_ble_eq_true rfl) (fun _ q => nomatch q)
    exact out2 _ (0 : Int32) _ _ (by have e : (0 : Int32).toInt = 0 := rfl; omega) (by decide) (fun _ => rfl) ((((Keep.refl h0 [a]).wr W_2 (Or.inl (List.mem_of_getElem? (i := 0) rfl))).ext E_4).wr W_10 (Or.inl (List.mem_of_getElem? (i := 0) rfl))) f_11 f_12 (fo_8.same W_10) f_13 (by simp) f_14
  · refine Go.more (cells' := 9) (slots' := 27) (sf' := []) ?_ (Nat.le_of_ble_eq_true rfl) (Nat.le_of_ble_eq_true rfl) (fun _ q => nomatch q)
    exact out3 _ (0 : Int32) _ _ (by have e : (0 : Int32).toInt = 0 := rfl; omega) (by decide) (fun _ => rfl) ((((Keep.refl h0 [a]).wr W_2 (Or.inl (List.mem_of_getElem? (i := 0) rfl))).ext E_4).wr W_10 (Or.inl (List.mem_of_getElem? (i := 0) rfl))) f_11 f_12 (fo_8.same W_10) f_13 (by simp) f_14
  · refine Go.more (cells' := 7) (slots' := 22) (sf' := []) ?_ (Nat.le_of_ble_eq_true rfl) (Nat.le_of_ble_eq_true rfl) (fun _ q => nomatch q)
    exact out4 _ (0 : Int32) _ _ (by have e : (0 : Int32).toInt = 0 := rfl; omega) (by decide) (fun _ => rfl) ((((Keep.refl h0 [a]).wr W_2 (Or.inl (List.mem_of_getElem? (i := 0) rfl))).ext E_4).wr W_10 (Or.inl (List.mem_of_getElem? (i := 0) rfl))) f_11 f_12 (fo_8.same W_10) f_13 (by simp) f_14
  · refine Go.more (cells' := 5) (slots' := 17) (sf' := []) ?_ (Nat.le_of_ble_eq_true rfl) (Nat.le_of_ble_eq_true rfl) (fun _ q => nomatch q)
    exact out5 _ (0 : Int32) _ _ (by have e : (0 : Int32).toInt = 0 := rfl; omega) (by decide) (fun _ => rfl) ((((Keep.refl h0 [a]).wr W_2 (Or.inl (List.mem_of_getElem? (i := 0) rfl))).ext E_4).wr W_10 (Or.inl (List.mem_of_getElem? (i := 0) rfl))) f_11 f_12 (fo_8.same W_10) f_13 (by simp) f_14
  · refine Go.more (cells' := 3) (slots' := 12) (sf' := []) ?_ (Nat.le_of_ble_eq_true rfl) (Nat.le_of_ble_eq_true rfl) (fun _ q => nomatch q)
    exact out6 _ (0 : Int32) _ _ (by have e : (0 : Int32).toInt = 0 := rfl; omega) (by decide) (fun _ => rfl) ((((Keep.refl h0 [a]).wr W_2 (Or.inl (List.mem_of_getElem? (i := 0) rfl))).ext E_4).wr W_10 (Or.inl (List.mem_of_getElem? (i := 0) rfl))) f_11 f_12 (fo_8.same W_10) f_13 (by simp) f_14
  · refine Go.more (cells' := 1) (slots' := 7) (sf' := []) ?_ (Nat.le_of_ble_eq_true rfl) (Nat.le_of_ble_eq_true rfl) (fun _ q => nomatch q)
    exact out7 _ (0 : Int32) _ _ (by have e : (0 : Int32).toInt = 0 := rfl; omega) (by decide) (fun _ => rfl) ((((Keep.refl h0 [a]).wr W_2 (Or.inl (List.mem_of_getElem? (i := 0) rfl))).ext E_4).wr W_10 (Or.inl (List.mem_of_getElem? (i := 0) rfl))) f_11 f_12 (fo_8.same W_10) f_13 (by simp) f_14
abbrev G_clr (md : Md) (l : Launch) (Z : State) (n0 : Nat) (a : Addr) (y : Int32) (h0 : Heap) := Go md l Z n0 ({ frames := 1, cells := 0, slots := 0, locals := 13 } : Room) jdk_92_method_24_code 10 none "java/util/BitSet" "clear" (fun v h' _ => h0 = h' ∧ v = none)
theorem ef_clr (mid : MethodId) (a : Addr) (y : Int32)  : entryFrame mid #[(.ref a), (.int (0 : Int32)), (.int y)] 10 = mkF mid 0 #[.val (.ref a), .val (.int (0 : Int32)), .val (.int y), .unset, .unset, .unset, .unset, .unset, .unset, .unset] [] := by first | (simp [entryFrame, mkF, argsToLocals, Value.category]; done) | rfl
set_option maxRecDepth 65536 in
set_option maxHeartbeats 40000000 in
theorem c_clr {md : Md} {l : Launch} {Z : State} {n0 : Nat} {a0 : Array Value} (hw : HW a0 Z) (a : Addr) (y : Int32) {h0 : Heap} (F2 : Fld Z h0 a "java/util/BitSet" "wordsInUse" "I" (.int 0)) (hy : ¬ y < 0) (hyn : ¬ (0 : Int32) = y) : G_clr md l Z n0 a y h0 0 0 [] h0 0 #[.val (.ref a), .val (.int (0 : Int32)), .val (.int y), .unset, .unset, .unset, .unset, .unset, .unset, .unset] [] := by
  refine Go.iloadN 1 d14_0 rfl rfl ?_
  refine Go.iloadN 2 d14_1 rfl rfl ?_
  refine Go.callS (S := []) 5 [(.int (0 : Int32)), (.int y)] d14_2 rfl rfl (w93 hw) (w94 hw) (w16 hw) (w95 hw) (by decide) (call_of_go (R := _) (len := 3) (W := 0) (plainFor_of_name pn_0) (fun mid => ef_cr mid (0 : Int32) y ) (c_cr hw (0 : Int32) y (by decide) hy hy) (w95 hw) (w16 hw) (by decide) (by decide)) (lenOf pd_3 rfl) (Nat.le_of_ble_eq_true rfl) rfl (Nat.le_of_ble_eq_true rfl) (Nat.le_of_ble_eq_true rfl) (fun _ q => nomatch q) (fun v h_1 sf_2 hq => ?_)
  obtain ⟨rfl, rfl⟩ := hq
  refine Go.more (sf' := []) ?_ (Nat.le_refl _) (Nat.le_refl _) (fun _ q => List.mem_append_right _ q)
  show G_clr md l Z n0 a y h0 0 0 [] h0 5 #[.val (.ref a), .val (.int (0 : Int32)), .val (.int y), .unset, .unset, .unset, .unset, .unset, .unset, .unset] []
  refine Go.iloadN 6 d14_5 rfl rfl ?_
  refine Go.iloadN 7 d14_6 rfl rfl ?_
  refine Go.icmpY 11 d14_7 (by decide) (by decide) (feq hyn).2 ?_
  refine Go.iloadN 12 d14_11 rfl rfl ?_
  refine Go.callS (S := []) 15 [(.int (0 : Int32))] d14_12 rfl rfl (w30 hw) (w31 hw) (w16 hw) (w32 hw) (by decide) (call_of_go (R := _) (len := 3) (W := 0) (plainFor_of_name pn_0) (fun mid => ef_wi mid (0 : Int32) ) (c_wi hw (0 : Int32) ) (w32 hw) (w16 hw) (by decide) (by decide)) (lenOf pd_0 rfl) (Nat.le_of_ble_eq_true rfl) rfl (Nat.le_of_ble_eq_true rfl) (Nat.le_of_ble_eq_true rfl) (fun _ q => nomatch q) (fun v h_3 sf_4 hq => ?_)
  obtain ⟨rfl, rfl⟩ := hq
  refine Go.more (sf' := []) ?_ (Nat.le_refl _) (Nat.le_refl _) (fun _ q => List.mem_append_right _ q)
  show G_clr md l Z n0 a y h0 0 0 [] h0 15 #[.val (.ref a), .val (.int (0 : Int32)), .val (.int y), .unset, .unset, .unset, .unset, .unset, .unset, .unset] [(.int ((0 : Int32) >>> ((6 : Int32) &&& 31)))]
  refine Go.istoreN 16 #[.val (.ref a), .val (.int (0 : Int32)), .val (.int y), .val (.int ((0 : Int32) >>> ((6 : Int32) &&& 31))), .unset, .unset, .unset, .unset, .unset, .unset] d14_15 rfl rfl ?_
  refine Go.iloadN 17 d14_16 rfl rfl ?_
  refine Go.aloadN 18 d14_17 rfl rfl rfl ?_
  refine Go.getF 21 d14_18 rfl (w21 hw) Via.refl F2 ?_
  refine Go.icmpN 24 d14_21 rfl (flt (by decide)).1 ?_
  exact Go.ret0 d14_24 rfl (sf' := []) (⟨rfl, rfl⟩) (fun _ q => nomatch q) (Nat.le_of_ble_eq_true rfl) (Nat.le_of_ble_eq_true rfl)
abbrev G_setr1 (md : Md) (l : Launch) (Z : State) (n0 : Nat) (a b : Addr) (y : Int32) (h0 : Heap) := Go md l Z n0 ({ frames := 2, cells := 0, slots := 0, locals := 28 } : Room) jdk_92_method_21_code 10 none "java/util/BitSet" "set" (fun v h' _ => v = none ∧ Keep h0 h' [a, b] ∧ Exa Z h' a "java/util/BitSet" ∧ Fld Z h' a "java/util/BitSet" "words" "[J" (.ref b) ∧ Fld Z h' a "java/util/BitSet" "wordsInUse" "I" (.int 1) ∧ Ary Z h' b .long [(.long ((0 : Int64) ||| (((-1 : Int64) <<< ((0 : Int32) &&& 0x3f).toInt64) &&& (ushrL (-1 : Int64) (-y)))))])
theorem ef_setr1 (mid : MethodId) (a b : Addr) (y : Int32)  : entryFrame mid #[(.ref a), (.int (0 : Int32)), (.int y)] 10 = mkF mid 0 #[.val (.ref a), .val (.int (0 : Int32)), .val (.int y), .unset, .unset, .unset, .unset, .unset, .unset, .unset] [] := by first | (simp [entryFrame, mkF, argsToLocals, Value.category]; done) | rfl
set_option maxRecDepth 65536 in
set_option maxHeartbeats 40000000 in
theorem c_setr1 {l : Launch} {Z : State} {n0 : Nat} {a0 : Array Value} (hw : HW a0 Z) (a b : Addr) (y : Int32) {h0 : Heap} (E : Exa Z h0 a "java/util/BitSet") (n0a : n0 ≤ a) (nba : b ≠ a) (F1 : Fld Z h0 a "java/util/BitSet" "words" "[J" (.ref b)) (F2 : Fld Z h0 a "java/util/BitSet" "wordsInUse" "I" (.int 0)) (A : Ary Z h0 b .long [(.long (0 : Int64))]) (n0b : n0 ≤ b) (hy : ¬ y < 0) (hyn : ¬ (0 : Int32) = y) (he : ((y - (1 : Int32)) >>> ((6 : Int32) &&& 31)) = (0 : Int32)) (SA : Sta Z Z.heap "java/util/BitSet" "$assertionsDisabled" "Z" (.int 1)) : G_setr1 none l Z n0 a b y h0 0 0 [a, b] h0 0 #[.val (.ref a), .val (.int (0 : Int32)), .val (.int y), .unset, .unset, .unset, .unset, .unset, .unset, .unset] [] := by
  refine Go.iloadN 1 d22_0 rfl rfl ?_
  refine Go.iloadN 2 d22_1 rfl rfl ?_
  refine Go.callS (S := []) 5 [(.int (0 : Int32)), (.int y)] d22_2 rfl rfl (w93 hw) (w94 hw) (w16 hw) (w95 hw) (by decide) (call_of_go (R := _) (len := 3) (W := 0) (plainFor_of_name pn_0) (fun mid => ef_cr mid (0 : Int32) y ) (c_cr hw (0 : Int32) y (by decide) hy hy) (w95 hw) (w16 hw) (by decide) (by decide)) (lenOf pd_3 rfl) (Nat.le_of_ble_eq_true rfl) rfl (Nat.le_of_ble_eq_true rfl) (Nat.le_of_ble_eq_true rfl) (fun _ q => nomatch q) (fun v h_1 sf_2 hq => ?_)
  obtain ⟨rfl, rfl⟩ := hq
  refine Go.more (sf' := [a, b]) ?_ (Nat.le_refl _) (Nat.le_refl _) (fun _ q => List.mem_append_right _ q)
  show G_setr1 none l Z n0 a b y h0 0 0 [a, b] h0 5 #[.val (.ref a), .val (.int (0 : Int32)), .val (.int y), .unset, .unset, .unset, .unset, .unset, .unset, .unset] []
  refine Go.iloadN 6 d22_5 rfl rfl ?_
  refine Go.iloadN 7 d22_6 rfl rfl ?_
  refine Go.icmpY 11 d22_7 (by decide) (by decide) (feq hyn).2 ?_
  refine Go.iloadN 12 d22_11 rfl rfl ?_
  refine Go.callS (S := []) 15 [(.int (0 : Int32))] d22_12 rfl rfl (w30 hw) (w31 hw) (w16 hw) (w32 hw) (by decide) (call_of_go (R := _) (len := 3) (W := 0) (plainFor_of_name pn_0) (fun mid => ef_wi mid (0 : Int32) ) (c_wi hw (0 : Int32) ) (w32 hw) (w16 hw) (by decide) (by decide)) (lenOf pd_0 rfl) (Nat.le_of_ble_eq_true rfl) rfl (Nat.le_of_ble_eq_true rfl) (Nat.le_of_ble_eq_true rfl) (fun _ q => nomatch q) (fun v h_3 sf_4 hq => ?_)
  obtain ⟨rfl, rfl⟩ := hq
  refine Go.more (sf' := [a, b]) ?_ (Nat.le_refl _) (Nat.le_refl _) (fun _ q => List.mem_append_right _ q)
  show G_setr1 none l Z n0 a b y h0 0 0 [a, b] h0 15 #[.val (.ref a), .val (.int (0 : Int32)), .val (.int y), .unset, .unset, .unset, .unset, .unset, .unset, .unset] [(.int ((0 : Int32) >>> ((6 : Int32) &&& 31)))]
  rw [show ((0 : Int32) >>> ((6 : Int32) &&& 31)) = (0 : Int32) from by decide]
  show G_setr1 none l Z n0 a b y h0 0 0 [a, b] h0 15 #[.val (.ref a), .val (.int (0 : Int32)), .val (.int y), .unset, .unset, .unset, .unset, .unset, .unset, .unset] [(.int (0 : Int32))]
  refine Go.istoreN 16 #[.val (.ref a), .val (.int (0 : Int32)), .val (.int y), .val (.int (0 : Int32)), .unset, .unset, .unset, .unset, .unset, .unset] d22_15 rfl rfl ?_
  refine Go.iloadN 17 d22_16 rfl rfl ?_
  refine Go.iconst 18 (1 : Int32) d22_17 rfl rfl ?_
  refine Go.isub 19 d22_18 rfl ?_
  refine Go.callS (S := []) 22 [(.int (y - (1 : Int32)))] d22_19 rfl rfl (w30 hw) (w31 hw) (w16 hw) (w32 hw) (by decide) (call_of_go (R := _) (len := 3) (W := 0) (plainFor_of_name pn_0) (fun mid => ef_wi mid (y - (1 : Int32)) ) (c_wi hw (y - (1 : Int32)) ) (w32 hw) (w16 hw) (by decide) (by decide)) (lenOf pd_0 rfl) (Nat.le_of_ble_eq_true rfl) rfl (Nat.le_of_ble_eq_true rfl) (Nat.le_of_ble_eq_true rfl) (fun _ q => nomatch q) (fun v h_5 sf_6 hq => ?_)
  obtain ⟨rfl, rfl⟩ := hq
  refine Go.more (sf' := [a, b]) ?_ (Nat.le_refl _) (Nat.le_refl _) (fun _ q => List.mem_append_right _ q)
  show G_setr1 none l Z n0 a b y h0 0 0 [a, b] h0 22 #[.val (.ref a), .val (.int (0 : Int32)), .val (.int y), .val (.int (0 : Int32)), .unset, .unset, .unset, .unset, .unset, .unset] [(.int ((y - (1 : Int32)) >>> ((6 : Int32) &&& 31)))]
  rw [show ((y - (1 : Int32)) >>> ((6 : Int32) &&& 31)) = (0 : Int32) from he]
  show G_setr1 none l Z n0 a b y h0 0 0 [a, b] h0 22 #[.val (.ref a), .val (.int (0 : Int32)), .val (.int y), .val (.int (0 : Int32)), .unset, .unset, .unset, .unset, .unset, .unset] [(.int (0 : Int32))]
  refine Go.istore 24 #[.val (.ref a), .val (.int (0 : Int32)), .val (.int y), .val (.int (0 : Int32)), .val (.int (0 : Int32)), .unset, .unset, .unset, .unset, .unset] d22_22 rfl rfl ?_
  refine Go.aloadN 25 d22_24 rfl rfl rfl ?_
  refine Go.iload 27 d22_25 rfl rfl ?_
  refine Go.callP (S := []) (a := a) 30 [(.int (0 : Int32))] d22_27 rfl rfl (w42 hw) (w43 hw) (w45 hw) (w44 hw) (w46 hw) (by decide) E (call_of_go (R := _) (len := 3) (W := 0) (plainFor_of_name pn_0) (fun mid => ef_exp mid a b (0 : Int32) (0 : Int32) [(.long (0 : Int64))] ) (c_exp hw a b (0 : Int32) (0 : Int32) [(.long (0 : Int64))] E n0a nba F1 F2 A (by show ¬ Int32.ofNat 1 < (0 : Int32) + (1 : Int32); decide)) (w46 hw) (w16 hw) (by decide) (by decide)) (lenOf pd_1 rfl) (Nat.le_of_ble_eq_true rfl) rfl (Nat.le_of_ble_eq_true rfl) (Nat.le_of_ble_eq_true rfl) (sub1 (List.mem_of_getElem? (i := 0) rfl)) (fun v h_7 sf_14 hq => ?_)
  obtain ⟨rfl, K_8, E_9, G_10, G_11, A_12⟩ := hq
  have G_13 : Fld Z h_7 a "java/util/BitSet" "wordsInUse" "I" (.int (1 : Int32)) := by have q_ := G_11; rw [show (if (0 : Int32) < (0 : Int32) + (1 : Int32) then (0 : Int32) + (1 : Int32) else (0 : Int32)) = (1 : Int32) from by decide] at q_; exact q_
  refine Go.more (sf' := [a, b]) ?_ (Nat.le_refl _) (Nat.le_refl _) (fun _ q => List.mem_append_right _ q)
  show G_setr1 none l Z n0 a b y h0 0 0 [a, b] h_7 30 #[.val (.ref a), .val (.int (0 : Int32)), .val (.int y), .val (.int (0 : Int32)), .val (.int (0 : Int32)), .unset, .unset, .unset, .unset, .unset] []
  refine Go.ldc2J 33 d22_30 rfl (w120 hw) ?_
  refine Go.iloadN 34 d22_33 rfl rfl ?_
  refine Go.lshl 35 d22_34 rfl ?_
  refine Go.lstore 37 #[.val (.ref a), .val (.int (0 : Int32)), .val (.int y), .val (.int (0 : Int32)), .val (.int (0 : Int32)), .val (.long ((-1 : Int64) <<< ((0 : Int32) &&& 0x3f).toInt64)), .second, .unset, .unset, .unset] d22_35 rfl rfl ?_
  refine Go.ldc2J 40 d22_37 rfl (w120 hw) ?_
  refine Go.iloadN 41 d22_40 rfl rfl ?_
  refine Go.ineg 42 d22_41 rfl ?_
  refine Go.lushr 43 d22_42 rfl ?_
  refine Go.lstore 45 #[.val (.ref a), .val (.int (0 : Int32)), .val (.int y), .val (.int (0 : Int32)), .val (.int (0 : Int32)), .val (.long ((-1 : Int64) <<< ((0 : Int32) &&& 0x3f).toInt64)), .second, .val (.long (ushrL (-1 : Int64) (-y))), .second, .unset] d22_43 rfl rfl ?_
  refine Go.iloadN 46 d22_45 rfl rfl ?_
  refine Go.iload 48 d22_46 rfl rfl ?_
  refine Go.icmpN 51 d22_48 rfl (teq (by decide)).2 ?_
  refine Go.aloadN 52 d22_51 rfl rfl rfl ?_
  refine Go.getF 55 d22_52 rfl (w34 hw) Via.refl G_10 ?_
  refine Go.iloadN 56 d22_55 rfl rfl ?_
  refine Go.dup2 57 d22_56 rfl rfl rfl ?_
  refine Go.laload 0 58 d22_57 rfl A_12 (by decide) rfl ?_
  refine Go.lload 60 d22_58 rfl rfl ?_
  refine Go.lload 62 d22_60 rfl rfl ?_
  refine Go.land 63 d22_62 rfl ?_
  refine Go.lor 64 d22_63 rfl ?_
  refine Go.lastore 0 65 d22_64 rfl A_12 (by decide) (Nat.le_of_ble_eq_true rfl) (List.mem_of_getElem? (i := 1) rfl) n0b (fun h_15 W_16 A_17 => ?_)
  have A_18 : Ary Z h_15 b .long [(.long ((0 : Int64) ||| (((-1 : Int64) <<< ((0 : Int32) &&& 0x3f).toInt64) &&& (ushrL (-1 : Int64) (-y)))))] := A_17
  refine Go.goto 119 d22_65 (by decide) (by decide) ?_
  refine Go.aloadN 120 d22_119 rfl rfl rfl ?_
  have f_21 := (E_9.wr W_16)
  refine Go.callP (S := []) (a := a) 123 [] d22_120 rfl rfl (w52 hw) (w53 hw) (w55 hw) (w54 hw) (w56 hw) (by decide) f_21 (call_of_go (R := _) (len := 3) (W := 0) (plainFor_of_name pn_0) (fun mid => ef_ci mid a ) (c_ci hw a SA) (w56 hw) (w16 hw) (by decide) (by decide)) (lenOf pd_2 rfl) (Nat.le_of_ble_eq_true rfl) rfl (Nat.le_of_ble_eq_true rfl) (Nat.le_of_ble_eq_true rfl) (fun _ q => nomatch q) (fun v h_19 sf_20 hq => ?_)
  obtain ⟨rfl, rfl⟩ := hq
  refine Go.more (sf' := [a, b]) ?_ (Nat.le_refl _) (Nat.le_refl _) (fun _ q => List.mem_append_right _ q)
  show G_setr1 none l Z n0 a b y h0 0 0 [a, b] h_15 123 #[.val (.ref a), .val (.int (0 : Int32)), .val (.int y), .val (.int (0 : Int32)), .val (.int (0 : Int32)), .val (.long ((-1 : Int64) <<< ((0 : Int32) &&& 0x3f).toInt64)), .second, .val (.long (ushrL (-1 : Int64) (-y))), .second, .unset] []
  have f_22 := (G_10.other W_16 (Or.inl (Ne.symm nba)))
  have f_23 := (G_13.other W_16 (Or.inl (Ne.symm nba)))
  exact Go.ret0 d22_123 rfl (sf' := []) (⟨rfl, (((Keep.refl h0 [a, b]).trans K_8 (allS (Or.inl (List.mem_of_getElem? (i := 0) rfl)) all0)).wr W_16 (Or.inl (List.mem_of_getElem? (i := 1) rfl))), f_21, f_22, f_23, A_18⟩) (fun _ q => nomatch q) (Nat.le_of_ble_eq_true rfl) (Nat.le_of_ble_eq_true rfl)
abbrev G_setr2 (md : Md) (l : Launch) (Z : State) (n0 : Nat) (a b : Addr) (y : Int32) (h0 : Heap) := Go md l Z n0 ({ frames := 2, cells := 0, slots := 0, locals := 28 } : Room) jdk_92_method_21_code 10 none "java/util/BitSet" "set" (fun v h' _ => v = none ∧ Keep h0 h' [a, b] ∧ Exa Z h' a "java/util/BitSet" ∧ Fld Z h' a "java/util/BitSet" "words" "[J" (.ref b) ∧ Fld Z h' a "java/util/BitSet" "wordsInUse" "I" (.int 2) ∧ Ary Z h' b .long [(.long ((0 : Int64) ||| ((-1 : Int64) <<< ((0 : Int32) &&& 0x3f).toInt64))), (.long ((0 : Int64) ||| (ushrL (-1 : Int64) (-y))))])
theorem ef_setr2 (mid : MethodId) (a b : Addr) (y : Int32)  : entryFrame mid #[(.ref a), (.int (0 : Int32)), (.int y)] 10 = mkF mid 0 #[.val (.ref a), .val (.int (0 : Int32)), .val (.int y), .unset, .unset, .unset, .unset, .unset, .unset, .unset] [] := by first | (simp [entryFrame, mkF, argsToLocals, Value.category]; done) | rfl
set_option maxRecDepth 65536 in
set_option maxHeartbeats 40000000 in
theorem c_setr2 {l : Launch} {Z : State} {n0 : Nat} {a0 : Array Value} (hw : HW a0 Z) (a b : Addr) (y : Int32) {h0 : Heap} (E : Exa Z h0 a "java/util/BitSet") (n0a : n0 ≤ a) (nba : b ≠ a) (F1 : Fld Z h0 a "java/util/BitSet" "words" "[J" (.ref b)) (F2 : Fld Z h0 a "java/util/BitSet" "wordsInUse" "I" (.int 0)) (A : Ary Z h0 b .long [(.long (0 : Int64)), (.long (0 : Int64))]) (n0b : n0 ≤ b) (hy : ¬ y < 0) (hyn : ¬ (0 : Int32) = y) (he : ((y - (1 : Int32)) >>> ((6 : Int32) &&& 31)) = (1 : Int32)) (SA : Sta Z Z.heap "java/util/BitSet" "$assertionsDisabled" "Z" (.int 1)) : G_setr2 none l Z n0 a b y h0 0 0 [a, b] h0 0 #[.val (.ref a), .val (.int (0 : Int32)), .val (.int y), .unset, .unset, .unset, .unset, .unset, .unset, .unset] [] := by
  refine Go.iloadN 1 d22_0 rfl rfl ?_
  refine Go.iloadN 2 d22_1 rfl rfl ?_
  refine Go.callS (S := []) 5 [(.int (0 : Int32)), (.int y)] d22_2 rfl rfl (w93 hw) (w94 hw) (w16 hw) (w95 hw) (by decide) (call_of_go (R := _) (len := 3) (W := 0) (plainFor_of_name pn_0) (fun mid => ef_cr mid (0 : Int32) y ) (c_cr hw (0 : Int32) y (by decide) hy hy) (w95 hw) (w16 hw) (by decide) (by decide)) (lenOf pd_3 rfl) (Nat.le_of_ble_eq_true rfl) rfl (Nat.le_of_ble_eq_true rfl) (Nat.le_of_ble_eq_true rfl) (fun _ q => nomatch q) (fun v h_1 sf_2 hq => ?_)
  obtain ⟨rfl, rfl⟩ := hq
  refine Go.more (sf' := [a, b]) ?_ (Nat.le_refl _) (Nat.le_refl _) (fun _ q => List.mem_append_right _ q)
  show G_setr2 none l Z n0 a b y h0 0 0 [a, b] h0 5 #[.val (.ref a), .val (.int (0 : Int32)), .val (.int y), .unset, .unset, .unset, .unset, .unset, .unset, .unset] []
  refine Go.iloadN 6 d22_5 rfl rfl ?_
  refine Go.iloadN 7 d22_6 rfl rfl ?_
  refine Go.icmpY 11 d22_7 (by decide) (by decide) (feq hyn).2 ?_
  refine Go.iloadN 12 d22_11 rfl rfl ?_
  refine Go.callS (S := []) 15 [(.int (0 : Int32))] d22_12 rfl rfl (w30 hw) (w31 hw) (w16 hw) (w32 hw) (by decide) (call_of_go (R := _) (len := 3) (W := 0) (plainFor_of_name pn_0) (fun mid => ef_wi mid (0 : Int32) ) (c_wi hw (0 : Int32) ) (w32 hw) (w16 hw) (by decide) (by decide)) (lenOf pd_0 rfl) (Nat.le_of_ble_eq_true rfl) rfl (Nat.le_of_ble_eq_true rfl) (Nat.le_of_ble_eq_true rfl) (fun _ q => nomatch q) (fun v h_3 sf_4 hq => ?_)
  obtain ⟨rfl, rfl⟩ := hq
  refine Go.more (sf' := [a, b]) ?_ (Nat.le_refl _) (Nat.le_refl _) (fun _ q => List.mem_append_right _ q)
  show G_setr2 none l Z n0 a b y h0 0 0 [a, b] h0 15 #[.val (.ref a), .val (.int (0 : Int32)), .val (.int y), .unset, .unset, .unset, .unset, .unset, .unset, .unset] [(.int ((0 : Int32) >>> ((6 : Int32) &&& 31)))]
  rw [show ((0 : Int32) >>> ((6 : Int32) &&& 31)) = (0 : Int32) from by decide]
  show G_setr2 none l Z n0 a b y h0 0 0 [a, b] h0 15 #[.val (.ref a), .val (.int (0 : Int32)), .val (.int y), .unset, .unset, .unset, .unset, .unset, .unset, .unset] [(.int (0 : Int32))]
  refine Go.istoreN 16 #[.val (.ref a), .val (.int (0 : Int32)), .val (.int y), .val (.int (0 : Int32)), .unset, .unset, .unset, .unset, .unset, .unset] d22_15 rfl rfl ?_
  refine Go.iloadN 17 d22_16 rfl rfl ?_
  refine Go.iconst 18 (1 : Int32) d22_17 rfl rfl ?_
  refine Go.isub 19 d22_18 rfl ?_
  refine Go.callS (S := []) 22 [(.int (y - (1 : Int32)))] d22_19 rfl rfl (w30 hw) (w31 hw) (w16 hw) (w32 hw) (by decide) (call_of_go (R := _) (len := 3) (W := 0) (plainFor_of_name pn_0) (fun mid => ef_wi mid (y - (1 : Int32)) ) (c_wi hw (y - (1 : Int32)) ) (w32 hw) (w16 hw) (by decide) (by decide)) (lenOf pd_0 rfl) (Nat.le_of_ble_eq_true rfl) rfl (Nat.le_of_ble_eq_true rfl) (Nat.le_of_ble_eq_true rfl) (fun _ q => nomatch q) (fun v h_5 sf_6 hq => ?_)
  obtain ⟨rfl, rfl⟩ := hq
  refine Go.more (sf' := [a, b]) ?_ (Nat.le_refl _) (Nat.le_refl _) (fun _ q => List.mem_append_right _ q)
  show G_setr2 none l Z n0 a b y h0 0 0 [a, b] h0 22 #[.val (.ref a), .val (.int (0 : Int32)), .val (.int y), .val (.int (0 : Int32)), .unset, .unset, .unset, .unset, .unset, .unset] [(.int ((y - (1 : Int32)) >>> ((6 : Int32) &&& 31)))]
  rw [show ((y - (1 : Int32)) >>> ((6 : Int32) &&& 31)) = (1 : Int32) from he]
  show G_setr2 none l Z n0 a b y h0 0 0 [a, b] h0 22 #[.val (.ref a), .val (.int (0 : Int32)), .val (.int y), .val (.int (0 : Int32)), .unset, .unset, .unset, .unset, .unset, .unset] [(.int (1 : Int32))]
  refine Go.istore 24 #[.val (.ref a), .val (.int (0 : Int32)), .val (.int y), .val (.int (0 : Int32)), .val (.int (1 : Int32)), .unset, .unset, .unset, .unset, .unset] d22_22 rfl rfl ?_
  refine Go.aloadN 25 d22_24 rfl rfl rfl ?_
  refine Go.iload 27 d22_25 rfl rfl ?_
  refine Go.callP (S := []) (a := a) 30 [(.int (1 : Int32))] d22_27 rfl rfl (w42 hw) (w43 hw) (w45 hw) (w44 hw) (w46 hw) (by decide) E (call_of_go (R := _) (len := 3) (W := 0) (plainFor_of_name pn_0) (fun mid => ef_exp mid a b (1 : Int32) (0 : Int32) [(.long (0 : Int64)), (.long (0 : Int64))] ) (c_exp hw a b (1 : Int32) (0 : Int32) [(.long (0 : Int64)), (.long (0 : Int64))] E n0a nba F1 F2 A (by show ¬ Int32.ofNat 2 < (1 : Int32) + (1 : Int32); decide)) (w46 hw) (w16 hw) (by decide) (by decide)) (lenOf pd_1 rfl) (Nat.le_of_ble_eq_true rfl) rfl (Nat.le_of_ble_eq_true rfl) (Nat.le_of_ble_eq_true rfl) (sub1 (List.mem_of_getElem? (i := 0) rfl)) (fun v h_7 sf_14 hq => ?_)
  obtain ⟨rfl, K_8, E_9, G_10, G_11, A_12⟩ := hq
  have G_13 : Fld Z h_7 a "java/util/BitSet" "wordsInUse" "I" (.int (2 : Int32)) := by have q_ := G_11; rw [show (if (0 : Int32) < (1 : Int32) + (1 : Int32) then (1 : Int32) + (1 : Int32) else (0 : Int32)) = (2 : Int32) from by decide] at q_; exact q_
  refine Go.more (sf' := [a, b]) ?_ (Nat.le_refl _) (Nat.le_refl _) (fun _ q => List.mem_append_right _ q)
  show G_setr2 none l Z n0 a b y h0 0 0 [a, b] h_7 30 #[.val (.ref a), .val (.int (0 : Int32)), .val (.int y), .val (.int (0 : Int32)), .val (.int (1 : Int32)), .unset, .unset, .unset, .unset, .unset] []
  refine Go.ldc2J 33 d22_30 rfl (w120 hw) ?_
  refine Go.iloadN 34 d22_33 rfl rfl ?_
  refine Go.lshl 35 d22_34 rfl ?_
  refine Go.lstore 37 #[.val (.ref a), .val (.int (0 : Int32)), .val (.int y), .val (.int (0 : Int32)), .val (.int (1 : Int32)), .val (.long ((-1 : Int64) <<< ((0 : Int32) &&& 0x3f).toInt64)), .second, .unset, .unset, .unset] d22_35 rfl rfl ?_
  refine Go.ldc2J 40 d22_37 rfl (w120 hw) ?_
  refine Go.iloadN 41 d22_40 rfl rfl ?_
  refine Go.ineg 42 d22_41 rfl ?_
  refine Go.lushr 43 d22_42 rfl ?_
  refine Go.lstore 45 #[.val (.ref a), .val (.int (0 : Int32)), .val (.int y), .val (.int (0 : Int32)), .val (.int (1 : Int32)), .val (.long ((-1 : Int64) <<< ((0 : Int32) &&& 0x3f).toInt64)), .second, .val (.long (ushrL (-1 : Int64) (-y))), .second, .unset] d22_43 rfl rfl ?_
  refine Go.iloadN 46 d22_45 rfl rfl ?_
  refine Go.iload 48 d22_46 rfl rfl ?_
  refine Go.icmpY 68 d22_48 (by decide) (by decide) (feq (by decide)).2 ?_
  refine Go.aloadN 69 d22_68 rfl rfl rfl ?_
  refine Go.getF 72 d22_69 rfl (w34 hw) Via.refl G_10 ?_
  refine Go.iloadN 73 d22_72 rfl rfl ?_
  refine Go.dup2 74 d22_73 rfl rfl rfl ?_
  refine Go.laload 0 75 d22_74 rfl A_12 (by decide) rfl ?_
  refine Go.lload 77 d22_75 rfl rfl ?_
  refine Go.lor 78 d22_77 rfl ?_
  refine Go.lastore 0 79 d22_78 rfl A_12 (by decide) (Nat.le_of_ble_eq_true rfl) (List.mem_of_getElem? (i := 1) rfl) n0b (fun h_15 W_16 A_17 => ?_)
  have A_18 : Ary Z h_15 b .long [(.long ((0 : Int64) ||| ((-1 : Int64) <<< ((0 : Int32) &&& 0x3f).toInt64))), (.long (0 : Int64))] := A_17
  refine Go.iloadN 80 d22_79 rfl rfl ?_
  refine Go.iconst 81 (1 : Int32) d22_80 rfl rfl ?_
  refine Go.iadd 82 d22_81 rfl ?_
  rw [show ((0 : Int32) + (1 : Int32)) = (1 : Int32) from by decide]
  refine Go.istore 84 #[.val (.ref a), .val (.int (0 : Int32)), .val (.int y), .val (.int (0 : Int32)), .val (.int (1 : Int32)), .val (.long ((-1 : Int64) <<< ((0 : Int32) &&& 0x3f).toInt64)), .second, .val (.long (ushrL (-1 : Int64) (-y))), .second, .val (.int (1 : Int32))] d22_82 rfl rfl ?_
  refine Go.iload 86 d22_84 rfl rfl ?_
  refine Go.iload 88 d22_86 rfl rfl ?_
  refine Go.icmpY 107 d22_88 (by decide) (by decide) (flt (by decide)).2.1 ?_
  refine Go.aloadN 108 d22_107 rfl rfl rfl ?_
  have f_19 := (G_10.other W_16 (Or.inl (Ne.symm nba)))
  refine Go.getF 111 d22_108 rfl (w34 hw) Via.refl f_19 ?_
  refine Go.iload 113 d22_111 rfl rfl ?_
  refine Go.dup2 114 d22_113 rfl rfl rfl ?_
  refine Go.laload 1 115 d22_114 rfl A_18 (by decide) rfl ?_
  refine Go.lload 117 d22_115 rfl rfl ?_
  refine Go.lor 118 d22_117 rfl ?_
  refine Go.lastore 1 119 d22_118 rfl A_18 (by decide) (Nat.le_of_ble_eq_true rfl) (List.mem_of_getElem? (i := 1) rfl) n0b (fun h_20 W_21 A_22 => ?_)
  have A_23 : Ary Z h_20 b .long [(.long ((0 : Int64) ||| ((-1 : Int64) <<< ((0 : Int32) &&& 0x3f).toInt64))), (.long ((0 : Int64) ||| (ushrL (-1 : Int64) (-y))))] := A_22
  refine Go.aloadN 120 d22_119 rfl rfl rfl ?_
  have f_26 := ((E_9.wr W_16).wr W_21)
  refine Go.callP (S := []) (a := a) 123 [] d22_120 rfl rfl (w52 hw) (w53 hw) (w55 hw) (w54 hw) (w56 hw) (by decide) f_26 (call_of_go (R := _) (len := 3) (W := 0) (plainFor_of_name pn_0) (fun mid => ef_ci mid a ) (c_ci hw a SA) (w56 hw) (w16 hw) (by decide) (by decide)) (lenOf pd_2 rfl) (Nat.le_of_ble_eq_true rfl) rfl (Nat.le_of_ble_eq_true rfl) (Nat.le_of_ble_eq_true rfl) (fun _ q => nomatch q) (fun v h_24 sf_25 hq => ?_)
  obtain ⟨rfl, rfl⟩ := hq
  refine Go.more (sf' := [a, b]) ?_ (Nat.le_refl _) (Nat.le_refl _) (fun _ q => List.mem_append_right _ q)
  show G_setr2 none l Z n0 a b y h0 0 0 [a, b] h_20 123 #[.val (.ref a), .val (.int (0 : Int32)), .val (.int y), .val (.int (0 : Int32)), .val (.int (1 : Int32)), .val (.long ((-1 : Int64) <<< ((0 : Int32) &&& 0x3f).toInt64)), .second, .val (.long (ushrL (-1 : Int64) (-y))), .second, .val (.int (1 : Int32))] []
  have f_27 := (f_19.other W_21 (Or.inl (Ne.symm nba)))
  have f_28 := ((G_13.other W_16 (Or.inl (Ne.symm nba))).other W_21 (Or.inl (Ne.symm nba)))
  exact Go.ret0 d22_123 rfl (sf' := []) (⟨rfl, ((((Keep.refl h0 [a, b]).trans K_8 (allS (Or.inl (List.mem_of_getElem? (i := 0) rfl)) all0)).wr W_16 (Or.inl (List.mem_of_getElem? (i := 1) rfl))).wr W_21 (Or.inl (List.mem_of_getElem? (i := 1) rfl))), f_26, f_27, f_28, A_23⟩) (fun _ q => nomatch q) (Nat.le_of_ble_eq_true rfl) (Nat.le_of_ble_eq_true rfl)
abbrev G_setz10 (md : Md) (l : Launch) (Z : State) (n0 : Nat) (a b : Addr) (y : Int32) (h0 : Heap) := Go md l Z n0 ({ frames := 2, cells := 0, slots := 0, locals := 34 } : Room) jdk_92_method_22_code 4 none "java/util/BitSet" "set" (fun v h' _ => v = none ∧ Keep h0 h' [a, b] ∧ Exa Z h' a "java/util/BitSet" ∧ Fld Z h' a "java/util/BitSet" "words" "[J" (.ref b) ∧ Fld Z h' a "java/util/BitSet" "wordsInUse" "I" (.int 0) ∧ Ary Z h' b .long [(.long (0 : Int64))])
theorem ef_setz10 (mid : MethodId) (a b : Addr) (y : Int32)  : entryFrame mid #[(.ref a), (.int (0 : Int32)), (.int y), (.int (0 : Int32))] 4 = mkF mid 0 #[.val (.ref a), .val (.int (0 : Int32)), .val (.int y), .val (.int (0 : Int32))] [] := by first | (simp [entryFrame, mkF, argsToLocals, Value.category]; done) | rfl
set_option maxRecDepth 65536 in
set_option maxHeartbeats 40000000 in
theorem c_setz10 {l : Launch} {Z : State} {n0 : Nat} {a0 : Array Value} (hw : HW a0 Z) (a b : Addr) (y : Int32) {h0 : Heap} (E : Exa Z h0 a "java/util/BitSet") (n0a : n0 ≤ a) (nba : b ≠ a) (F1 : Fld Z h0 a "java/util/BitSet" "words" "[J" (.ref b)) (F2 : Fld Z h0 a "java/util/BitSet" "wordsInUse" "I" (.int 0)) (A : Ary Z h0 b .long [(.long (0 : Int64))]) (n0b : n0 ≤ b) (hy : ¬ y < 0) (hyn : ¬ (0 : Int32) = y) (he : ((y - (1 : Int32)) >>> ((6 : Int32) &&& 31)) = (0 : Int32)) (SA : Sta Z Z.heap "java/util/BitSet" "$assertionsDisabled" "Z" (.int 1)) : G_setz10 none l Z n0 a b y h0 0 0 [a, b] h0 0 #[.val (.ref a), .val (.int (0 : Int32)), .val (.int y), .val (.int (0 : Int32))] [] := by
  refine Go.iloadN 1 d13_0 rfl rfl ?_
  refine Go.ifY 13 d13_1 (by decide) (by decide) (teq (by decide)).1 ?_
  refine Go.aloadN 14 d13_13 rfl rfl rfl ?_
  refine Go.iloadN 15 d13_14 rfl rfl ?_
  refine Go.iloadN 16 d13_15 rfl rfl ?_
  refine Go.callV (S := []) (a := a) 19 [(.int (0 : Int32)), (.int y)] d13_16 rfl rfl (w88 hw) (w89 hw) (w91 hw) (w90 hw) (fun _ q => notFace_of_selects (args := #[]) (mvT q (w91 hw))) (by decide) E (call_of_go (R := _) (len := 3) (W := 0) (plainFor_of_name pn_0) (fun mid => ef_clr mid a y ) (c_clr hw a y F2 hy hyn) (w92 hw) (w16 hw) (by decide) (by decide)) (lenOf pd_3 rfl) (Nat.le_of_ble_eq_true rfl) rfl (Nat.le_of_ble_eq_true rfl) (Nat.le_of_ble_eq_true rfl) (fun _ q => nomatch q) (fun v h_1 sf_2 hq => ?_)
  obtain ⟨rfl, rfl⟩ := hq
  refine Go.more (sf' := [a, b]) ?_ (Nat.le_refl _) (Nat.le_refl _) (fun _ q => List.mem_append_right _ q)
  show G_setz10 none l Z n0 a b y h0 0 0 [a, b] h0 19 #[.val (.ref a), .val (.int (0 : Int32)), .val (.int y), .val (.int (0 : Int32))] []
  exact Go.ret0 d13_19 rfl (sf' := []) (⟨rfl, (Keep.refl h0 [a, b]), E, F1, F2, A⟩) (fun _ q => nomatch q) (Nat.le_of_ble_eq_true rfl) (Nat.le_of_ble_eq_true rfl)
abbrev G_setz11 (md : Md) (l : Launch) (Z : State) (n0 : Nat) (a b : Addr) (y : Int32) (h0 : Heap) := Go md l Z n0 ({ frames := 3, cells := 0, slots := 0, locals := 49 } : Room) jdk_92_method_22_code 4 none "java/util/BitSet" "set" (fun v h' _ => v = none ∧ Keep h0 h' [a, b] ∧ Exa Z h' a "java/util/BitSet" ∧ Fld Z h' a "java/util/BitSet" "words" "[J" (.ref b) ∧ Fld Z h' a "java/util/BitSet" "wordsInUse" "I" (.int 1) ∧ Ary Z h' b .long [(.long ((0 : Int64) ||| (((-1 : Int64) <<< ((0 : Int32) &&& 0x3f).toInt64) &&& (ushrL (-1 : Int64) (-y)))))])
theorem ef_setz11 (mid : MethodId) (a b : Addr) (y : Int32)  : entryFrame mid #[(.ref a), (.int (0 : Int32)), (.int y), (.int (1 : Int32))] 4 = mkF mid 0 #[.val (.ref a), .val (.int (0 : Int32)), .val (.int y), .val (.int (1 : Int32))] [] := by first | (simp [entryFrame, mkF, argsToLocals, Value.category]; done) | rfl
set_option maxRecDepth 65536 in
set_option maxHeartbeats 40000000 in
theorem c_setz11 {l : Launch} {Z : State} {n0 : Nat} {a0 : Array Value} (hw : HW a0 Z) (a b : Addr) (y : Int32) {h0 : Heap} (E : Exa Z h0 a "java/util/BitSet") (n0a : n0 ≤ a) (nba : b ≠ a) (F1 : Fld Z h0 a "java/util/BitSet" "words" "[J" (.ref b)) (F2 : Fld Z h0 a "java/util/BitSet" "wordsInUse" "I" (.int 0)) (A : Ary Z h0 b .long [(.long (0 : Int64))]) (n0b : n0 ≤ b) (hy : ¬ y < 0) (hyn : ¬ (0 : Int32) = y) (he : ((y - (1 : Int32)) >>> ((6 : Int32) &&& 31)) = (0 : Int32)) (SA : Sta Z Z.heap "java/util/BitSet" "$assertionsDisabled" "Z" (.int 1)) : G_setz11 none l Z n0 a b y h0 0 0 [a, b] h0 0 #[.val (.ref a), .val (.int (0 : Int32)), .val (.int y), .val (.int (1 : Int32))] [] := by
  refine Go.iloadN 1 d13_0 rfl rfl ?_
  refine Go.ifN 4 d13_1 rfl (feq (by decide)).1 ?_
  refine Go.aloadN 5 d13_4 rfl rfl rfl ?_
  refine Go.iloadN 6 d13_5 rfl rfl ?_
  refine Go.iloadN 7 d13_6 rfl rfl ?_
  refine Go.callV (S := []) (a := a) 10 [(.int (0 : Int32)), (.int y)] d13_7 rfl rfl (w126 hw) (w127 hw) (w129 hw) (w128 hw) (fun _ q => notFace_of_selects (args := #[]) (mvT q (w129 hw))) (by decide) E (call_of_go (R := _) (len := 3) (W := 0) (plainFor_of_name pn_0) (fun mid => ef_setr1 mid a b y ) (c_setr1 hw a b y E n0a nba F1 F2 A n0b hy hyn he SA) (w130 hw) (w16 hw) (by decide) (by decide)) (lenOf pd_3 rfl) (Nat.le_of_ble_eq_true rfl) rfl (Nat.le_of_ble_eq_true rfl) (Nat.le_of_ble_eq_true rfl) (fun _ q => q) (fun v h2 sf_1 hq => ?_)
  obtain ⟨rfl, K2, E2, G1, G2, A2⟩ := hq
  refine Go.more (sf' := [a, b]) ?_ (Nat.le_refl _) (Nat.le_refl _) (fun _ q => List.mem_append_right _ q)
  show G_setz11 none l Z n0 a b y h0 0 0 [a, b] h2 10 #[.val (.ref a), .val (.int (0 : Int32)), .val (.int y), .val (.int (1 : Int32))] []
  refine Go.goto 19 d13_10 (by decide) (by decide) ?_
  exact Go.ret0 d13_19 rfl (sf' := []) (⟨rfl, ((Keep.refl h0 [a, b]).trans K2 (allS (Or.inl (List.mem_of_getElem? (i := 0) rfl)) (allS (Or.inl (List.mem_of_getElem? (i := 1) rfl)) all0))), E2, G1, G2, A2⟩) (fun _ q => nomatch q) (Nat.le_of_ble_eq_true rfl) (Nat.le_of_ble_eq_true rfl)
abbrev G_setz20 (md : Md) (l : Launch) (Z : State) (n0 : Nat) (a b : Addr) (y : Int32) (h0 : Heap) := Go md l Z n0 ({ frames := 2, cells := 0, slots := 0, locals := 34 } : Room) jdk_92_method_22_code 4 none "java/util/BitSet" "set" (fun v h' _ => v = none ∧ Keep h0 h' [a, b] ∧ Exa Z h' a "java/util/BitSet" ∧ Fld Z h' a "java/util/BitSet" "words" "[J" (.ref b) ∧ Fld Z h' a "java/util/BitSet" "wordsInUse" "I" (.int 0) ∧ Ary Z h' b .long [(.long (0 : Int64)), (.long (0 : Int64))])
theorem ef_setz20 (mid : MethodId) (a b : Addr) (y : Int32)  : entryFrame mid #[(.ref a), (.int (0 : Int32)), (.int y), (.int (0 : Int32))] 4 = mkF mid 0 #[.val (.ref a), .val (.int (0 : Int32)), .val (.int y), .val (.int (0 : Int32))] [] := by first | (simp [entryFrame, mkF, argsToLocals, Value.category]; done) | rfl
set_option maxRecDepth 65536 in
set_option maxHeartbeats 40000000 in
theorem c_setz20 {l : Launch} {Z : State} {n0 : Nat} {a0 : Array Value} (hw : HW a0 Z) (a b : Addr) (y : Int32) {h0 : Heap} (E : Exa Z h0 a "java/util/BitSet") (n0a : n0 ≤ a) (nba : b ≠ a) (F1 : Fld Z h0 a "java/util/BitSet" "words" "[J" (.ref b)) (F2 : Fld Z h0 a "java/util/BitSet" "wordsInUse" "I" (.int 0)) (A : Ary Z h0 b .long [(.long (0 : Int64)), (.long (0 : Int64))]) (n0b : n0 ≤ b) (hy : ¬ y < 0) (hyn : ¬ (0 : Int32) = y) (he : ((y - (1 : Int32)) >>> ((6 : Int32) &&& 31)) = (1 : Int32)) (SA : Sta Z Z.heap "java/util/BitSet" "$assertionsDisabled" "Z" (.int 1)) : G_setz20 none l Z n0 a b y h0 0 0 [a, b] h0 0 #[.val (.ref a), .val (.int (0 : Int32)), .val (.int y), .val (.int (0 : Int32))] [] := by
  refine Go.iloadN 1 d13_0 rfl rfl ?_
  refine Go.ifY 13 d13_1 (by decide) (by decide) (teq (by decide)).1 ?_
  refine Go.aloadN 14 d13_13 rfl rfl rfl ?_
  refine Go.iloadN 15 d13_14 rfl rfl ?_
  refine Go.iloadN 16 d13_15 rfl rfl ?_
  refine Go.callV (S := []) (a := a) 19 [(.int (0 : Int32)), (.int y)] d13_16 rfl rfl (w88 hw) (w89 hw) (w91 hw) (w90 hw) (fun _ q => notFace_of_selects (args := #[]) (mvT q (w91 hw))) (by decide) E (call_of_go (R := _) (len := 3) (W := 0) (plainFor_of_name pn_0) (fun mid => ef_clr mid a y ) (c_clr hw a y F2 hy hyn) (w92 hw) (w16 hw) (by decide) (by decide)) (lenOf pd_3 rfl) (Nat.le_of_ble_eq_true rfl) rfl (Nat.le_of_ble_eq_true rfl) (Nat.le_of_ble_eq_true rfl) (fun _ q => nomatch q) (fun v h_1 sf_2 hq => ?_)
  obtain ⟨rfl, rfl⟩ := hq
  refine Go.more (sf' := [a, b]) ?_ (Nat.le_refl _) (Nat.le_refl _) (fun _ q => List.mem_append_right _ q)
  show G_setz20 none l Z n0 a b y h0 0 0 [a, b] h0 19 #[.val (.ref a), .val (.int (0 : Int32)), .val (.int y), .val (.int (0 : Int32))] []
  exact Go.ret0 d13_19 rfl (sf' := []) (⟨rfl, (Keep.refl h0 [a, b]), E, F1, F2, A⟩) (fun _ q => nomatch q) (Nat.le_of_ble_eq_true rfl) (Nat.le_of_ble_eq_true rfl)
abbrev G_setz21 (md : Md) (l : Launch) (Z : State) (n0 : Nat) (a b : Addr) (y : Int32) (h0 : Heap) := Go md l Z n0 ({ frames := 3, cells := 0, slots := 0, locals := 49 } : Room) jdk_92_method_22_code 4 none "java/util/BitSet" "set" (fun v h' _ => v = none ∧ Keep h0 h' [a, b] ∧ Exa Z h' a "java/util/BitSet" ∧ Fld Z h' a "java/util/BitSet" "words" "[J" (.ref b) ∧ Fld Z h' a "java/util/BitSet" "wordsInUse" "I" (.int 2) ∧ Ary Z h' b .long [(.long ((0 : Int64) ||| ((-1 : Int64) <<< ((0 : Int32) &&& 0x3f).toInt64))), (.long ((0 : Int64) ||| (ushrL (-1 : Int64) (-y))))])
theorem ef_setz21 (mid : MethodId) (a b : Addr) (y : Int32)  : entryFrame mid #[(.ref a), (.int (0 : Int32)), (.int y), (.int (1 : Int32))] 4 = mkF mid 0 #[.val (.ref a), .val (.int (0 : Int32)), .val (.int y), .val (.int (1 : Int32))] [] := by first | (simp [entryFrame, mkF, argsToLocals, Value.category]; done) | rfl
set_option maxRecDepth 65536 in
set_option maxHeartbeats 40000000 in
theorem c_setz21 {l : Launch} {Z : State} {n0 : Nat} {a0 : Array Value} (hw : HW a0 Z) (a b : Addr) (y : Int32) {h0 : Heap} (E : Exa Z h0 a "java/util/BitSet") (n0a : n0 ≤ a) (nba : b ≠ a) (F1 : Fld Z h0 a "java/util/BitSet" "words" "[J" (.ref b)) (F2 : Fld Z h0 a "java/util/BitSet" "wordsInUse" "I" (.int 0)) (A : Ary Z h0 b .long [(.long (0 : Int64)), (.long (0 : Int64))]) (n0b : n0 ≤ b) (hy : ¬ y < 0) (hyn : ¬ (0 : Int32) = y) (he : ((y - (1 : Int32)) >>> ((6 : Int32) &&& 31)) = (1 : Int32)) (SA : Sta Z Z.heap "java/util/BitSet" "$assertionsDisabled" "Z" (.int 1)) : G_setz21 none l Z n0 a b y h0 0 0 [a, b] h0 0 #[.val (.ref a), .val (.int (0 : Int32)), .val (.int y), .val (.int (1 : Int32))] [] := by
  refine Go.iloadN 1 d13_0 rfl rfl ?_
  refine Go.ifN 4 d13_1 rfl (feq (by decide)).1 ?_
  refine Go.aloadN 5 d13_4 rfl rfl rfl ?_
  refine Go.iloadN 6 d13_5 rfl rfl ?_
  refine Go.iloadN 7 d13_6 rfl rfl ?_
  refine Go.callV (S := []) (a := a) 10 [(.int (0 : Int32)), (.int y)] d13_7 rfl rfl (w126 hw) (w127 hw) (w129 hw) (w128 hw) (fun _ q => notFace_of_selects (args := #[]) (mvT q (w129 hw))) (by decide) E (call_of_go (R := _) (len := 3) (W := 0) (plainFor_of_name pn_0) (fun mid => ef_setr2 mid a b y ) (c_setr2 hw a b y E n0a nba F1 F2 A n0b hy hyn he SA) (w130 hw) (w16 hw) (by decide) (by decide)) (lenOf pd_3 rfl) (Nat.le_of_ble_eq_true rfl) rfl (Nat.le_of_ble_eq_true rfl) (Nat.le_of_ble_eq_true rfl) (fun _ q => q) (fun v h2 sf_1 hq => ?_)
  obtain ⟨rfl, K2, E2, G1, G2, A2⟩ := hq
  refine Go.more (sf' := [a, b]) ?_ (Nat.le_refl _) (Nat.le_refl _) (fun _ q => List.mem_append_right _ q)
  show G_setz21 none l Z n0 a b y h0 0 0 [a, b] h2 10 #[.val (.ref a), .val (.int (0 : Int32)), .val (.int y), .val (.int (1 : Int32))] []
  refine Go.goto 19 d13_10 (by decide) (by decide) ?_
  exact Go.ret0 d13_19 rfl (sf' := []) (⟨rfl, ((Keep.refl h0 [a, b]).trans K2 (allS (Or.inl (List.mem_of_getElem? (i := 0) rfl)) (allS (Or.inl (List.mem_of_getElem? (i := 1) rfl)) all0))), E2, G1, G2, A2⟩) (fun _ q => nomatch q) (Nat.le_of_ble_eq_true rfl) (Nat.le_of_ble_eq_true rfl)
abbrev G_recinit (md : Md) (l : Launch) (Z : State) (n0 : Nat) (a : Addr) (h0 : Heap) := Go md l Z n0 ({ frames := 1, cells := 0, slots := 0, locals := 12 } : Room) jdk_30_method_1_code 1 none "java/lang/Record" "<init>" (fun v h' _ => v = none ∧ h0 = h')
theorem ef_recinit (mid : MethodId) (a : Addr)  : entryFrame mid #[(.ref a)] 1 = mkF mid 0 #[.val (.ref a)] [] := by first | (simp [entryFrame, mkF, argsToLocals, Value.category]; done) | rfl
set_option maxRecDepth 65536 in
set_option maxHeartbeats 40000000 in
theorem c_recinit {md : Md} {l : Launch} {Z : State} {n0 : Nat} {a0 : Array Value} (hw : HW a0 Z) (a : Addr) {h0 : Heap}  : G_recinit md l Z n0 a h0 0 0 [] h0 0 #[.val (.ref a)] [] := by
  refine Go.aloadN 1 d11_0 rfl rfl rfl ?_
  refine Go.initO (W := 0) 4 d11_1 rfl (w71 hw) (w7 hw) (w8 hw) rfl (by decide) (Nat.le_of_ble_eq_true rfl) (by decide) ?_
  exact Go.ret0 d11_4 rfl (sf' := []) (⟨rfl, rfl⟩) (fun _ q => nomatch q) (Nat.le_of_ble_eq_true rfl) (Nat.le_of_ble_eq_true rfl)
abbrev G_con0 (md : Md) (l : Launch) (Z : State) (n0 : Nat) (a : Addr) (h0 : Heap) := Go md l Z n0 ({ frames := 2, cells := 0, slots := 0, locals := 24 } : Room) prog_5_method_1_code 2 none "com/example/petrel/petrel/HoaLabel$Constant" "<init>" (fun v h' _ => v = none ∧ Keep h0 h' [a] ∧ Exa Z h' a "com/example/petrel/petrel/HoaLabel$Constant" ∧ Fld Z h' a "com/example/petrel/petrel/HoaLabel$Constant" "value" "Z" (.int 0))
theorem ef_con0 (mid : MethodId) (a : Addr)  : entryFrame mid #[(.ref a), (.int (0 : Int32))] 2 = mkF mid 0 #[.val (.ref a), .val (.int (0 : Int32))] [] := by first | (simp [entryFrame, mkF, argsToLocals, Value.category]; done) | rfl
set_option maxRecDepth 65536 in
set_option maxHeartbeats 40000000 in
theorem c_con0 {l : Launch} {Z : State} {n0 : Nat} {a0 : Array Value} (hw : HW a0 Z) (a : Addr) {h0 : Heap} (E : Exa Z h0 a "com/example/petrel/petrel/HoaLabel$Constant") (n0a : n0 ≤ a) {u0 : Value} (F : Fld Z h0 a "com/example/petrel/petrel/HoaLabel$Constant" "value" "Z" u0) : G_con0 none l Z n0 a h0 0 0 [a] h0 0 #[.val (.ref a), .val (.int (0 : Int32))] [] := by
  refine Go.aloadN 1 d10_0 rfl rfl rfl ?_
  refine Go.callC (S := []) (a := a) 4 [] d10_1 rfl rfl rfl (w66 hw) (w67 hw) (w70 hw) (by decide) (call_of_go (R := _) (len := 3) (W := 0) (plainFor_of_name pn_1) (fun mid => ef_recinit mid a ) (c_recinit hw a ) (w70 hw) (w69 hw) (by decide) (by decide)) (lenOf pd_2 rfl) (Nat.le_of_ble_eq_true rfl) rfl (Nat.le_of_ble_eq_true rfl) (Nat.le_of_ble_eq_true rfl) (fun _ q => nomatch q) (fun v h_1 sf_2 hq => ?_)
  obtain ⟨rfl, rfl⟩ := hq
  refine Go.more (sf' := [a]) ?_ (Nat.le_refl _) (Nat.le_refl _) (fun _ q => List.mem_append_right _ q)
  show G_con0 none l Z n0 a h0 0 0 [a] h0 4 #[.val (.ref a), .val (.int (0 : Int32))] []
  refine Go.aloadN 5 d10_4 rfl rfl rfl ?_
  refine Go.iloadN 6 d10_5 rfl rfl ?_
  refine Go.putF 9 (.int (0 : Int32)) d10_6 rfl (w72 hw) Via.refl F E (Or.inr ⟨(w73 hw), rfl, rfl⟩) (w61 hw) (ty := .boolean) (by decide) rfl rfl (List.mem_of_getElem? (i := 0) rfl) n0a (fun h_3 W_4 => ?_)
  have f_5 := (E.wr W_4)
  exact Go.ret0 d10_9 rfl (sf' := []) (⟨rfl, ((Keep.refl h0 [a]).wr W_4 (Or.inl (List.mem_of_getElem? (i := 0) rfl))), f_5, (F.same W_4)⟩) (fun _ q => nomatch q) (Nat.le_of_ble_eq_true rfl) (Nat.le_of_ble_eq_true rfl)
abbrev G_con1 (md : Md) (l : Launch) (Z : State) (n0 : Nat) (a : Addr) (h0 : Heap) := Go md l Z n0 ({ frames := 2, cells := 0, slots := 0, locals := 24 } : Room) prog_5_method_1_code 2 none "com/example/petrel/petrel/HoaLabel$Constant" "<init>" (fun v h' _ => v = none ∧ Keep h0 h' [a] ∧ Exa Z h' a "com/example/petrel/petrel/HoaLabel$Constant" ∧ Fld Z h' a "com/example/petrel/petrel/HoaLabel$Constant" "value" "Z" (.int 1))
theorem ef_con1 (mid : MethodId) (a : Addr)  : entryFrame mid #[(.ref a), (.int (1 : Int32))] 2 = mkF mid 0 #[.val (.ref a), .val (.int (1 : Int32))] [] := by first | (simp [entryFrame, mkF, argsToLocals, Value.category]; done) | rfl
set_option maxRecDepth 65536 in
set_option maxHeartbeats 40000000 in
theorem c_con1 {l : Launch} {Z : State} {n0 : Nat} {a0 : Array Value} (hw : HW a0 Z) (a : Addr) {h0 : Heap} (E : Exa Z h0 a "com/example/petrel/petrel/HoaLabel$Constant") (n0a : n0 ≤ a) {u0 : Value} (F : Fld Z h0 a "com/example/petrel/petrel/HoaLabel$Constant" "value" "Z" u0) : G_con1 none l Z n0 a h0 0 0 [a] h0 0 #[.val (.ref a), .val (.int (1 : Int32))] [] := by
  refine Go.aloadN 1 d10_0 rfl rfl rfl ?_
  refine Go.callC (S := []) (a := a) 4 [] d10_1 rfl rfl rfl (w66 hw) (w67 hw) (w70 hw) (by decide) (call_of_go (R := _) (len := 3) (W := 0) (plainFor_of_name pn_1) (fun mid => ef_recinit mid a ) (c_recinit hw a ) (w70 hw) (w69 hw) (by decide) (by decide)) (lenOf pd_2 rfl) (Nat.le_of_ble_eq_true rfl) rfl (Nat.le_of_ble_eq_true rfl) (Nat.le_of_ble_eq_true rfl) (fun _ q => nomatch q) (fun v h_1 sf_2 hq => ?_)
  obtain ⟨rfl, rfl⟩ := hq
  refine Go.more (sf' := [a]) ?_ (Nat.le_refl _) (Nat.le_refl _) (fun _ q => List.mem_append_right _ q)
  show G_con1 none l Z n0 a h0 0 0 [a] h0 4 #[.val (.ref a), .val (.int (1 : Int32))] []
  refine Go.aloadN 5 d10_4 rfl rfl rfl ?_
  refine Go.iloadN 6 d10_5 rfl rfl ?_
  refine Go.putF 9 (.int (1 : Int32)) d10_6 rfl (w72 hw) Via.refl F E (Or.inr ⟨(w73 hw), rfl, rfl⟩) (w61 hw) (ty := .boolean) (by decide) rfl rfl (List.mem_of_getElem? (i := 0) rfl) n0a (fun h_3 W_4 => ?_)
  have f_5 := (E.wr W_4)
  exact Go.ret0 d10_9 rfl (sf' := []) (⟨rfl, ((Keep.refl h0 [a]).wr W_4 (Or.inl (List.mem_of_getElem? (i := 0) rfl))), f_5, (F.same W_4)⟩) (fun _ q => nomatch q) (Nat.le_of_ble_eq_true rfl) (Nat.le_of_ble_eq_true rfl)
abbrev G_tab10 (md : Md) (l : Launch) (Z : State) (n0 : Nat) (c t : Addr) (y : Int32) (h0 : Heap) := Go md l Z n0 ({ frames := 3, cells := 2, slots := 5, locals := 49 } : Room) prog_5_method_2_code 3 (some (.object "java/util/BitSet")) "com/example/petrel/petrel/HoaLabel$Constant" "table" (fun v h' _ => ∃ x b, v = some (.ref x) ∧ Ext h0 h' ∧ h0.size ≤ x ∧ h0.size ≤ b ∧ n0 ≤ x ∧ n0 ≤ b ∧ b ≠ x ∧ Exa Z h' x "java/util/BitSet" ∧ Fld Z h' x "java/util/BitSet" "words" "[J" (.ref b) ∧ Fld Z h' x "java/util/BitSet" "wordsInUse" "I" (.int 0) ∧ Ary Z h' b .long [(.long (0 : Int64))])
theorem ef_tab10 (mid : MethodId) (c t : Addr) (y : Int32)  : entryFrame mid #[(.ref c), (.ref t)] 3 = mkF mid 0 #[.val (.ref c), .val (.ref t), .unset] [] := by first | (simp [entryFrame, mkF, argsToLocals, Value.category]; done) | rfl
set_option maxRecDepth 65536 in
set_option maxHeartbeats 40000000 in
theorem c_tab10 {l : Launch} {Z : State} {n0 : Nat} {a0 : Array Value} (hw : HW a0 Z) (c t : Addr) (y : Int32) {h0 : Heap} (Fc : Fld Z h0 c "com/example/petrel/petrel/HoaLabel$Constant" "value" "Z" (.int 0)) (Fv : Fld Z h0 t "com/example/petrel/petrel/HoaLabel$Tables" "valuationCount" "I" (.int y)) (hy : ¬ y < 0) (hyn : ¬ (0 : Int32) = y) (he : ((y - (1 : Int32)) >>> ((6 : Int32) &&& 31)) = (0 : Int32)) (hm : (((y - (1 : Int32)) >>> ((6 : Int32) &&& 31)) + (1 : Int32)).toInt = ((1 : Nat) : Int)) (SA : Sta Z Z.heap "java/util/BitSet" "$assertionsDisabled" "Z" (.int 1)) : G_tab10 none l Z n0 c t y h0 0 0 [] h0 0 #[.val (.ref c), .val (.ref t), .unset] [] := by
  refine Go.new 3 d12_0 rfl (w80 hw) (w15 hw) (w16 hw) (Nat.le_of_ble_eq_true rfl) (Nat.le_of_ble_eq_true rfl) (fun h_1 x_2 g_3 q_4 E_5 lt_6 A_7 D_8 => ?_)
  show G_tab10 none l Z n0 c t y h0 1 3 [x_2] h_1 3 #[.val (.ref c), .val (.ref t), .unset] [(.ref x_2)]
  refine Go.dup 4 d12_3 rfl rfl ?_
  refine Go.aloadN 5 d12_4 rfl rfl rfl ?_
  have f_9 := Fv.ext E_5
  refine Go.getFN 8 d12_5 rfl (w81 hw) Via.refl f_9 ?_
  refine Go.old fun _ nq => ?_
  have lt_x := A_7.lt
  refine Go.callC (S := [(.ref x_2)]) (a := x_2) 11 [(.int y)] d12_8 rfl rfl rfl (w82 hw) (w18 hw) (w19 hw) (by decide) (call_of_go (R := _) (len := 3) (W := 1) (plainFor_of_name pn_0) (fun mid => ef_bsinit mid x_2 y 1 ) (c_bsinit hw x_2 y 1 A_7 q_4 (D_8 (Or.inl (w35 hw)) (ty := (.array .long)) (by decide)) (D_8 (Or.inl (w22 hw)) (ty := .int) (by decide)) (D_8 (Or.inl (w24 hw)) (ty := .boolean) (by decide)) hy hm (by decide)) (w19 hw) (w16 hw) (by decide) (by decide)) (lenOf pd_1 rfl) (Nat.le_of_ble_eq_true rfl) rfl (Nat.le_of_ble_eq_true rfl) (Nat.le_of_ble_eq_true rfl) (fun _ q => q) (fun v hb sf_10 hq => ?_)
  obtain ⟨rfl, Kb, Ex, Fu, b, le_b, Fw, Ab⟩ := hq
  have n0b := Nat.le_trans nq le_b
  have nbx : b ≠ x_2 := Nat.ne_of_gt (Nat.lt_of_lt_of_le lt_x le_b)
  have Ab1 : Ary Z hb b .long [(.long (0 : Int64))] := Ab
  refine Go.more (sf' := [x_2]) ?_ (Nat.le_refl _) (Nat.le_refl _) (fun _ q => List.mem_append_right _ q)
  show G_tab10 none l Z n0 c t y h0 2 5 [x_2] hb 11 #[.val (.ref c), .val (.ref t), .unset] [(.ref x_2)]
  refine Go.astoreN 12 #[.val (.ref c), .val (.ref t), .val (.ref x_2)] d12_11 rfl rfl rfl ?_
  refine Go.aloadN 13 d12_12 rfl rfl rfl ?_
  refine Go.iconst 14 (0 : Int32) d12_13 rfl rfl ?_
  refine Go.aloadN 15 d12_14 rfl rfl rfl ?_
  have X_11 : Ext h0 hb := extK E_5 Kb (allS (Nat.le_of_eq g_3) all0)
  have f_12 := Fv.ext X_11
  refine Go.getFN 18 d12_15 rfl (w81 hw) Via.refl f_12 ?_
  refine Go.aloadN 19 d12_18 rfl rfl rfl ?_
  have f_13 := Fc.ext X_11
  refine Go.getF 22 d12_19 rfl (w72 hw) Via.refl f_13 ?_
  refine Go.sfN [x_2, b] ?_
  refine Go.callV (S := []) (a := x_2) 25 [(.int (0 : Int32)), (.int y), (.int (0 : Int32))] d12_22 rfl rfl (w83 hw) (w84 hw) (w86 hw) (w85 hw) (fun _ q => notFace_of_selects (args := #[]) (mvT q (w86 hw))) (by decide) Ex (call_of_go (R := _) (len := 3) (W := 0) (plainFor_of_name pn_0) (fun mid => ef_setz10 mid x_2 b y ) (c_setz10 hw x_2 b y Ex q_4 nbx Fw Fu Ab1 n0b hy hyn he SA) (w87 hw) (w16 hw) (by decide) (by decide)) (lenOf pd_4 rfl) (Nat.le_of_ble_eq_true rfl) rfl (Nat.le_of_ble_eq_true rfl) (Nat.le_of_ble_eq_true rfl) (fun _ q => q) (fun v hz sf_14 hq => ?_)
  obtain ⟨rfl, Kz, Ez, Fwz, Fuz, Az⟩ := hq
  refine Go.more (sf' := [x_2, b]) ?_ (Nat.le_refl _) (Nat.le_refl _) (fun _ q => List.mem_append_right _ q)
  show G_tab10 none l Z n0 c t y h0 2 5 [x_2, b] hz 25 #[.val (.ref c), .val (.ref t), .val (.ref x_2)] []
  refine Go.aloadN 26 d12_25 rfl rfl rfl ?_
  have X_15 : Ext h0 hz := extK X_11 Kz (allS (Nat.le_of_eq g_3) (allS (Nat.le_trans E_5.1 le_b) all0))
  exact Go.retA d12_26 rfl rfl rfl (sf' := []) (⟨_, b, rfl, X_15, (Nat.le_of_eq g_3), (Nat.le_trans E_5.1 le_b), q_4, n0b, nbx, Ez, Fwz, Fuz, Az⟩) (fun _ q => nomatch q) (Nat.le_of_ble_eq_true rfl) (Nat.le_of_ble_eq_true rfl)
abbrev G_tab11 (md : Md) (l : Launch) (Z : State) (n0 : Nat) (c t : Addr) (y : Int32) (h0 : Heap) := Go md l Z n0 ({ frames := 4, cells := 2, slots := 5, locals := 64 } : Room) prog_5_method_2_code 3 (some (.object "java/util/BitSet")) "com/example/petrel/petrel/HoaLabel$Constant" "table" (fun v h' _ => ∃ x b, v = some (.ref x) ∧ Ext h0 h' ∧ h0.size ≤ x ∧ h0.size ≤ b ∧ n0 ≤ x ∧ n0 ≤ b ∧ b ≠ x ∧ Exa Z h' x "java/util/BitSet" ∧ Fld Z h' x "java/util/BitSet" "words" "[J" (.ref b) ∧ Fld Z h' x "java/util/BitSet" "wordsInUse" "I" (.int 1) ∧ Ary Z h' b .long [(.long ((0 : Int64) ||| (((-1 : Int64) <<< ((0 : Int32) &&& 0x3f).toInt64) &&& (ushrL (-1 : Int64) (-y)))))])
theorem ef_tab11 (mid : MethodId) (c t : Addr) (y : Int32)  : entryFrame mid #[(.ref c), (.ref t)] 3 = mkF mid 0 #[.val (.ref c), .val (.ref t), .unset] [] := by first | (simp [entryFrame, mkF, argsToLocals, Value.category]; done) | rfl
set_option maxRecDepth 65536 in
set_option maxHeartbeats 40000000 in
theorem c_tab11 {l : Launch} {Z : State} {n0 : Nat} {a0 : Array Value} (hw : HW a0 Z) (c t : Addr) (y : Int32) {h0 : Heap} (Fc : Fld Z h0 c "com/example/petrel/petrel/HoaLabel$Constant" "value" "Z" (.int 1)) (Fv : Fld Z h0 t "com/example/petrel/petrel/HoaLabel$Tables" "valuationCount" "I" (.int y)) (hy : ¬ y < 0) (hyn : ¬ (0 : Int32) = y) (he : ((y - (1 : Int32)) >>> ((6 : Int32) &&& 31)) = (0 : Int32)) (hm : (((y - (1 : Int32)) >>> ((6 : Int32) &&& 31)) + (1 : Int32)).toInt = ((1 : Nat) : Int)) (SA : Sta Z Z.heap "java/util/BitSet" "$assertionsDisabled" "Z" (.int 1)) : G_tab11 none l Z n0 c t y h0 0 0 [] h0 0 #[.val (.ref c), .val (.ref t), .unset] [] := by
  refine Go.new 3 d12_0 rfl (w80 hw) (w15 hw) (w16 hw) (Nat.le_of_ble_eq_true rfl) (Nat.le_of_ble_eq_true rfl) (fun h_1 x_2 g_3 q_4 E_5 lt_6 A_7 D_8 => ?_)
  show G_tab11 none l Z n0 c t y h0 1 3 [x_2] h_1 3 #[.val (.ref c), .val (.ref t), .unset] [(.ref x_2)]
  refine Go.dup 4 d12_3 rfl rfl ?_
  refine Go.aloadN 5 d12_4 rfl rfl rfl ?_
  have f_9 := Fv.ext E_5
  refine Go.getFN 8 d12_5 rfl (w81 hw) Via.refl f_9 ?_
  refine Go.old fun _ nq => ?_
  have lt_x := A_7.lt
  refine Go.callC (S := [(.ref x_2)]) (a := x_2) 11 [(.int y)] d12_8 rfl rfl rfl (w82 hw) (w18 hw) (w19 hw) (by decide) (call_of_go (R := _) (len := 3) (W := 1) (plainFor_of_name pn_0) (fun mid => ef_bsinit mid x_2 y 1 ) (c_bsinit hw x_2 y 1 A_7 q_4 (D_8 (Or.inl (w35 hw)) (ty := (.array .long)) (by decide)) (D_8 (Or.inl (w22 hw)) (ty := .int) (by decide)) (D_8 (Or.inl (w24 hw)) (ty := .boolean) (by decide)) hy hm (by decide)) (w19 hw) (w16 hw) (by decide) (by decide)) (lenOf pd_1 rfl) (Nat.le_of_ble_eq_true rfl) rfl (Nat.le_of_ble_eq_true rfl) (Nat.le_of_ble_eq_true rfl) (fun _ q => q) (fun v hb sf_10 hq => ?_)
  obtain ⟨rfl, Kb, Ex, Fu, b, le_b, Fw, Ab⟩ := hq
  have n0b := Nat.le_trans nq le_b
  have nbx : b ≠ x_2 := Nat.ne_of_gt (Nat.lt_of_lt_of_le lt_x le_b)
  have Ab1 : Ary Z hb b .long [(.long (0 : Int64))] := Ab
  refine Go.more (sf' := [x_2]) ?_ (Nat.le_refl _) (Nat.le_refl _) (fun _ q => List.mem_append_right _ q)
  show G_tab11 none l Z n0 c t y h0 2 5 [x_2] hb 11 #[.val (.ref c), .val (.ref t), .unset] [(.ref x_2)]
  refine Go.astoreN 12 #[.val (.ref c), .val (.ref t), .val (.ref x_2)] d12_11 rfl rfl rfl ?_
  refine Go.aloadN 13 d12_12 rfl rfl rfl ?_
  refine Go.iconst 14 (0 : Int32) d12_13 rfl rfl ?_
  refine Go.aloadN 15 d12_14 rfl rfl rfl ?_
  have X_11 : Ext h0 hb := extK E_5 Kb (allS (Nat.le_of_eq g_3) all0)
  have f_12 := Fv.ext X_11
  refine Go.getFN 18 d12_15 rfl (w81 hw) Via.refl f_12 ?_
  refine Go.aloadN 19 d12_18 rfl rfl rfl ?_
  have f_13 := Fc.ext X_11
  refine Go.getF 22 d12_19 rfl (w72 hw) Via.refl f_13 ?_
  refine Go.sfN [x_2, b] ?_
  refine Go.callV (S := []) (a := x_2) 25 [(.int (0 : Int32)), (.int y), (.int (1 : Int32))] d12_22 rfl rfl (w83 hw) (w84 hw) (w86 hw) (w85 hw) (fun _ q => notFace_of_selects (args := #[]) (mvT q (w86 hw))) (by decide) Ex (call_of_go (R := _) (len := 3) (W := 0) (plainFor_of_name pn_0) (fun mid => ef_setz11 mid x_2 b y ) (c_setz11 hw x_2 b y Ex q_4 nbx Fw Fu Ab1 n0b hy hyn he SA) (w87 hw) (w16 hw) (by decide) (by decide)) (lenOf pd_4 rfl) (Nat.le_of_ble_eq_true rfl) rfl (Nat.le_of_ble_eq_true rfl) (Nat.le_of_ble_eq_true rfl) (fun _ q => q) (fun v hz sf_14 hq => ?_)
  obtain ⟨rfl, Kz, Ez, Fwz, Fuz, Az⟩ := hq
  refine Go.more (sf' := [x_2, b]) ?_ (Nat.le_refl _) (Nat.le_refl _) (fun _ q => List.mem_append_right _ q)
  show G_tab11 none l Z n0 c t y h0 2 5 [x_2, b] hz 25 #[.val (.ref c), .val (.ref t), .val (.ref x_2)] []
  refine Go.aloadN 26 d12_25 rfl rfl rfl ?_
  have X_15 : Ext h0 hz := extK X_11 Kz (allS (Nat.le_of_eq g_3) (allS (Nat.le_trans E_5.1 le_b) all0))
  exact Go.retA d12_26 rfl rfl rfl (sf' := []) (⟨_, b, rfl, X_15, (Nat.le_of_eq g_3), (Nat.le_trans E_5.1 le_b), q_4, n0b, nbx, Ez, Fwz, Fuz, Az⟩) (fun _ q => nomatch q) (Nat.le_of_ble_eq_true rfl) (Nat.le_of_ble_eq_true rfl)
abbrev G_tab20 (md : Md) (l : Launch) (Z : State) (n0 : Nat) (c t : Addr) (y : Int32) (h0 : Heap) := Go md l Z n0 ({ frames := 3, cells := 2, slots := 5, locals := 49 } : Room) prog_5_method_2_code 3 (some (.object "java/util/BitSet")) "com/example/petrel/petrel/HoaLabel$Constant" "table" (fun v h' _ => ∃ x b, v = some (.ref x) ∧ Ext h0 h' ∧ h0.size ≤ x ∧ h0.size ≤ b ∧ n0 ≤ x ∧ n0 ≤ b ∧ b ≠ x ∧ Exa Z h' x "java/util/BitSet" ∧ Fld Z h' x "java/util/BitSet" "words" "[J" (.ref b) ∧ Fld Z h' x "java/util/BitSet" "wordsInUse" "I" (.int 0) ∧ Ary Z h' b .long [(.long (0 : Int64)), (.long (0 : Int64))])
theorem ef_tab20 (mid : MethodId) (c t : Addr) (y : Int32)  : entryFrame mid #[(.ref c), (.ref t)] 3 = mkF mid 0 #[.val (.ref c), .val (.ref t), .unset] [] := by first | (simp [entryFrame, mkF, argsToLocals, Value.category]; done) | rfl
set_option maxRecDepth 65536 in
set_option maxHeartbeats 40000000 in
theorem c_tab20 {l : Launch} {Z : State} {n0 : Nat} {a0 : Array Value} (hw : HW a0 Z) (c t : Addr) (y : Int32) {h0 : Heap} (Fc : Fld Z h0 c "com/example/petrel/petrel/HoaLabel$Constant" "value" "Z" (.int 0)) (Fv : Fld Z h0 t "com/example/petrel/petrel/HoaLabel$Tables" "valuationCount" "I" (.int y)) (hy : ¬ y < 0) (hyn : ¬ (0 : Int32) = y) (he : ((y - (1 : Int32)) >>> ((6 : Int32) &&& 31)) = (1 : Int32)) (hm : (((y - (1 : Int32)) >>> ((6 : Int32) &&& 31)) + (1 : Int32)).toInt = ((2 : Nat) : Int)) (SA : Sta Z Z.heap "java/util/BitSet" "$assertionsDisabled" "Z" (.int 1)) : G_tab20 none l Z n0 c t y h0 0 0 [] h0 0 #[.val (.ref c), .val (.ref t), .unset] [] := by
  refine Go.new 3 d12_0 rfl (w80 hw) (w15 hw) (w16 hw) (Nat.le_of_ble_eq_true rfl) (Nat.le_of_ble_eq_true rfl) (fun h_1 x_2 g_3 q_4 E_5 lt_6 A_7 D_8 => ?_)
  show G_tab20 none l Z n0 c t y h0 1 3 [x_2] h_1 3 #[.val (.ref c), .val (.ref t), .unset] [(.ref x_2)]
  refine Go.dup 4 d12_3 rfl rfl ?_
  refine Go.aloadN 5 d12_4 rfl rfl rfl ?_
  have f_9 := Fv.ext E_5
  refine Go.getFN 8 d12_5 rfl (w81 hw) Via.refl f_9 ?_
  refine Go.old fun _ nq => ?_
  have lt_x := A_7.lt
  refine Go.callC (S := [(.ref x_2)]) (a := x_2) 11 [(.int y)] d12_8 rfl rfl rfl (w82 hw) (w18 hw) (w19 hw) (by decide) (call_of_go (R := _) (len := 3) (W := 1) (plainFor_of_name pn_0) (fun mid => ef_bsinit mid x_2 y 2 ) (c_bsinit hw x_2 y 2 A_7 q_4 (D_8 (Or.inl (w35 hw)) (ty := (.array .long)) (by decide)) (D_8 (Or.inl (w22 hw)) (ty := .int) (by decide)) (D_8 (Or.inl (w24 hw)) (ty := .boolean) (by decide)) hy hm (by decide)) (w19 hw) (w16 hw) (by decide) (by decide)) (lenOf pd_1 rfl) (Nat.le_of_ble_eq_true rfl) rfl (Nat.le_of_ble_eq_true rfl) (Nat.le_of_ble_eq_true rfl) (fun _ q => q) (fun v hb sf_10 hq => ?_)
  obtain ⟨rfl, Kb, Ex, Fu, b, le_b, Fw, Ab⟩ := hq
  have n0b := Nat.le_trans nq le_b
  have nbx : b ≠ x_2 := Nat.ne_of_gt (Nat.lt_of_lt_of_le lt_x le_b)
  have Ab1 : Ary Z hb b .long [(.long (0 : Int64)), (.long (0 : Int64))] := Ab
  refine Go.more (sf' := [x_2]) ?_ (Nat.le_refl _) (Nat.le_refl _) (fun _ q => List.mem_append_right _ q)
  show G_tab20 none l Z n0 c t y h0 2 5 [x_2] hb 11 #[.val (.ref c), .val (.ref t), .unset] [(.ref x_2)]
  refine Go.astoreN 12 #[.val (.ref c), .val (.ref t), .val (.ref x_2)] d12_11 rfl rfl rfl ?_
  refine Go.aloadN 13 d12_12 rfl rfl rfl ?_
  refine Go.iconst 14 (0 : Int32) d12_13 rfl rfl ?_
  refine Go.aloadN 15 d12_14 rfl rfl rfl ?_
  have X_11 : Ext h0 hb := extK E_5 Kb (allS (Nat.le_of_eq g_3) all0)
  have f_12 := Fv.ext X_11
  refine Go.getFN 18 d12_15 rfl (w81 hw) Via.refl f_12 ?_
  refine Go.aloadN 19 d12_18 rfl rfl rfl ?_
  have f_13 := Fc.ext X_11
  refine Go.getF 22 d12_19 rfl (w72 hw) Via.refl f_13 ?_
  refine Go.sfN [x_2, b] ?_
  refine Go.callV (S := []) (a := x_2) 25 [(.int (0 : Int32)), (.int y), (.int (0 : Int32))] d12_22 rfl rfl (w83 hw) (w84 hw) (w86 hw) (w85 hw) (fun _ q => notFace_of_selects (args := #[]) (mvT q (w86 hw))) (by decide) Ex (call_of_go (R := _) (len := 3) (W := 0) (plainFor_of_name pn_0) (fun mid => ef_setz20 mid x_2 b y ) (c_setz20 hw x_2 b y Ex q_4 nbx Fw Fu Ab1 n0b hy hyn he SA) (w87 hw) (w16 hw) (by decide) (by decide)) (lenOf pd_4 rfl) (Nat.le_of_ble_eq_true rfl) rfl (Nat.le_of_ble_eq_true rfl) (Nat.le_of_ble_eq_true rfl) (fun _ q => q) (fun v hz sf_14 hq => ?_)
  obtain ⟨rfl, Kz, Ez, Fwz, Fuz, Az⟩ := hq
  refine Go.more (sf' := [x_2, b]) ?_ (Nat.le_refl _) (Nat.le_refl _) (fun _ q => List.mem_append_right _ q)
  show G_tab20 none l Z n0 c t y h0 2 5 [x_2, b] hz 25 #[.val (.ref c), .val (.ref t), .val (.ref x_2)] []
  refine Go.aloadN 26 d12_25 rfl rfl rfl ?_
  have X_15 : Ext h0 hz := extK X_11 Kz (allS (Nat.le_of_eq g_3) (allS (Nat.le_trans E_5.1 le_b) all0))
  exact Go.retA d12_26 rfl rfl rfl (sf' := []) (⟨_, b, rfl, X_15, (Nat.le_of_eq g_3), (Nat.le_trans E_5.1 le_b), q_4, n0b, nbx, Ez, Fwz, Fuz, Az⟩) (fun _ q => nomatch q) (Nat.le_of_ble_eq_true rfl) (Nat.le_of_ble_eq_true rfl)
abbrev G_tab21 (md : Md) (l : Launch) (Z : State) (n0 : Nat) (c t : Addr) (y : Int32) (h0 : Heap) := Go md l Z n0 ({ frames := 4, cells := 2, slots := 5, locals := 64 } : Room) prog_5_method_2_code 3 (some (.object "java/util/BitSet")) "com/example/petrel/petrel/HoaLabel$Constant" "table" (fun v h' _ => ∃ x b, v = some (.ref x) ∧ Ext h0 h' ∧ h0.size ≤ x ∧ h0.size ≤ b ∧ n0 ≤ x ∧ n0 ≤ b ∧ b ≠ x ∧ Exa Z h' x "java/util/BitSet" ∧ Fld Z h' x "java/util/BitSet" "words" "[J" (.ref b) ∧ Fld Z h' x "java/util/BitSet" "wordsInUse" "I" (.int 2) ∧ Ary Z h' b .long [(.long ((0 : Int64) ||| ((-1 : Int64) <<< ((0 : Int32) &&& 0x3f).toInt64))), (.long ((0 : Int64) ||| (ushrL (-1 : Int64) (-y))))])
theorem ef_tab21 (mid : MethodId) (c t : Addr) (y : Int32)  : entryFrame mid #[(.ref c), (.ref t)] 3 = mkF mid 0 #[.val (.ref c), .val (.ref t), .unset] [] := by first | (simp [entryFrame, mkF, argsToLocals, Value.category]; done) | rfl
set_option maxRecDepth 65536 in
set_option maxHeartbeats 40000000 in
theorem c_tab21 {l : Launch} {Z : State} {n0 : Nat} {a0 : Array Value} (hw : HW a0 Z) (c t : Addr) (y : Int32) {h0 : Heap} (Fc : Fld Z h0 c "com/example/petrel/petrel/HoaLabel$Constant" "value" "Z" (.int 1)) (Fv : Fld Z h0 t "com/example/petrel/petrel/HoaLabel$Tables" "valuationCount" "I" (.int y)) (hy : ¬ y < 0) (hyn : ¬ (0 : Int32) = y) (he : ((y - (1 : Int32)) >>> ((6 : Int32) &&& 31)) = (1 : Int32)) (hm : (((y - (1 : Int32)) >>> ((6 : Int32) &&& 31)) + (1 : Int32)).toInt = ((2 : Nat) : Int)) (SA : Sta Z Z.heap "java/util/BitSet" "$assertionsDisabled" "Z" (.int 1)) : G_tab21 none l Z n0 c t y h0 0 0 [] h0 0 #[.val (.ref c), .val (.ref t), .unset] [] := by
  refine Go.new 3 d12_0 rfl (w80 hw) (w15 hw) (w16 hw) (Nat.le_of_ble_eq_true rfl) (Nat.le_of_ble_eq_true rfl) (fun h_1 x_2 g_3 q_4 E_5 lt_6 A_7 D_8 => ?_)
  show G_tab21 none l Z n0 c t y h0 1 3 [x_2] h_1 3 #[.val (.ref c), .val (.ref t), .unset] [(.ref x_2)]
  refine Go.dup 4 d12_3 rfl rfl ?_
  refine Go.aloadN 5 d12_4 rfl rfl rfl ?_
  have f_9 := Fv.ext E_5
  refine Go.getFN 8 d12_5 rfl (w81 hw) Via.refl f_9 ?_
  refine Go.old fun _ nq => ?_
  have lt_x := A_7.lt
  refine Go.callC (S := [(.ref x_2)]) (a := x_2) 11 [(.int y)] d12_8 rfl rfl rfl (w82 hw) (w18 hw) (w19 hw) (by decide) (call_of_go (R := _) (len := 3) (W := 1) (plainFor_of_name pn_0) (fun mid => ef_bsinit mid x_2 y 2 ) (c_bsinit hw x_2 y 2 A_7 q_4 (D_8 (Or.inl (w35 hw)) (ty := (.array .long)) (by decide)) (D_8 (Or.inl (w22 hw)) (ty := .int) (by decide)) (D_8 (Or.inl (w24 hw)) (ty := .boolean) (by decide)) hy hm (by decide)) (w19 hw) (w16 hw) (by decide) (by decide)) (lenOf pd_1 rfl) (Nat.le_of_ble_eq_true rfl) rfl (Nat.le_of_ble_eq_true rfl) (Nat.le_of_ble_eq_true rfl) (fun _ q => q) (fun v hb sf_10 hq => ?_)
  obtain ⟨rfl, Kb, Ex, Fu, b, le_b, Fw, Ab⟩ := hq
  have n0b := Nat.le_trans nq le_b
  have nbx : b ≠ x_2 := Nat.ne_of_gt (Nat.lt_of_lt_of_le lt_x le_b)
  have Ab1 : Ary Z hb b .long [(.long (0 : Int64)), (.long (0 : Int64))] := Ab
  refine Go.more (sf' := [x_2]) ?_ (Nat.le_refl _) (Nat.le_refl _) (fun _ q => List.mem_append_right _ q)
  show G_tab21 none l Z n0 c t y h0 2 5 [x_2] hb 11 #[.val (.ref c), .val (.ref t), .unset] [(.ref x_2)]
  refine Go.astoreN 12 #[.val (.ref c), .val (.ref t), .val (.ref x_2)] d12_11 rfl rfl rfl ?_
  refine Go.aloadN 13 d12_12 rfl rfl rfl ?_
  refine Go.iconst 14 (0 : Int32) d12_13 rfl rfl ?_
  refine Go.aloadN 15 d12_14 rfl rfl rfl ?_
  have X_11 : Ext h0 hb := extK E_5 Kb (allS (Nat.le_of_eq g_3) all0)
  have f_12 := Fv.ext X_11
  refine Go.getFN 18 d12_15 rfl (w81 hw) Via.refl f_12 ?_
  refine Go.aloadN 19 d12_18 rfl rfl rfl ?_
  have f_13 := Fc.ext X_11
  refine Go.getF 22 d12_19 rfl (w72 hw) Via.refl f_13 ?_
  refine Go.sfN [x_2, b] ?_
  refine Go.callV (S := []) (a := x_2) 25 [(.int (0 : Int32)), (.int y), (.int (1 : Int32))] d12_22 rfl rfl (w83 hw) (w84 hw) (w86 hw) (w85 hw) (fun _ q => notFace_of_selects (args := #[]) (mvT q (w86 hw))) (by decide) Ex (call_of_go (R := _) (len := 3) (W := 0) (plainFor_of_name pn_0) (fun mid => ef_setz21 mid x_2 b y ) (c_setz21 hw x_2 b y Ex q_4 nbx Fw Fu Ab1 n0b hy hyn he SA) (w87 hw) (w16 hw) (by decide) (by decide)) (lenOf pd_4 rfl) (Nat.le_of_ble_eq_true rfl) rfl (Nat.le_of_ble_eq_true rfl) (Nat.le_of_ble_eq_true rfl) (fun _ q => q) (fun v hz sf_14 hq => ?_)
  obtain ⟨rfl, Kz, Ez, Fwz, Fuz, Az⟩ := hq
  refine Go.more (sf' := [x_2, b]) ?_ (Nat.le_refl _) (Nat.le_refl _) (fun _ q => List.mem_append_right _ q)
  show G_tab21 none l Z n0 c t y h0 2 5 [x_2, b] hz 25 #[.val (.ref c), .val (.ref t), .val (.ref x_2)] []
  refine Go.aloadN 26 d12_25 rfl rfl rfl ?_
  have X_15 : Ext h0 hz := extK X_11 Kz (allS (Nat.le_of_eq g_3) (allS (Nat.le_trans E_5.1 le_b) all0))
  exact Go.retA d12_26 rfl rfl rfl (sf' := []) (⟨_, b, rfl, X_15, (Nat.le_of_eq g_3), (Nat.le_trans E_5.1 le_b), q_4, n0b, nbx, Ez, Fwz, Fuz, Az⟩) (fun _ q => nomatch q) (Nat.le_of_ble_eq_true rfl) (Nat.le_of_ble_eq_true rfl)
abbrev G_bc (md : Md) (l : Launch) (Z : State) (n0 : Nat) (x : Int64) (h0 : Heap) := Go md l Z n0 ({ frames := 0, cells := 0, slots := 0, locals := 0 } : Room) jdk_35_method_50_code 2 (some .int) "java/lang/Long" "bitCount" (fun v h' _ => h0 = h' ∧ v = some (.int (bcount x)))
theorem ef_bc (mid : MethodId) (x : Int64)  : entryFrame mid #[(.long x)] 2 = mkF mid 0 #[.val (.long x), .second] [] := by first | (simp [entryFrame, mkF, argsToLocals, Value.category]; done) | rfl
set_option maxRecDepth 65536 in
set_option maxHeartbeats 40000000 in
theorem c_bc {md : Md} {l : Launch} {Z : State} {n0 : Nat} {a0 : Array Value} (hw : HW a0 Z) (x : Int64) {h0 : Heap}  : G_bc md l Z n0 x h0 0 0 [] h0 0 #[.val (.long x), .second] [] := by
  refine Go.lloadN 1 d23_0 rfl rfl ?_
  refine Go.lloadN 2 d23_1 rfl rfl ?_
  refine Go.iconst 3 (1 : Int32) d23_2 rfl rfl ?_
  refine Go.lushr 4 d23_3 rfl ?_
  refine Go.ldc2J 7 d23_4 rfl (w135 hw) ?_
  refine Go.land 8 d23_7 rfl ?_
  refine Go.lsub 9 d23_8 rfl ?_
  refine Go.lstoreN 10 #[.val (.long (x - ((ushrL x (1 : Int32)) &&& (6148914691236517205 : Int64)))), .second] d23_9 rfl rfl ?_
  obtain ⟨x1, e_x1⟩ : ∃ y_ : Int64, y_ = (x - ((ushrL x (1 : Int32)) &&& (6148914691236517205 : Int64))) := ⟨_, rfl⟩
  rw [← e_x1]
  show G_bc md l Z n0 x h0 0 0 [] h0 10 #[.val (.long x1), .second] []
  refine Go.lloadN 11 d23_10 rfl rfl ?_
  refine Go.ldc2J 14 d23_11 rfl (w136 hw) ?_
  refine Go.land 15 d23_14 rfl ?_
  refine Go.lloadN 16 d23_15 rfl rfl ?_
  refine Go.iconst 17 (2 : Int32) d23_16 rfl rfl ?_
  refine Go.lushr 18 d23_17 rfl ?_
  refine Go.ldc2J 21 d23_18 rfl (w136 hw) ?_
  refine Go.land 22 d23_21 rfl ?_
  refine Go.ladd 23 d23_22 rfl ?_
  refine Go.lstoreN 24 #[.val (.long ((x1 &&& (3689348814741910323 : Int64)) + ((ushrL x1 (2 : Int32)) &&& (3689348814741910323 : Int64)))), .second] d23_23 rfl rfl ?_
  obtain ⟨x2, e_x2⟩ : ∃ y_ : Int64, y_ = ((x1 &&& (3689348814741910323 : Int64)) + ((ushrL x1 (2 : Int32)) &&& (3689348814741910323 : Int64))) := ⟨_, rfl⟩
  rw [← e_x2]
  show G_bc md l Z n0 x h0 0 0 [] h0 24 #[.val (.long x2), .second] []
  refine Go.lloadN 25 d23_24 rfl rfl ?_
  refine Go.lloadN 26 d23_25 rfl rfl ?_
  refine Go.iconst 27 (4 : Int32) d23_26 rfl rfl ?_
  refine Go.lushr 28 d23_27 rfl ?_
  refine Go.ladd 29 d23_28 rfl ?_
  refine Go.ldc2J 32 d23_29 rfl (w137 hw) ?_
  refine Go.land 33 d23_32 rfl ?_
  refine Go.lstoreN 34 #[.val (.long ((x2 + (ushrL x2 (4 : Int32))) &&& (1085102592571150095 : Int64))), .second] d23_33 rfl rfl ?_
  obtain ⟨x3, e_x3⟩ : ∃ y_ : Int64, y_ = ((x2 + (ushrL x2 (4 : Int32))) &&& (1085102592571150095 : Int64)) := ⟨_, rfl⟩
  rw [← e_x3]
  show G_bc md l Z n0 x h0 0 0 [] h0 34 #[.val (.long x3), .second] []
  refine Go.lloadN 35 d23_34 rfl rfl ?_
  refine Go.lloadN 36 d23_35 rfl rfl ?_
  refine Go.bipush 38 (8 : Int32) d23_36 rfl rfl ?_
  refine Go.lushr 39 d23_38 rfl ?_
  refine Go.ladd 40 d23_39 rfl ?_
  refine Go.lstoreN 41 #[.val (.long (x3 + (ushrL x3 (8 : Int32)))), .second] d23_40 rfl rfl ?_
  obtain ⟨x4, e_x4⟩ : ∃ y_ : Int64, y_ = (x3 + (ushrL x3 (8 : Int32))) := ⟨_, rfl⟩
  rw [← e_x4]
  show G_bc md l Z n0 x h0 0 0 [] h0 41 #[.val (.long x4), .second] []
  refine Go.lloadN 42 d23_41 rfl rfl ?_
  refine Go.lloadN 43 d23_42 rfl rfl ?_
  refine Go.bipush 45 (16 : Int32) d23_43 rfl rfl ?_
  refine Go.lushr 46 d23_45 rfl ?_
  refine Go.ladd 47 d23_46 rfl ?_
  refine Go.lstoreN 48 #[.val (.long (x4 + (ushrL x4 (16 : Int32)))), .second] d23_47 rfl rfl ?_
  obtain ⟨x5, e_x5⟩ : ∃ y_ : Int64, y_ = (x4 + (ushrL x4 (16 : Int32))) := ⟨_, rfl⟩
  rw [← e_x5]
  show G_bc md l Z n0 x h0 0 0 [] h0 48 #[.val (.long x5), .second] []
  refine Go.lloadN 49 d23_48 rfl rfl ?_
  refine Go.lloadN 50 d23_49 rfl rfl ?_
  refine Go.bipush 52 (32 : Int32) d23_50 rfl rfl ?_
  refine Go.lushr 53 d23_52 rfl ?_
  refine Go.ladd 54 d23_53 rfl ?_
  refine Go.lstoreN 55 #[.val (.long (x5 + (ushrL x5 (32 : Int32)))), .second] d23_54 rfl rfl ?_
  obtain ⟨x6, e_x6⟩ : ∃ y_ : Int64, y_ = (x5 + (ushrL x5 (32 : Int32))) := ⟨_, rfl⟩
  rw [← e_x6]
  show G_bc md l Z n0 x h0 0 0 [] h0 55 #[.val (.long x6), .second] []
  refine Go.lloadN 56 d23_55 rfl rfl ?_
  refine Go.l2i 57 d23_56 rfl ?_
  refine Go.bipush 59 (127 : Int32) d23_57 rfl rfl ?_
  refine Go.iand 60 d23_59 rfl ?_
  exact Go.retI d23_60 rfl (sf' := []) (⟨rfl, by subst e_x6; subst e_x5; subst e_x4; subst e_x3; subst e_x2; subst e_x1; rfl⟩) (fun _ q => nomatch q) (Nat.le_of_ble_eq_true rfl) (Nat.le_of_ble_eq_true rfl)
abbrev G_nlzi (md : Md) (l : Launch) (Z : State) (n0 : Nat) (x : Int32) (h0 : Heap) := Go md l Z n0 ({ frames := 0, cells := 0, slots := 0, locals := 0 } : Room) jdk_33_method_47_code 2 (some .int) "java/lang/Integer" "numberOfLeadingZeros" (fun v h' _ => h0 = h' ∧ v = some (.int (nlzI x)))
theorem ef_nlzi (mid : MethodId) (x : Int32)  : entryFrame mid #[(.int x)] 2 = mkF mid 0 #[.val (.int x), .unset] [] := by first | (simp [entryFrame, mkF, argsToLocals, Value.category]; done) | rfl
set_option maxRecDepth 65536 in
set_option maxHeartbeats 40000000 in
theorem c_nlzi {md : Md} {l : Launch} {Z : State} {n0 : Nat} {a0 : Array Value} (hw : HW a0 Z) (x : Int32) {h0 : Heap}  : G_nlzi md l Z n0 x h0 0 0 [] h0 0 #[.val (.int x), .unset] [] := by
  have cut73 : ∀ (i n : Int32) (hr : nz0 i n = nlzI x), G_nlzi md l Z n0 x h0 0 0 [] h0 73 #[.val (.int i), .val (.int n)] [] := by
    intro i n hr
    refine Go.iloadN 74 d25_73 rfl rfl ?_
    refine Go.iloadN 75 d25_74 rfl rfl ?_
    refine Go.iconst 76 (1 : Int32) d25_75 rfl rfl ?_
    refine Go.iushr 77 d25_76 rfl ?_
    refine Go.isub 78 d25_77 rfl ?_
    exact Go.retI d25_78 rfl (sf' := []) (⟨rfl, by rw [← hr]; rfl⟩) (fun _ q => nomatch q) (Nat.le_of_ble_eq_true rfl) (Nat.le_of_ble_eq_true rfl)
  have cut61 : ∀ (i n : Int32) (hr : nz1 i n = nlzI x), G_nlzi md l Z n0 x h0 0 0 [] h0 61 #[.val (.int i), .val (.int n)] [] := by
    intro i n hr
    refine Go.iloadN 62 d25_61 rfl rfl ?_
    refine Go.iconst 63 (4 : Int32) d25_62 rfl rfl ?_
    by_cases hc63 : i < (4 : Int32)
    · skip
      refine Go.icmpY 73 d25_63 (by decide) (by decide) (tlt hc63).1 ?_
      exact cut73 i n (by rw [← hr, nz1, if_pos hc63])
    · skip
      refine Go.icmpN 66 d25_63 rfl (flt hc63).1 ?_
      refine Go.iinc 69 #[.val (.int i), .val (.int (n + (-2 : Int32)))] (-2 : Int32) d25_66 rfl rfl rfl rfl ?_
      refine Go.iloadN 70 d25_69 rfl rfl ?_
      refine Go.iconst 71 (2 : Int32) d25_70 rfl rfl ?_
      refine Go.iushr 72 d25_71 rfl ?_
      refine Go.istoreN 73 #[.val (.int (ushr i (2 : Int32))), .val (.int (n + (-2 : Int32)))] d25_72 rfl rfl ?_
      exact cut73 (ushr i (2 : Int32)) (n + (-2 : Int32)) (by rw [← hr, nz1, if_neg hc63])
  have cut48 : ∀ (i n : Int32) (hr : nz2 i n = nlzI x), G_nlzi md l Z n0 x h0 0 0 [] h0 48 #[.val (.int i), .val (.int n)] [] := by
    intro i n hr
    refine Go.iloadN 49 d25_48 rfl rfl ?_
    refine Go.bipush 51 (16 : Int32) d25_49 rfl rfl ?_
    by_cases hc51 : i < (16 : Int32)
    · skip
      refine Go.icmpY 61 d25_51 (by decide) (by decide) (tlt hc51).1 ?_
      exact cut61 i n (by rw [← hr, nz2, if_pos hc51])
    · skip
      refine Go.icmpN 54 d25_51 rfl (flt hc51).1 ?_
      refine Go.iinc 57 #[.val (.int i), .val (.int (n + (-4 : Int32)))] (-4 : Int32) d25_54 rfl rfl rfl rfl ?_
      refine Go.iloadN 58 d25_57 rfl rfl ?_
      refine Go.iconst 59 (4 : Int32) d25_58 rfl rfl ?_
      refine Go.iushr 60 d25_59 rfl ?_
      refine Go.istoreN 61 #[.val (.int (ushr i (4 : Int32))), .val (.int (n + (-4 : Int32)))] d25_60 rfl rfl ?_
      exact cut61 (ushr i (4 : Int32)) (n + (-4 : Int32)) (by rw [← hr, nz2, if_neg hc51])
  have cut33 : ∀ (i n : Int32) (hr : nz3 i n = nlzI x), G_nlzi md l Z n0 x h0 0 0 [] h0 33 #[.val (.int i), .val (.int n)] [] := by
    intro i n hr
    refine Go.iloadN 34 d25_33 rfl rfl ?_
    refine Go.sipush 37 (256 : Int32) d25_34 rfl rfl ?_
    by_cases hc37 : i < (256 : Int32)
    · skip
      refine Go.icmpY 48 d25_37 (by decide) (by decide) (tlt hc37).1 ?_
      exact cut48 i n (by rw [← hr, nz3, if_pos hc37])
    · skip
      refine Go.icmpN 40 d25_37 rfl (flt hc37).1 ?_
      refine Go.iinc 43 #[.val (.int i), .val (.int (n + (-8 : Int32)))] (-8 : Int32) d25_40 rfl rfl rfl rfl ?_
      refine Go.iloadN 44 d25_43 rfl rfl ?_
      refine Go.bipush 46 (8 : Int32) d25_44 rfl rfl ?_
      refine Go.iushr 47 d25_46 rfl ?_
      refine Go.istoreN 48 #[.val (.int (ushr i (8 : Int32))), .val (.int (n + (-8 : Int32)))] d25_47 rfl rfl ?_
      exact cut48 (ushr i (8 : Int32)) (n + (-8 : Int32)) (by rw [← hr, nz3, if_neg hc37])
  refine Go.iloadN 1 d25_0 rfl rfl ?_
  by_cases hc1 : (0 : Int32) < x
  · skip
    refine Go.ifY 15 d25_1 (by decide) (by decide) (tlt hc1).2.2.1 ?_
    refine Go.bipush 17 (31 : Int32) d25_15 rfl rfl ?_
    refine Go.istoreN 18 #[.val (.int x), .val (.int (31 : Int32))] d25_17 rfl rfl ?_
    refine Go.iloadN 19 d25_18 rfl rfl ?_
    refine Go.ldcWI 22 d25_19 rfl (w145 hw) ?_
    by_cases hc22 : x < (65536 : Int32)
    · skip
      refine Go.icmpY 33 d25_22 (by decide) (by decide) (tlt hc22).1 ?_
      exact cut33 x (31 : Int32) (by rw [nlzI, if_pos hc1, if_pos hc22])
    · skip
      refine Go.icmpN 25 d25_22 rfl (flt hc22).1 ?_
      refine Go.iinc 28 #[.val (.int x), .val (.int ((31 : Int32) + (-16 : Int32)))] (-16 : Int32) d25_25 rfl rfl rfl rfl ?_
      refine Go.iloadN 29 d25_28 rfl rfl ?_
      refine Go.bipush 31 (16 : Int32) d25_29 rfl rfl ?_
      refine Go.iushr 32 d25_31 rfl ?_
      refine Go.istoreN 33 #[.val (.int (ushr x (16 : Int32))), .val (.int ((31 : Int32) + (-16 : Int32)))] d25_32 rfl rfl ?_
      exact cut33 (ushr x (16 : Int32)) ((31 : Int32) + (-16 : Int32)) (by rw [nlzI, if_pos hc1, if_neg hc22])
  · skip
    refine Go.ifN 4 d25_1 rfl (flt hc1).2.2.1 ?_
    refine Go.iloadN 5 d25_4 rfl rfl ?_
    by_cases hc5 : x = (0 : Int32)
    · skip
      refine Go.ifN 8 d25_5 rfl (teq hc5).2 ?_
      refine Go.bipush 10 (32 : Int32) d25_8 rfl rfl ?_
      refine Go.goto 14 d25_10 (by decide) (by decide) ?_
      exact Go.retI d25_14 rfl (sf' := []) (⟨rfl, by rw [nlzI, if_neg hc1, if_pos hc5]⟩) (fun _ q => nomatch q) (Nat.le_of_ble_eq_true rfl) (Nat.le_of_ble_eq_true rfl)
    · skip
      refine Go.ifY 13 d25_5 (by decide) (by decide) (feq hc5).2 ?_
      refine Go.iconst 14 (0 : Int32) d25_13 rfl rfl ?_
      exact Go.retI d25_14 rfl (sf' := []) (⟨rfl, by rw [nlzI, if_neg hc1, if_neg hc5]⟩) (fun _ q => nomatch q) (Nat.le_of_ble_eq_true rfl) (Nat.le_of_ble_eq_true rfl)
abbrev G_nlzl (md : Md) (l : Launch) (Z : State) (n0 : Nat) (x : Int64) (h0 : Heap) := Go md l Z n0 ({ frames := 1, cells := 0, slots := 0, locals := 14 } : Room) jdk_35_method_48_code 3 (some .int) "java/lang/Long" "numberOfLeadingZeros" (fun v h' _ => h0 = h' ∧ v = some (.int (nlzL x)))
theorem ef_nlzl (mid : MethodId) (x : Int64)  : entryFrame mid #[(.long x)] 3 = mkF mid 0 #[.val (.long x), .second, .unset] [] := by first | (simp [entryFrame, mkF, argsToLocals, Value.category]; done) | rfl
set_option maxRecDepth 65536 in
set_option maxHeartbeats 40000000 in
theorem c_nlzl {md : Md} {l : Launch} {Z : State} {n0 : Nat} {a0 : Array Value} (hw : HW a0 Z) (x : Int64) {h0 : Heap}  : G_nlzl md l Z n0 x h0 0 0 [] h0 0 #[.val (.long x), .second, .unset] [] := by
  refine Go.lloadN 1 d24_0 rfl rfl ?_
  refine Go.bipush 3 (32 : Int32) d24_1 rfl rfl ?_
  refine Go.lushr 4 d24_3 rfl ?_
  refine Go.l2i 5 d24_4 rfl ?_
  refine Go.istoreN 6 #[.val (.long x), .second, .val (.int ((ushrL x (32 : Int32))).toInt32)] d24_5 rfl rfl ?_
  refine Go.iloadN 7 d24_6 rfl rfl ?_
  by_cases hc7 : ((ushrL x (32 : Int32))).toInt32 = (0 : Int32)
  · skip
    refine Go.ifN 10 d24_7 rfl (teq hc7).2 ?_
    refine Go.bipush 12 (32 : Int32) d24_10 rfl rfl ?_
    refine Go.lloadN 13 d24_12 rfl rfl ?_
    refine Go.l2i 14 d24_13 rfl ?_
    refine Go.callS (S := [(.int (32 : Int32))]) 17 [(.int (x).toInt32)] d24_14 rfl rfl (w141 hw) (w142 hw) (w143 hw) (w144 hw) (by decide) (call_of_go (R := _) (len := 3) (W := 1) pf_0 (fun mid => ef_nlzi mid (x).toInt32 ) (c_nlzi hw (x).toInt32 ) (w144 hw) (w143 hw) (by decide) (by decide)) (lenOf pd_0 rfl) (Nat.le_of_ble_eq_true rfl) rfl (Nat.le_of_ble_eq_true rfl) (Nat.le_of_ble_eq_true rfl) (fun _ q => nomatch q) (fun v h_1 sf_2 hq => ?_)
    obtain ⟨rfl, rfl⟩ := hq
    refine Go.more (sf' := []) ?_ (Nat.le_refl _) (Nat.le_refl _) (fun _ q => List.mem_append_right _ q)
    show G_nlzl md l Z n0 x h0 0 0 [] h0 17 #[.val (.long x), .second, .val (.int ((ushrL x (32 : Int32))).toInt32)] [(.int (nlzI (x).toInt32)), (.int (32 : Int32))]
    refine Go.iadd 18 d24_17 rfl ?_
    refine Go.goto 25 d24_18 (by decide) (by decide) ?_
    exact Go.retI d24_25 rfl (sf' := []) (⟨rfl, by rw [nlzL, if_pos hc7]⟩) (fun _ q => nomatch q) (Nat.le_of_ble_eq_true rfl) (Nat.le_of_ble_eq_true rfl)
  · skip
    refine Go.ifY 21 d24_7 (by decide) (by decide) (feq hc7).2 ?_
    refine Go.iloadN 22 d24_21 rfl rfl ?_
    refine Go.callS (S := []) 25 [(.int ((ushrL x (32 : Int32))).toInt32)] d24_22 rfl rfl (w141 hw) (w142 hw) (w143 hw) (w144 hw) (by decide) (call_of_go (R := _) (len := 3) (W := 0) pf_0 (fun mid => ef_nlzi mid ((ushrL x (32 : Int32))).toInt32 ) (c_nlzi hw ((ushrL x (32 : Int32))).toInt32 ) (w144 hw) (w143 hw) (by decide) (by decide)) (lenOf pd_0 rfl) (Nat.le_of_ble_eq_true rfl) rfl (Nat.le_of_ble_eq_true rfl) (Nat.le_of_ble_eq_true rfl) (fun _ q => nomatch q) (fun v h_3 sf_4 hq => ?_)
    obtain ⟨rfl, rfl⟩ := hq
    refine Go.more (sf' := []) ?_ (Nat.le_refl _) (Nat.le_refl _) (fun _ q => List.mem_append_right _ q)
    show G_nlzl md l Z n0 x h0 0 0 [] h0 25 #[.val (.long x), .second, .val (.int ((ushrL x (32 : Int32))).toInt32)] [(.int (nlzI ((ushrL x (32 : Int32))).toInt32))]
    exact Go.retI d24_25 rfl (sf' := []) (⟨rfl, by rw [nlzL, if_neg hc7]⟩) (fun _ q => nomatch q) (Nat.le_of_ble_eq_true rfl) (Nat.le_of_ble_eq_true rfl)
abbrev G_card0 (md : Md) (l : Launch) (Z : State) (n0 : Nat) (a : Addr) (h0 : Heap) := Go md l Z n0 ({ frames := 0, cells := 0, slots := 0, locals := 0 } : Room) jdk_92_method_35_code 3 (some .int) "java/util/BitSet" "cardinality" (fun v h' _ => h0 = h' ∧ v = some (.int (0 : Int32)))
theorem ef_card0 (mid : MethodId) (a : Addr)  : entryFrame mid #[(.ref a)] 3 = mkF mid 0 #[.val (.ref a), .unset, .unset] [] := by first | (simp [entryFrame, mkF, argsToLocals, Value.category]; done) | rfl
set_option maxRecDepth 65536 in
set_option maxHeartbeats 40000000 in
theorem c_card0 {md : Md} {l : Launch} {Z : State} {n0 : Nat} {a0 : Array Value} (hw : HW a0 Z) (a : Addr) {h0 : Heap} (F2 : Fld Z h0 a "java/util/BitSet" "wordsInUse" "I" (.int 0)) : G_card0 md l Z n0 a h0 0 0 [] h0 0 #[.val (.ref a), .unset, .unset] [] := by
  refine Go.iconst 1 (0 : Int32) d17_0 rfl rfl ?_
  refine Go.istoreN 2 #[.val (.ref a), .val (.int (0 : Int32)), .unset] d17_1 rfl rfl ?_
  refine Go.iconst 3 (0 : Int32) d17_2 rfl rfl ?_
  refine Go.istoreN 4 #[.val (.ref a), .val (.int (0 : Int32)), .val (.int (0 : Int32))] d17_3 rfl rfl ?_
  refine Go.iloadN 5 d17_4 rfl rfl ?_
  refine Go.aloadN 6 d17_5 rfl rfl rfl ?_
  refine Go.getF 9 d17_6 rfl (w21 hw) Via.refl F2 ?_
  refine Go.icmpY 30 d17_9 (by decide) (by decide) (flt (by decide)).2.1 ?_
  refine Go.iloadN 31 d17_30 rfl rfl ?_
  exact Go.retI d17_31 rfl (sf' := []) (⟨rfl, rfl⟩) (fun _ q => nomatch q) (Nat.le_of_ble_eq_true rfl) (Nat.le_of_ble_eq_true rfl)
abbrev G_len0 (md : Md) (l : Launch) (Z : State) (n0 : Nat) (a : Addr) (h0 : Heap) := Go md l Z n0 ({ frames := 0, cells := 0, slots := 0, locals := 0 } : Room) jdk_92_method_32_code 1 (some .int) "java/util/BitSet" "length" (fun v h' _ => h0 = h' ∧ v = some (.int (0 : Int32)))
theorem ef_len0 (mid : MethodId) (a : Addr)  : entryFrame mid #[(.ref a)] 1 = mkF mid 0 #[.val (.ref a)] [] := by first | (simp [entryFrame, mkF, argsToLocals, Value.category]; done) | rfl
set_option maxRecDepth 65536 in
set_option maxHeartbeats 40000000 in
theorem c_len0 {md : Md} {l : Launch} {Z : State} {n0 : Nat} {a0 : Array Value} (hw : HW a0 Z) (a : Addr) {h0 : Heap} (F2 : Fld Z h0 a "java/util/BitSet" "wordsInUse" "I" (.int 0)) : G_len0 md l Z n0 a h0 0 0 [] h0 0 #[.val (.ref a)] [] := by
  refine Go.aloadN 1 d18_0 rfl rfl rfl ?_
  refine Go.getF 4 d18_1 rfl (w21 hw) Via.refl F2 ?_
  refine Go.ifN 7 d18_4 rfl (teq (by decide)).2 ?_
  refine Go.iconst 8 (0 : Int32) d18_7 rfl rfl ?_
  exact Go.retI d18_8 rfl (sf' := []) (⟨rfl, rfl⟩) (fun _ q => nomatch q) (Nat.le_of_ble_eq_true rfl) (Nat.le_of_ble_eq_true rfl)
abbrev G_get0 (md : Md) (l : Launch) (Z : State) (n0 : Nat) (a : Addr) (p : Int32) (h0 : Heap) := Go md l Z n0 ({ frames := 1, cells := 0, slots := 0, locals := 12 } : Room) jdk_92_method_26_code 3 (some .boolean) "java/util/BitSet" "get" (fun v h' _ => h0 = h' ∧ v = some (.int (0 : Int32)))
theorem ef_get0 (mid : MethodId) (a : Addr) (p : Int32)  : entryFrame mid #[(.ref a), (.int p)] 3 = mkF mid 0 #[.val (.ref a), .val (.int p), .unset] [] := by first | (simp [entryFrame, mkF, argsToLocals, Value.category]; done) | rfl
set_option maxRecDepth 65536 in
set_option maxHeartbeats 40000000 in
theorem c_get0 {md : Md} {l : Launch} {Z : State} {n0 : Nat} {a0 : Array Value} (hw : HW a0 Z) (a : Addr) (p : Int32) {h0 : Heap} (F2 : Fld Z h0 a "java/util/BitSet" "wordsInUse" "I" (.int 0)) (E : Exa Z h0 a "java/util/BitSet") (hp : ¬ p < 0) (hs : ¬ (p >>> ((6 : Int32) &&& 31)) < 0) (SA : Sta Z Z.heap "java/util/BitSet" "$assertionsDisabled" "Z" (.int 1)) : G_get0 md l Z n0 a p h0 0 0 [] h0 0 #[.val (.ref a), .val (.int p), .unset] [] := by
  refine Go.iloadN 1 d19_0 rfl rfl ?_
  refine Go.ifY 31 d19_1 (by decide) (by decide) (flt hp).2.1 ?_
  refine Go.aloadN 32 d19_31 rfl rfl rfl ?_
  refine Go.callP (S := []) (a := a) 35 [] d19_32 rfl rfl (w52 hw) (w53 hw) (w55 hw) (w54 hw) (w56 hw) (by decide) E (call_of_go (R := _) (len := 3) (W := 0) (plainFor_of_name pn_0) (fun mid => ef_ci mid a ) (c_ci hw a SA) (w56 hw) (w16 hw) (by decide) (by decide)) (lenOf pd_2 rfl) (Nat.le_of_ble_eq_true rfl) rfl (Nat.le_of_ble_eq_true rfl) (Nat.le_of_ble_eq_true rfl) (fun _ q => nomatch q) (fun v h_1 sf_2 hq => ?_)
  obtain ⟨rfl, rfl⟩ := hq
  refine Go.more (sf' := []) ?_ (Nat.le_refl _) (Nat.le_refl _) (fun _ q => List.mem_append_right _ q)
  show G_get0 md l Z n0 a p h0 0 0 [] h0 35 #[.val (.ref a), .val (.int p), .unset] []
  refine Go.iloadN 36 d19_35 rfl rfl ?_
  refine Go.callS (S := []) 39 [(.int p)] d19_36 rfl rfl (w30 hw) (w31 hw) (w16 hw) (w32 hw) (by decide) (call_of_go (R := _) (len := 3) (W := 0) (plainFor_of_name pn_0) (fun mid => ef_wi mid p ) (c_wi hw p ) (w32 hw) (w16 hw) (by decide) (by decide)) (lenOf pd_0 rfl) (Nat.le_of_ble_eq_true rfl) rfl (Nat.le_of_ble_eq_true rfl) (Nat.le_of_ble_eq_true rfl) (fun _ q => nomatch q) (fun v h_3 sf_4 hq => ?_)
  obtain ⟨rfl, rfl⟩ := hq
  refine Go.more (sf' := []) ?_ (Nat.le_refl _) (Nat.le_refl _) (fun _ q => List.mem_append_right _ q)
  show G_get0 md l Z n0 a p h0 0 0 [] h0 39 #[.val (.ref a), .val (.int p), .unset] [(.int (p >>> ((6 : Int32) &&& 31)))]
  refine Go.istoreN 40 #[.val (.ref a), .val (.int p), .val (.int (p >>> ((6 : Int32) &&& 31)))] d19_39 rfl rfl ?_
  refine Go.iloadN 41 d19_40 rfl rfl ?_
  refine Go.aloadN 42 d19_41 rfl rfl rfl ?_
  refine Go.getF 45 d19_42 rfl (w21 hw) Via.refl F2 ?_
  refine Go.icmpY 67 d19_45 (by decide) (by decide) (flt hs).2.1 ?_
  refine Go.iconst 68 (0 : Int32) d19_67 rfl rfl ?_
  exact Go.retN (0 : Int32) d19_68 rfl (t := .boolean) (by simp) rfl (sf' := []) (⟨rfl, rfl⟩) (fun _ q => nomatch q) (Nat.le_of_ble_eq_true rfl) (Nat.le_of_ble_eq_true rfl)
abbrev G_exact0 (md : Md) (l : Launch) (Z : State) (n0 : Nat) (a : Addr) (cnt p eb : Int32) (h0 : Heap) := Go md l Z n0 ({ frames := 2, cells := 0, slots := 0, locals := 26 } : Room) method_2_code 4 (some .boolean) "com/example/petrel/petrel/ConstantTablePinLaw" "exact" (fun v h' _ => h0 = h' ∧ v = some (.int 1))
theorem ef_exact0 (mid : MethodId) (a : Addr) (cnt p eb : Int32)  : entryFrame mid #[(.ref a), (.int cnt), (.int p), (.int eb)] 4 = mkF mid 0 #[.val (.ref a), .val (.int cnt), .val (.int p), .val (.int eb)] [] := by first | (simp [entryFrame, mkF, argsToLocals, Value.category]; done) | rfl
set_option maxRecDepth 65536 in
set_option maxHeartbeats 40000000 in
theorem c_exact0 {md : Md} {l : Launch} {Z : State} {n0 : Nat} {a0 : Array Value} (hw : HW a0 Z) (a : Addr) (cnt p eb : Int32) {h0 : Heap} (F2 : Fld Z h0 a "java/util/BitSet" "wordsInUse" "I" (.int 0)) (E : Exa Z h0 a "java/util/BitSet") (hp : ¬ p < 0) (hs : ¬ (p >>> ((6 : Int32) &&& 31)) < 0) (SA : Sta Z Z.heap "java/util/BitSet" "$assertionsDisabled" "Z" (.int 1)) (h1 : (0 : Int32) = cnt) (h2 : (0 : Int32) = cnt) (h3 : (0 : Int32) = eb) : G_exact0 md l Z n0 a cnt p eb h0 0 0 [] h0 0 #[.val (.ref a), .val (.int cnt), .val (.int p), .val (.int eb)] [] := by
  refine Go.aloadN 1 d16_0 rfl rfl rfl ?_
  refine Go.callV (S := []) (a := a) 4 [] d16_1 rfl rfl (w100 hw) (w101 hw) (w103 hw) (w102 hw) (fun _ q => notFace_of_selects (args := #[]) (mvT q (w103 hw))) (by decide) E (call_of_go (R := _) (len := 3) (W := 0) (plainFor_of_name pn_0) (fun mid => ef_card0 mid a ) (c_card0 hw a F2) (w104 hw) (w16 hw) (by decide) (by decide)) (lenOf pd_5 rfl) (Nat.le_of_ble_eq_true rfl) rfl (Nat.le_of_ble_eq_true rfl) (Nat.le_of_ble_eq_true rfl) (fun _ q => nomatch q) (fun v h_1 sf_2 hq => ?_)
  obtain ⟨rfl, rfl⟩ := hq
  refine Go.more (sf' := []) ?_ (Nat.le_refl _) (Nat.le_refl _) (fun _ q => List.mem_append_right _ q)
  show G_exact0 md l Z n0 a cnt p eb h0 0 0 [] h0 4 #[.val (.ref a), .val (.int cnt), .val (.int p), .val (.int eb)] [(.int (0 : Int32))]
  refine Go.iloadN 5 d16_4 rfl rfl ?_
  refine Go.icmpN 8 d16_5 rfl (teq h1).2 ?_
  refine Go.aloadN 9 d16_8 rfl rfl rfl ?_
  refine Go.callV (S := []) (a := a) 12 [] d16_9 rfl rfl (w105 hw) (w106 hw) (w108 hw) (w107 hw) (fun _ q => notFace_of_selects (args := #[]) (mvT q (w108 hw))) (by decide) E (call_of_go (R := _) (len := 3) (W := 0) (plainFor_of_name pn_0) (fun mid => ef_len0 mid a ) (c_len0 hw a F2) (w109 hw) (w16 hw) (by decide) (by decide)) (lenOf pd_5 rfl) (Nat.le_of_ble_eq_true rfl) rfl (Nat.le_of_ble_eq_true rfl) (Nat.le_of_ble_eq_true rfl) (fun _ q => nomatch q) (fun v h_3 sf_4 hq => ?_)
  obtain ⟨rfl, rfl⟩ := hq
  refine Go.more (sf' := []) ?_ (Nat.le_refl _) (Nat.le_refl _) (fun _ q => List.mem_append_right _ q)
  show G_exact0 md l Z n0 a cnt p eb h0 0 0 [] h0 12 #[.val (.ref a), .val (.int cnt), .val (.int p), .val (.int eb)] [(.int (0 : Int32))]
  refine Go.iloadN 13 d16_12 rfl rfl ?_
  refine Go.icmpN 16 d16_13 rfl (teq h2).2 ?_
  refine Go.aloadN 17 d16_16 rfl rfl rfl ?_
  refine Go.iloadN 18 d16_17 rfl rfl ?_
  refine Go.callV (S := []) (a := a) 21 [(.int p)] d16_18 rfl rfl (w110 hw) (w111 hw) (w113 hw) (w112 hw) (fun _ q => notFace_of_selects (args := #[]) (mvT q (w113 hw))) (by decide) E (call_of_go (R := _) (len := 3) (W := 0) (plainFor_of_name pn_0) (fun mid => ef_get0 mid a p ) (c_get0 hw a p F2 E hp hs SA) (w114 hw) (w16 hw) (by decide) (by decide)) (lenOf pd_6 rfl) (Nat.le_of_ble_eq_true rfl) rfl (Nat.le_of_ble_eq_true rfl) (Nat.le_of_ble_eq_true rfl) (fun _ q => nomatch q) (fun v h_5 sf_6 hq => ?_)
  obtain ⟨rfl, rfl⟩ := hq
  refine Go.more (sf' := []) ?_ (Nat.le_refl _) (Nat.le_refl _) (fun _ q => List.mem_append_right _ q)
  show G_exact0 md l Z n0 a cnt p eb h0 0 0 [] h0 21 #[.val (.ref a), .val (.int cnt), .val (.int p), .val (.int eb)] [(.int (0 : Int32))]
  refine Go.iloadN 22 d16_21 rfl rfl ?_
  refine Go.icmpN 25 d16_22 rfl (teq h3).2 ?_
  refine Go.iconst 26 (1 : Int32) d16_25 rfl rfl ?_
  refine Go.goto 30 d16_26 (by decide) (by decide) ?_
  exact Go.retN (1 : Int32) d16_30 rfl (t := .boolean) (by simp) rfl (sf' := []) (⟨rfl, rfl⟩) (fun _ q => nomatch q) (Nat.le_of_ble_eq_true rfl) (Nat.le_of_ble_eq_true rfl)
abbrev G_card1 (md : Md) (l : Launch) (Z : State) (n0 : Nat) (a b : Addr) (u0 : Int64) (h0 : Heap) := Go md l Z n0 ({ frames := 1, cells := 0, slots := 0, locals := 14 } : Room) jdk_92_method_35_code 3 (some .int) "java/util/BitSet" "cardinality" (fun v h' _ => h0 = h' ∧ v = some (.int ((0 : Int32) + (bcount u0))))
theorem ef_card1 (mid : MethodId) (a b : Addr) (u0 : Int64)  : entryFrame mid #[(.ref a)] 3 = mkF mid 0 #[.val (.ref a), .unset, .unset] [] := by first | (simp [entryFrame, mkF, argsToLocals, Value.category]; done) | rfl
set_option maxRecDepth 65536 in
set_option maxHeartbeats 40000000 in
theorem c_card1 {md : Md} {l : Launch} {Z : State} {n0 : Nat} {a0 : Array Value} (hw : HW a0 Z) (a b : Addr) (u0 : Int64) {h0 : Heap} (F2 : Fld Z h0 a "java/util/BitSet" "wordsInUse" "I" (.int 1)) (F1 : Fld Z h0 a "java/util/BitSet" "words" "[J" (.ref b)) (A : Ary Z h0 b .long [(.long u0)]) : G_card1 md l Z n0 a b u0 h0 0 0 [] h0 0 #[.val (.ref a), .unset, .unset] [] := by
  refine Go.iconst 1 (0 : Int32) d17_0 rfl rfl ?_
  refine Go.istoreN 2 #[.val (.ref a), .val (.int (0 : Int32)), .unset] d17_1 rfl rfl ?_
  refine Go.iconst 3 (0 : Int32) d17_2 rfl rfl ?_
  refine Go.istoreN 4 #[.val (.ref a), .val (.int (0 : Int32)), .val (.int (0 : Int32))] d17_3 rfl rfl ?_
  refine Go.iloadN 5 d17_4 rfl rfl ?_
  refine Go.aloadN 6 d17_5 rfl rfl rfl ?_
  refine Go.getF 9 d17_6 rfl (w21 hw) Via.refl F2 ?_
  refine Go.icmpN 12 d17_9 rfl (tlt (by decide)).2.1 ?_
  refine Go.iloadN 13 d17_12 rfl rfl ?_
  refine Go.aloadN 14 d17_13 rfl rfl rfl ?_
  refine Go.getF 17 d17_14 rfl (w34 hw) Via.refl F1 ?_
  refine Go.iloadN 18 d17_17 rfl rfl ?_
  refine Go.laload 0 19 d17_18 rfl A (by decide) rfl ?_
  refine Go.callS (S := [(.int (0 : Int32))]) 22 [(.long u0)] d17_19 rfl rfl (w131 hw) (w132 hw) (w133 hw) (w134 hw) (by decide) (call_of_go (R := _) (len := 3) (W := 1) pf_1 (fun mid => ef_bc mid u0 ) (c_bc hw u0 ) (w134 hw) (w133 hw) (by decide) (by decide)) (lenOf pd_7 rfl) (Nat.le_of_ble_eq_true rfl) rfl (Nat.le_of_ble_eq_true rfl) (Nat.le_of_ble_eq_true rfl) (fun _ q => nomatch q) (fun v h_1 sf_2 hq => ?_)
  obtain ⟨rfl, rfl⟩ := hq
  refine Go.more (sf' := []) ?_ (Nat.le_refl _) (Nat.le_refl _) (fun _ q => List.mem_append_right _ q)
  show G_card1 md l Z n0 a b u0 h0 0 0 [] h0 22 #[.val (.ref a), .val (.int (0 : Int32)), .val (.int (0 : Int32))] [(.int (bcount u0)), (.int (0 : Int32))]
  refine Go.iadd 23 d17_22 rfl ?_
  refine Go.istoreN 24 #[.val (.ref a), .val (.int ((0 : Int32) + (bcount u0))), .val (.int (0 : Int32))] d17_23 rfl rfl ?_
  refine Go.iinc 27 #[.val (.ref a), .val (.int ((0 : Int32) + (bcount u0))), .val (.int ((0 : Int32) + (1 : Int32)))] (1 : Int32) d17_24 rfl rfl rfl rfl ?_
  rw [show ((0 : Int32) + (1 : Int32)) = (1 : Int32) from by decide]
  refine Go.goto 4 d17_27 (by decide) (by decide) ?_
  refine Go.iloadN 5 d17_4 rfl rfl ?_
  refine Go.aloadN 6 d17_5 rfl rfl rfl ?_
  refine Go.getF 9 d17_6 rfl (w21 hw) Via.refl F2 ?_
  refine Go.icmpY 30 d17_9 (by decide) (by decide) (flt (by decide)).2.1 ?_
  refine Go.iloadN 31 d17_30 rfl rfl ?_
  exact Go.retI d17_31 rfl (sf' := []) (⟨rfl, rfl⟩) (fun _ q => nomatch q) (Nat.le_of_ble_eq_true rfl) (Nat.le_of_ble_eq_true rfl)
abbrev G_len1 (md : Md) (l : Launch) (Z : State) (n0 : Nat) (a b : Addr) (u0 : Int64) (h0 : Heap) := Go md l Z n0 ({ frames := 2, cells := 0, slots := 0, locals := 30 } : Room) jdk_92_method_32_code 1 (some .int) "java/util/BitSet" "length" (fun v h' _ => h0 = h' ∧ v = some (.int ((0 : Int32) + ((64 : Int32) - (nlzL u0)))))
theorem ef_len1 (mid : MethodId) (a b : Addr) (u0 : Int64)  : entryFrame mid #[(.ref a)] 1 = mkF mid 0 #[.val (.ref a)] [] := by first | (simp [entryFrame, mkF, argsToLocals, Value.category]; done) | rfl
set_option maxRecDepth 65536 in
set_option maxHeartbeats 40000000 in
theorem c_len1 {md : Md} {l : Launch} {Z : State} {n0 : Nat} {a0 : Array Value} (hw : HW a0 Z) (a b : Addr) (u0 : Int64) {h0 : Heap} (F2 : Fld Z h0 a "java/util/BitSet" "wordsInUse" "I" (.int 1)) (F1 : Fld Z h0 a "java/util/BitSet" "words" "[J" (.ref b)) (A : Ary Z h0 b .long [(.long u0)]) : G_len1 md l Z n0 a b u0 h0 0 0 [] h0 0 #[.val (.ref a)] [] := by
  refine Go.aloadN 1 d18_0 rfl rfl rfl ?_
  refine Go.getF 4 d18_1 rfl (w21 hw) Via.refl F2 ?_
  refine Go.ifY 9 d18_4 (by decide) (by decide) (feq (by decide)).2 ?_
  refine Go.bipush 11 (64 : Int32) d18_9 rfl rfl ?_
  refine Go.aloadN 12 d18_11 rfl rfl rfl ?_
  refine Go.getF 15 d18_12 rfl (w21 hw) Via.refl F2 ?_
  refine Go.iconst 16 (1 : Int32) d18_15 rfl rfl ?_
  refine Go.isub 17 d18_16 rfl ?_
  rw [show ((1 : Int32) - (1 : Int32)) = (0 : Int32) from by decide]
  refine Go.imul 18 d18_17 rfl ?_
  rw [show ((64 : Int32) * (0 : Int32)) = (0 : Int32) from by decide]
  refine Go.bipush 20 (64 : Int32) d18_18 rfl rfl ?_
  refine Go.aloadN 21 d18_20 rfl rfl rfl ?_
  refine Go.getF 24 d18_21 rfl (w34 hw) Via.refl F1 ?_
  refine Go.aloadN 25 d18_24 rfl rfl rfl ?_
  refine Go.getF 28 d18_25 rfl (w21 hw) Via.refl F2 ?_
  refine Go.iconst 29 (1 : Int32) d18_28 rfl rfl ?_
  refine Go.isub 30 d18_29 rfl ?_
  rw [show ((1 : Int32) - (1 : Int32)) = (0 : Int32) from by decide]
  refine Go.laload 0 31 d18_30 rfl A (by decide) rfl ?_
  refine Go.callS (S := [(.int (64 : Int32)), (.int (0 : Int32))]) 34 [(.long u0)] d18_31 rfl rfl (w138 hw) (w139 hw) (w133 hw) (w140 hw) (by decide) (call_of_go (R := _) (len := 3) (W := 2) pf_2 (fun mid => ef_nlzl mid u0 ) (c_nlzl hw u0 ) (w140 hw) (w133 hw) (by decide) (by decide)) (lenOf pd_7 rfl) (Nat.le_of_ble_eq_true rfl) rfl (Nat.le_of_ble_eq_true rfl) (Nat.le_of_ble_eq_true rfl) (fun _ q => nomatch q) (fun v h_1 sf_2 hq => ?_)
  obtain ⟨rfl, rfl⟩ := hq
  refine Go.more (sf' := []) ?_ (Nat.le_refl _) (Nat.le_refl _) (fun _ q => List.mem_append_right _ q)
  show G_len1 md l Z n0 a b u0 h0 0 0 [] h0 34 #[.val (.ref a)] [(.int (nlzL u0)), (.int (64 : Int32)), (.int (0 : Int32))]
  refine Go.isub 35 d18_34 rfl ?_
  refine Go.iadd 36 d18_35 rfl ?_
  exact Go.retI d18_36 rfl (sf' := []) (⟨rfl, rfl⟩) (fun _ q => nomatch q) (Nat.le_of_ble_eq_true rfl) (Nat.le_of_ble_eq_true rfl)
abbrev G_get1 (md : Md) (l : Launch) (Z : State) (n0 : Nat) (a b : Addr) (u0 : Int64) (p : Int32) (h0 : Heap) := Go md l Z n0 ({ frames := 1, cells := 0, slots := 0, locals := 12 } : Room) jdk_92_method_26_code 3 (some .boolean) "java/util/BitSet" "get" (fun v h' _ => h0 = h' ∧ v = some (.int (gv1 u0 p)))
theorem ef_get1 (mid : MethodId) (a b : Addr) (u0 : Int64) (p : Int32)  : entryFrame mid #[(.ref a), (.int p)] 3 = mkF mid 0 #[.val (.ref a), .val (.int p), .unset] [] := by first | (simp [entryFrame, mkF, argsToLocals, Value.category]; done) | rfl
set_option maxRecDepth 65536 in
set_option maxHeartbeats 40000000 in
theorem c_get1 {md : Md} {l : Launch} {Z : State} {n0 : Nat} {a0 : Array Value} (hw : HW a0 Z) (a b : Addr) (u0 : Int64) (p : Int32) {h0 : Heap} (F2 : Fld Z h0 a "java/util/BitSet" "wordsInUse" "I" (.int 1)) (F1 : Fld Z h0 a "java/util/BitSet" "words" "[J" (.ref b)) (A : Ary Z h0 b .long [(.long u0)]) (E : Exa Z h0 a "java/util/BitSet") (hp : ¬ p < 0) (hs : ¬ (p >>> ((6 : Int32) &&& 31)) < 0) (SA : Sta Z Z.heap "java/util/BitSet" "$assertionsDisabled" "Z" (.int 1)) : G_get1 md l Z n0 a b u0 p h0 0 0 [] h0 0 #[.val (.ref a), .val (.int p), .unset] [] := by
  refine Go.iloadN 1 d19_0 rfl rfl ?_
  refine Go.ifY 31 d19_1 (by decide) (by decide) (flt hp).2.1 ?_
  refine Go.aloadN 32 d19_31 rfl rfl rfl ?_
  refine Go.callP (S := []) (a := a) 35 [] d19_32 rfl rfl (w52 hw) (w53 hw) (w55 hw) (w54 hw) (w56 hw) (by decide) E (call_of_go (R := _) (len := 3) (W := 0) (plainFor_of_name pn_0) (fun mid => ef_ci mid a ) (c_ci hw a SA) (w56 hw) (w16 hw) (by decide) (by decide)) (lenOf pd_2 rfl) (Nat.le_of_ble_eq_true rfl) rfl (Nat.le_of_ble_eq_true rfl) (Nat.le_of_ble_eq_true rfl) (fun _ q => nomatch q) (fun v h_1 sf_2 hq => ?_)
  obtain ⟨rfl, rfl⟩ := hq
  refine Go.more (sf' := []) ?_ (Nat.le_refl _) (Nat.le_refl _) (fun _ q => List.mem_append_right _ q)
  show G_get1 md l Z n0 a b u0 p h0 0 0 [] h0 35 #[.val (.ref a), .val (.int p), .unset] []
  refine Go.iloadN 36 d19_35 rfl rfl ?_
  refine Go.callS (S := []) 39 [(.int p)] d19_36 rfl rfl (w30 hw) (w31 hw) (w16 hw) (w32 hw) (by decide) (call_of_go (R := _) (len := 3) (W := 0) (plainFor_of_name pn_0) (fun mid => ef_wi mid p ) (c_wi hw p ) (w32 hw) (w16 hw) (by decide) (by decide)) (lenOf pd_0 rfl) (Nat.le_of_ble_eq_true rfl) rfl (Nat.le_of_ble_eq_true rfl) (Nat.le_of_ble_eq_true rfl) (fun _ q => nomatch q) (fun v h_3 sf_4 hq => ?_)
  obtain ⟨rfl, rfl⟩ := hq
  refine Go.more (sf' := []) ?_ (Nat.le_refl _) (Nat.le_refl _) (fun _ q => List.mem_append_right _ q)
  show G_get1 md l Z n0 a b u0 p h0 0 0 [] h0 39 #[.val (.ref a), .val (.int p), .unset] [(.int (p >>> ((6 : Int32) &&& 31)))]
  refine Go.istoreN 40 #[.val (.ref a), .val (.int p), .val (.int (p >>> ((6 : Int32) &&& 31)))] d19_39 rfl rfl ?_
  refine Go.iloadN 41 d19_40 rfl rfl ?_
  refine Go.aloadN 42 d19_41 rfl rfl rfl ?_
  refine Go.getF 45 d19_42 rfl (w21 hw) Via.refl F2 ?_
  by_cases hc45 : (p >>> ((6 : Int32) &&& 31)) < (1 : Int32)
  · skip
    refine Go.icmpN 48 d19_45 rfl (tlt hc45).2.1 ?_
    refine Go.aloadN 49 d19_48 rfl rfl rfl ?_
    refine Go.getF 52 d19_49 rfl (w34 hw) Via.refl F1 ?_
    refine Go.iloadN 53 d19_52 rfl rfl ?_
    refine Go.laload 0 54 d19_53 rfl A (ix0 hs hc45) rfl ?_
    refine Go.lconst 55 (1 : Int64) d19_54 rfl rfl ?_
    refine Go.iloadN 56 d19_55 rfl rfl ?_
    refine Go.lshl 57 d19_56 rfl ?_
    refine Go.land 58 d19_57 rfl ?_
    refine Go.lconst 59 (0 : Int64) d19_58 rfl rfl ?_
    refine Go.lcmp 60 d19_59 rfl ?_
    by_cases hc60 : (lcmpW (u0 &&& ((1 : Int64) <<< (p &&& 0x3f).toInt64)) (0 : Int64)) = (0 : Int32)
    · skip
      refine Go.ifY 67 d19_60 (by decide) (by decide) (teq hc60).1 ?_
      refine Go.iconst 68 (0 : Int32) d19_67 rfl rfl ?_
      exact Go.retN (0 : Int32) d19_68 rfl (t := .boolean) (by simp) rfl (sf' := []) (⟨rfl, by rw [gv1, if_pos hc45, bitv, if_pos hc60]⟩) (fun _ q => nomatch q) (Nat.le_of_ble_eq_true rfl) (Nat.le_of_ble_eq_true rfl)
    · skip
      refine Go.ifN 63 d19_60 rfl (feq hc60).1 ?_
      refine Go.iconst 64 (1 : Int32) d19_63 rfl rfl ?_
      refine Go.goto 68 d19_64 (by decide) (by decide) ?_
      exact Go.retN (1 : Int32) d19_68 rfl (t := .boolean) (by simp) rfl (sf' := []) (⟨rfl, by rw [gv1, if_pos hc45, bitv, if_neg hc60]⟩) (fun _ q => nomatch q) (Nat.le_of_ble_eq_true rfl) (Nat.le_of_ble_eq_true rfl)
  · skip
    refine Go.icmpY 67 d19_45 (by decide) (by decide) (flt hc45).2.1 ?_
    refine Go.iconst 68 (0 : Int32) d19_67 rfl rfl ?_
    exact Go.retN (0 : Int32) d19_68 rfl (t := .boolean) (by simp) rfl (sf' := []) (⟨rfl, by rw [gv1, if_neg hc45]⟩) (fun _ q => nomatch q) (Nat.le_of_ble_eq_true rfl) (Nat.le_of_ble_eq_true rfl)
abbrev G_exact1 (md : Md) (l : Launch) (Z : State) (n0 : Nat) (a b : Addr) (u0 : Int64) (cnt p eb : Int32) (h0 : Heap) := Go md l Z n0 ({ frames := 3, cells := 0, slots := 0, locals := 42 } : Room) method_2_code 4 (some .boolean) "com/example/petrel/petrel/ConstantTablePinLaw" "exact" (fun v h' _ => h0 = h' ∧ v = some (.int 1))
theorem ef_exact1 (mid : MethodId) (a b : Addr) (u0 : Int64) (cnt p eb : Int32)  : entryFrame mid #[(.ref a), (.int cnt), (.int p), (.int eb)] 4 = mkF mid 0 #[.val (.ref a), .val (.int cnt), .val (.int p), .val (.int eb)] [] := by first | (simp [entryFrame, mkF, argsToLocals, Value.category]; done) | rfl
set_option maxRecDepth 65536 in
set_option maxHeartbeats 40000000 in
theorem c_exact1 {md : Md} {l : Launch} {Z : State} {n0 : Nat} {a0 : Array Value} (hw : HW a0 Z) (a b : Addr) (u0 : Int64) (cnt p eb : Int32) {h0 : Heap} (F2 : Fld Z h0 a "java/util/BitSet" "wordsInUse" "I" (.int 1)) (F1 : Fld Z h0 a "java/util/BitSet" "words" "[J" (.ref b)) (A : Ary Z h0 b .long [(.long u0)]) (E : Exa Z h0 a "java/util/BitSet") (hp : ¬ p < 0) (hs : ¬ (p >>> ((6 : Int32) &&& 31)) < 0) (SA : Sta Z Z.heap "java/util/BitSet" "$assertionsDisabled" "Z" (.int 1)) (h1 : ((0 : Int32) + (bcount u0)) = cnt) (h2 : ((0 : Int32) + ((64 : Int32) - (nlzL u0))) = cnt) (h3 : (gv1 u0 p) = eb) : G_exact1 md l Z n0 a b u0 cnt p eb h0 0 0 [] h0 0 #[.val (.ref a), .val (.int cnt), .val (.int p), .val (.int eb)] [] := by
  refine Go.aloadN 1 d16_0 rfl rfl rfl ?_
  refine Go.callV (S := []) (a := a) 4 [] d16_1 rfl rfl (w100 hw) (w101 hw) (w103 hw) (w102 hw) (fun _ q => notFace_of_selects (args := #[]) (mvT q (w103 hw))) (by decide) E (call_of_go (R := _) (len := 3) (W := 0) (plainFor_of_name pn_0) (fun mid => ef_card1 mid a b u0 ) (c_card1 hw a b u0 F2 F1 A) (w104 hw) (w16 hw) (by decide) (by decide)) (lenOf pd_5 rfl) (Nat.le_of_ble_eq_true rfl) rfl (Nat.le_of_ble_eq_true rfl) (Nat.le_of_ble_eq_true rfl) (fun _ q => nomatch q) (fun v h_1 sf_2 hq => ?_)
  obtain ⟨rfl, rfl⟩ := hq
  refine Go.more (sf' := []) ?_ (Nat.le_refl _) (Nat.le_refl _) (fun _ q => List.mem_append_right _ q)
  show G_exact1 md l Z n0 a b u0 cnt p eb h0 0 0 [] h0 4 #[.val (.ref a), .val (.int cnt), .val (.int p), .val (.int eb)] [(.int ((0 : Int32) + (bcount u0)))]
  refine Go.iloadN 5 d16_4 rfl rfl ?_
  refine Go.icmpN 8 d16_5 rfl (teq h1).2 ?_
  refine Go.aloadN 9 d16_8 rfl rfl rfl ?_
  refine Go.callV (S := []) (a := a) 12 [] d16_9 rfl rfl (w105 hw) (w106 hw) (w108 hw) (w107 hw) (fun _ q => notFace_of_selects (args := #[]) (mvT q (w108 hw))) (by decide) E (call_of_go (R := _) (len := 3) (W := 0) (plainFor_of_name pn_0) (fun mid => ef_len1 mid a b u0 ) (c_len1 hw a b u0 F2 F1 A) (w109 hw) (w16 hw) (by decide) (by decide)) (lenOf pd_5 rfl) (Nat.le_of_ble_eq_true rfl) rfl (Nat.le_of_ble_eq_true rfl) (Nat.le_of_ble_eq_true rfl) (fun _ q => nomatch q) (fun v h_3 sf_4 hq => ?_)
  obtain ⟨rfl, rfl⟩ := hq
  refine Go.more (sf' := []) ?_ (Nat.le_refl _) (Nat.le_refl _) (fun _ q => List.mem_append_right _ q)
  show G_exact1 md l Z n0 a b u0 cnt p eb h0 0 0 [] h0 12 #[.val (.ref a), .val (.int cnt), .val (.int p), .val (.int eb)] [(.int ((0 : Int32) + ((64 : Int32) - (nlzL u0))))]
  refine Go.iloadN 13 d16_12 rfl rfl ?_
  refine Go.icmpN 16 d16_13 rfl (teq h2).2 ?_
  refine Go.aloadN 17 d16_16 rfl rfl rfl ?_
  refine Go.iloadN 18 d16_17 rfl rfl ?_
  refine Go.callV (S := []) (a := a) 21 [(.int p)] d16_18 rfl rfl (w110 hw) (w111 hw) (w113 hw) (w112 hw) (fun _ q => notFace_of_selects (args := #[]) (mvT q (w113 hw))) (by decide) E (call_of_go (R := _) (len := 3) (W := 0) (plainFor_of_name pn_0) (fun mid => ef_get1 mid a b u0 p ) (c_get1 hw a b u0 p F2 F1 A E hp hs SA) (w114 hw) (w16 hw) (by decide) (by decide)) (lenOf pd_6 rfl) (Nat.le_of_ble_eq_true rfl) rfl (Nat.le_of_ble_eq_true rfl) (Nat.le_of_ble_eq_true rfl) (fun _ q => nomatch q) (fun v h_5 sf_6 hq => ?_)
  obtain ⟨rfl, rfl⟩ := hq
  refine Go.more (sf' := []) ?_ (Nat.le_refl _) (Nat.le_refl _) (fun _ q => List.mem_append_right _ q)
  show G_exact1 md l Z n0 a b u0 cnt p eb h0 0 0 [] h0 21 #[.val (.ref a), .val (.int cnt), .val (.int p), .val (.int eb)] [(.int (gv1 u0 p))]
  refine Go.iloadN 22 d16_21 rfl rfl ?_
  refine Go.icmpN 25 d16_22 rfl (teq h3).2 ?_
  refine Go.iconst 26 (1 : Int32) d16_25 rfl rfl ?_
  refine Go.goto 30 d16_26 (by decide) (by decide) ?_
  exact Go.retN (1 : Int32) d16_30 rfl (t := .boolean) (by simp) rfl (sf' := []) (⟨rfl, rfl⟩) (fun _ q => nomatch q) (Nat.le_of_ble_eq_true rfl) (Nat.le_of_ble_eq_true rfl)
abbrev G_card2 (md : Md) (l : Launch) (Z : State) (n0 : Nat) (a b : Addr) (u0 u1 : Int64) (h0 : Heap) := Go md l Z n0 ({ frames := 1, cells := 0, slots := 0, locals := 14 } : Room) jdk_92_method_35_code 3 (some .int) "java/util/BitSet" "cardinality" (fun v h' _ => h0 = h' ∧ v = some (.int (((0 : Int32) + (bcount u0)) + (bcount u1))))
theorem ef_card2 (mid : MethodId) (a b : Addr) (u0 u1 : Int64)  : entryFrame mid #[(.ref a)] 3 = mkF mid 0 #[.val (.ref a), .unset, .unset] [] := by first | (simp [entryFrame, mkF, argsToLocals, Value.category]; done) | rfl
set_option maxRecDepth 65536 in
set_option maxHeartbeats 40000000 in
theorem c_card2 {md : Md} {l : Launch} {Z : State} {n0 : Nat} {a0 : Array Value} (hw : HW a0 Z) (a b : Addr) (u0 u1 : Int64) {h0 : Heap} (F2 : Fld Z h0 a "java/util/BitSet" "wordsInUse" "I" (.int 2)) (F1 : Fld Z h0 a "java/util/BitSet" "words" "[J" (.ref b)) (A : Ary Z h0 b .long [(.long u0), (.long u1)]) : G_card2 md l Z n0 a b u0 u1 h0 0 0 [] h0 0 #[.val (.ref a), .unset, .unset] [] := by
  refine Go.iconst 1 (0 : Int32) d17_0 rfl rfl ?_
  refine Go.istoreN 2 #[.val (.ref a), .val (.int (0 : Int32)), .unset] d17_1 rfl rfl ?_
  refine Go.iconst 3 (0 : Int32) d17_2 rfl rfl ?_
  refine Go.istoreN 4 #[.val (.ref a), .val (.int (0 : Int32)), .val (.int (0 : Int32))] d17_3 rfl rfl ?_
  refine Go.iloadN 5 d17_4 rfl rfl ?_
  refine Go.aloadN 6 d17_5 rfl rfl rfl ?_
  refine Go.getF 9 d17_6 rfl (w21 hw) Via.refl F2 ?_
  refine Go.icmpN 12 d17_9 rfl (tlt (by decide)).2.1 ?_
  refine Go.iloadN 13 d17_12 rfl rfl ?_
  refine Go.aloadN 14 d17_13 rfl rfl rfl ?_
  refine Go.getF 17 d17_14 rfl (w34 hw) Via.refl F1 ?_
  refine Go.iloadN 18 d17_17 rfl rfl ?_
  refine Go.laload 0 19 d17_18 rfl A (by decide) rfl ?_
  refine Go.callS (S := [(.int (0 : Int32))]) 22 [(.long u0)] d17_19 rfl rfl (w131 hw) (w132 hw) (w133 hw) (w134 hw) (by decide) (call_of_go (R := _) (len := 3) (W := 1) pf_1 (fun mid => ef_bc mid u0 ) (c_bc hw u0 ) (w134 hw) (w133 hw) (by decide) (by decide)) (lenOf pd_7 rfl) (Nat.le_of_ble_eq_true rfl) rfl (Nat.le_of_ble_eq_true rfl) (Nat.le_of_ble_eq_true rfl) (fun _ q => nomatch q) (fun v h_1 sf_2 hq => ?_)
  obtain ⟨rfl, rfl⟩ := hq
  refine Go.more (sf' := []) ?_ (Nat.le_refl _) (Nat.le_refl _) (fun _ q => List.mem_append_right _ q)
  show G_card2 md l Z n0 a b u0 u1 h0 0 0 [] h0 22 #[.val (.ref a), .val (.int (0 : Int32)), .val (.int (0 : Int32))] [(.int (bcount u0)), (.int (0 : Int32))]
  refine Go.iadd 23 d17_22 rfl ?_
  refine Go.istoreN 24 #[.val (.ref a), .val (.int ((0 : Int32) + (bcount u0))), .val (.int (0 : Int32))] d17_23 rfl rfl ?_
  refine Go.iinc 27 #[.val (.ref a), .val (.int ((0 : Int32) + (bcount u0))), .val (.int ((0 : Int32) + (1 : Int32)))] (1 : Int32) d17_24 rfl rfl rfl rfl ?_
  rw [show ((0 : Int32) + (1 : Int32)) = (1 : Int32) from by decide]
  refine Go.goto 4 d17_27 (by decide) (by decide) ?_
  refine Go.iloadN 5 d17_4 rfl rfl ?_
  refine Go.aloadN 6 d17_5 rfl rfl rfl ?_
  refine Go.getF 9 d17_6 rfl (w21 hw) Via.refl F2 ?_
  refine Go.icmpN 12 d17_9 rfl (tlt (by decide)).2.1 ?_
  refine Go.iloadN 13 d17_12 rfl rfl ?_
  refine Go.aloadN 14 d17_13 rfl rfl rfl ?_
  refine Go.getF 17 d17_14 rfl (w34 hw) Via.refl F1 ?_
  refine Go.iloadN 18 d17_17 rfl rfl ?_
  refine Go.laload 1 19 d17_18 rfl A (by decide) rfl ?_
  refine Go.callS (S := [(.int ((0 : Int32) + (bcount u0)))]) 22 [(.long u1)] d17_19 rfl rfl (w131 hw) (w132 hw) (w133 hw) (w134 hw) (by decide) (call_of_go (R := _) (len := 3) (W := 1) pf_1 (fun mid => ef_bc mid u1 ) (c_bc hw u1 ) (w134 hw) (w133 hw) (by decide) (by decide)) (lenOf pd_7 rfl) (Nat.le_of_ble_eq_true rfl) rfl (Nat.le_of_ble_eq_true rfl) (Nat.le_of_ble_eq_true rfl) (fun _ q => nomatch q) (fun v h_3 sf_4 hq => ?_)
  obtain ⟨rfl, rfl⟩ := hq
  refine Go.more (sf' := []) ?_ (Nat.le_refl _) (Nat.le_refl _) (fun _ q => List.mem_append_right _ q)
  show G_card2 md l Z n0 a b u0 u1 h0 0 0 [] h0 22 #[.val (.ref a), .val (.int ((0 : Int32) + (bcount u0))), .val (.int (1 : Int32))] [(.int (bcount u1)), (.int ((0 : Int32) + (bcount u0)))]
  refine Go.iadd 23 d17_22 rfl ?_
  refine Go.istoreN 24 #[.val (.ref a), .val (.int (((0 : Int32) + (bcount u0)) + (bcount u1))), .val (.int (1 : Int32))] d17_23 rfl rfl ?_
  refine Go.iinc 27 #[.val (.ref a), .val (.int (((0 : Int32) + (bcount u0)) + (bcount u1))), .val (.int ((1 : Int32) + (1 : Int32)))] (1 : Int32) d17_24 rfl rfl rfl rfl ?_
  rw [show ((1 : Int32) + (1 : Int32)) = (2 : Int32) from by decide]
  refine Go.goto 4 d17_27 (by decide) (by decide) ?_
  refine Go.iloadN 5 d17_4 rfl rfl ?_
  refine Go.aloadN 6 d17_5 rfl rfl rfl ?_
  refine Go.getF 9 d17_6 rfl (w21 hw) Via.refl F2 ?_
  refine Go.icmpY 30 d17_9 (by decide) (by decide) (flt (by decide)).2.1 ?_
  refine Go.iloadN 31 d17_30 rfl rfl ?_
  exact Go.retI d17_31 rfl (sf' := []) (⟨rfl, rfl⟩) (fun _ q => nomatch q) (Nat.le_of_ble_eq_true rfl) (Nat.le_of_ble_eq_true rfl)
abbrev G_len2 (md : Md) (l : Launch) (Z : State) (n0 : Nat) (a b : Addr) (u0 u1 : Int64) (h0 : Heap) := Go md l Z n0 ({ frames := 2, cells := 0, slots := 0, locals := 30 } : Room) jdk_92_method_32_code 1 (some .int) "java/util/BitSet" "length" (fun v h' _ => h0 = h' ∧ v = some (.int ((64 : Int32) + ((64 : Int32) - (nlzL u1)))))
theorem ef_len2 (mid : MethodId) (a b : Addr) (u0 u1 : Int64)  : entryFrame mid #[(.ref a)] 1 = mkF mid 0 #[.val (.ref a)] [] := by first | (simp [entryFrame, mkF, argsToLocals, Value.category]; done) | rfl
set_option maxRecDepth 65536 in
set_option maxHeartbeats 40000000 in
theorem c_len2 {md : Md} {l : Launch} {Z : State} {n0 : Nat} {a0 : Array Value} (hw : HW a0 Z) (a b : Addr) (u0 u1 : Int64) {h0 : Heap} (F2 : Fld Z h0 a "java/util/BitSet" "wordsInUse" "I" (.int 2)) (F1 : Fld Z h0 a "java/util/BitSet" "words" "[J" (.ref b)) (A : Ary Z h0 b .long [(.long u0), (.long u1)]) : G_len2 md l Z n0 a b u0 u1 h0 0 0 [] h0 0 #[.val (.ref a)] [] := by
  refine Go.aloadN 1 d18_0 rfl rfl rfl ?_
  refine Go.getF 4 d18_1 rfl (w21 hw) Via.refl F2 ?_
  refine Go.ifY 9 d18_4 (by decide) (by decide) (feq (by decide)).2 ?_
  refine Go.bipush 11 (64 : Int32) d18_9 rfl rfl ?_
  refine Go.aloadN 12 d18_11 rfl rfl rfl ?_
  refine Go.getF 15 d18_12 rfl (w21 hw) Via.refl F2 ?_
  refine Go.iconst 16 (1 : Int32) d18_15 rfl rfl ?_
  refine Go.isub 17 d18_16 rfl ?_
  rw [show ((2 : Int32) - (1 : Int32)) = (1 : Int32) from by decide]
  refine Go.imul 18 d18_17 rfl ?_
  rw [show ((64 : Int32) * (1 : Int32)) = (64 : Int32) from by decide]
  refine Go.bipush 20 (64 : Int32) d18_18 rfl rfl ?_
  refine Go.aloadN 21 d18_20 rfl rfl rfl ?_
  refine Go.getF 24 d18_21 rfl (w34 hw) Via.refl F1 ?_
  refine Go.aloadN 25 d18_24 rfl rfl rfl ?_
  refine Go.getF 28 d18_25 rfl (w21 hw) Via.refl F2 ?_
  refine Go.iconst 29 (1 : Int32) d18_28 rfl rfl ?_
  refine Go.isub 30 d18_29 rfl ?_
  rw [show ((2 : Int32) - (1 : Int32)) = (1 : Int32) from by decide]
  refine Go.laload 1 31 d18_30 rfl A (by decide) rfl ?_
  refine Go.callS (S := [(.int (64 : Int32)), (.int (64 : Int32))]) 34 [(.long u1)] d18_31 rfl rfl (w138 hw) (w139 hw) (w133 hw) (w140 hw) (by decide) (call_of_go (R := _) (len := 3) (W := 2) pf_2 (fun mid => ef_nlzl mid u1 ) (c_nlzl hw u1 ) (w140 hw) (w133 hw) (by decide) (by decide)) (lenOf pd_7 rfl) (Nat.le_of_ble_eq_true rfl) rfl (Nat.le_of_ble_eq_true rfl) (Nat.le_of_ble_eq_true rfl) (fun _ q => nomatch q) (fun v h_1 sf_2 hq => ?_)
  obtain ⟨rfl, rfl⟩ := hq
  refine Go.more (sf' := []) ?_ (Nat.le_refl _) (Nat.le_refl _) (fun _ q => List.mem_append_right _ q)
  show G_len2 md l Z n0 a b u0 u1 h0 0 0 [] h0 34 #[.val (.ref a)] [(.int (nlzL u1)), (.int (64 : Int32)), (.int (64 : Int32))]
  refine Go.isub 35 d18_34 rfl ?_
  refine Go.iadd 36 d18_35 rfl ?_
  exact Go.retI d18_36 rfl (sf' := []) (⟨rfl, rfl⟩) (fun _ q => nomatch q) (Nat.le_of_ble_eq_true rfl) (Nat.le_of_ble_eq_true rfl)
abbrev G_get2 (md : Md) (l : Launch) (Z : State) (n0 : Nat) (a b : Addr) (u0 u1 : Int64) (p : Int32) (h0 : Heap) := Go md l Z n0 ({ frames := 1, cells := 0, slots := 0, locals := 12 } : Room) jdk_92_method_26_code 3 (some .boolean) "java/util/BitSet" "get" (fun v h' _ => h0 = h' ∧ v = some (.int (gv2 u0 u1 p)))
theorem ef_get2 (mid : MethodId) (a b : Addr) (u0 u1 : Int64) (p : Int32)  : entryFrame mid #[(.ref a), (.int p)] 3 = mkF mid 0 #[.val (.ref a), .val (.int p), .unset] [] := by first | (simp [entryFrame, mkF, argsToLocals, Value.category]; done) | rfl
set_option maxRecDepth 65536 in
set_option maxHeartbeats 40000000 in
theorem c_get2 {md : Md} {l : Launch} {Z : State} {n0 : Nat} {a0 : Array Value} (hw : HW a0 Z) (a b : Addr) (u0 u1 : Int64) (p : Int32) {h0 : Heap} (F2 : Fld Z h0 a "java/util/BitSet" "wordsInUse" "I" (.int 2)) (F1 : Fld Z h0 a "java/util/BitSet" "words" "[J" (.ref b)) (A : Ary Z h0 b .long [(.long u0), (.long u1)]) (E : Exa Z h0 a "java/util/BitSet") (hp : ¬ p < 0) (hs : ¬ (p >>> ((6 : Int32) &&& 31)) < 0) (SA : Sta Z Z.heap "java/util/BitSet" "$assertionsDisabled" "Z" (.int 1)) : G_get2 md l Z n0 a b u0 u1 p h0 0 0 [] h0 0 #[.val (.ref a), .val (.int p), .unset] [] := by
  refine Go.iloadN 1 d19_0 rfl rfl ?_
  refine Go.ifY 31 d19_1 (by decide) (by decide) (flt hp).2.1 ?_
  refine Go.aloadN 32 d19_31 rfl rfl rfl ?_
  refine Go.callP (S := []) (a := a) 35 [] d19_32 rfl rfl (w52 hw) (w53 hw) (w55 hw) (w54 hw) (w56 hw) (by decide) E (call_of_go (R := _) (len := 3) (W := 0) (plainFor_of_name pn_0) (fun mid => ef_ci mid a ) (c_ci hw a SA) (w56 hw) (w16 hw) (by decide) (by decide)) (lenOf pd_2 rfl) (Nat.le_of_ble_eq_true rfl) rfl (Nat.le_of_ble_eq_true rfl) (Nat.le_of_ble_eq_true rfl) (fun _ q => nomatch q) (fun v h_1 sf_2 hq => ?_)
  obtain ⟨rfl, rfl⟩ := hq
  refine Go.more (sf' := []) ?_ (Nat.le_refl _) (Nat.le_refl _) (fun _ q => List.mem_append_right _ q)
  show G_get2 md l Z n0 a b u0 u1 p h0 0 0 [] h0 35 #[.val (.ref a), .val (.int p), .unset] []
  refine Go.iloadN 36 d19_35 rfl rfl ?_
  refine Go.callS (S := []) 39 [(.int p)] d19_36 rfl rfl (w30 hw) (w31 hw) (w16 hw) (w32 hw) (by decide) (call_of_go (R := _) (len := 3) (W := 0) (plainFor_of_name pn_0) (fun mid => ef_wi mid p ) (c_wi hw p ) (w32 hw) (w16 hw) (by decide) (by decide)) (lenOf pd_0 rfl) (Nat.le_of_ble_eq_true rfl) rfl (Nat.le_of_ble_eq_true rfl) (Nat.le_of_ble_eq_true rfl) (fun _ q => nomatch q) (fun v h_3 sf_4 hq => ?_)
  obtain ⟨rfl, rfl⟩ := hq
  refine Go.more (sf' := []) ?_ (Nat.le_refl _) (Nat.le_refl _) (fun _ q => List.mem_append_right _ q)
  show G_get2 md l Z n0 a b u0 u1 p h0 0 0 [] h0 39 #[.val (.ref a), .val (.int p), .unset] [(.int (p >>> ((6 : Int32) &&& 31)))]
  refine Go.istoreN 40 #[.val (.ref a), .val (.int p), .val (.int (p >>> ((6 : Int32) &&& 31)))] d19_39 rfl rfl ?_
  refine Go.iloadN 41 d19_40 rfl rfl ?_
  refine Go.aloadN 42 d19_41 rfl rfl rfl ?_
  refine Go.getF 45 d19_42 rfl (w21 hw) Via.refl F2 ?_
  by_cases hc45 : (p >>> ((6 : Int32) &&& 31)) < (2 : Int32)
  · skip
    refine Go.icmpN 48 d19_45 rfl (tlt hc45).2.1 ?_
    refine Go.aloadN 49 d19_48 rfl rfl rfl ?_
    refine Go.getF 52 d19_49 rfl (w34 hw) Via.refl F1 ?_
    refine Go.iloadN 53 d19_52 rfl rfl ?_
    by_cases hw1 : (p >>> ((6 : Int32) &&& 31)) < (1 : Int32)
    · skip
      refine Go.laload 0 54 d19_53 rfl A (ix0 hs hw1) rfl ?_
      refine Go.lconst 55 (1 : Int64) d19_54 rfl rfl ?_
      refine Go.iloadN 56 d19_55 rfl rfl ?_
      refine Go.lshl 57 d19_56 rfl ?_
      refine Go.land 58 d19_57 rfl ?_
      refine Go.lconst 59 (0 : Int64) d19_58 rfl rfl ?_
      refine Go.lcmp 60 d19_59 rfl ?_
      by_cases hc60 : (lcmpW (u0 &&& ((1 : Int64) <<< (p &&& 0x3f).toInt64)) (0 : Int64)) = (0 : Int32)
      · skip
        refine Go.ifY 67 d19_60 (by decide) (by decide) (teq hc60).1 ?_
        refine Go.iconst 68 (0 : Int32) d19_67 rfl rfl ?_
        exact Go.retN (0 : Int32) d19_68 rfl (t := .boolean) (by simp) rfl (sf' := []) (⟨rfl, by rw [gv2, if_pos hc45, if_pos hw1, bitv, if_pos hc60]⟩) (fun _ q => nomatch q) (Nat.le_of_ble_eq_true rfl) (Nat.le_of_ble_eq_true rfl)
      · skip
        refine Go.ifN 63 d19_60 rfl (feq hc60).1 ?_
        refine Go.iconst 64 (1 : Int32) d19_63 rfl rfl ?_
        refine Go.goto 68 d19_64 (by decide) (by decide) ?_
        exact Go.retN (1 : Int32) d19_68 rfl (t := .boolean) (by simp) rfl (sf' := []) (⟨rfl, by rw [gv2, if_pos hc45, if_pos hw1, bitv, if_neg hc60]⟩) (fun _ q => nomatch q) (Nat.le_of_ble_eq_true rfl) (Nat.le_of_ble_eq_true rfl)
    · skip
      refine Go.laload 1 54 d19_53 rfl A (ix1 hw1 hc45) rfl ?_
      refine Go.lconst 55 (1 : Int64) d19_54 rfl rfl ?_
      refine Go.iloadN 56 d19_55 rfl rfl ?_
      refine Go.lshl 57 d19_56 rfl ?_
      refine Go.land 58 d19_57 rfl ?_
      refine Go.lconst 59 (0 : Int64) d19_58 rfl rfl ?_
      refine Go.lcmp 60 d19_59 rfl ?_
      by_cases hc60 : (lcmpW (u1 &&& ((1 : Int64) <<< (p &&& 0x3f).toInt64)) (0 : Int64)) = (0 : Int32)
      · skip
        refine Go.ifY 67 d19_60 (by decide) (by decide) (teq hc60).1 ?_
        refine Go.iconst 68 (0 : Int32) d19_67 rfl rfl ?_
        exact Go.retN (0 : Int32) d19_68 rfl (t := .boolean) (by simp) rfl (sf' := []) (⟨rfl, by rw [gv2, if_pos hc45, if_neg hw1, bitv, if_pos hc60]⟩) (fun _ q => nomatch q) (Nat.le_of_ble_eq_true rfl) (Nat.le_of_ble_eq_true rfl)
      · skip
        refine Go.ifN 63 d19_60 rfl (feq hc60).1 ?_
        refine Go.iconst 64 (1 : Int32) d19_63 rfl rfl ?_
        refine Go.goto 68 d19_64 (by decide) (by decide) ?_
        exact Go.retN (1 : Int32) d19_68 rfl (t := .boolean) (by simp) rfl (sf' := []) (⟨rfl, by rw [gv2, if_pos hc45, if_neg hw1, bitv, if_neg hc60]⟩) (fun _ q => nomatch q) (Nat.le_of_ble_eq_true rfl) (Nat.le_of_ble_eq_true rfl)
  · skip
    refine Go.icmpY 67 d19_45 (by decide) (by decide) (flt hc45).2.1 ?_
    refine Go.iconst 68 (0 : Int32) d19_67 rfl rfl ?_
    exact Go.retN (0 : Int32) d19_68 rfl (t := .boolean) (by simp) rfl (sf' := []) (⟨rfl, by rw [gv2, if_neg hc45]⟩) (fun _ q => nomatch q) (Nat.le_of_ble_eq_true rfl) (Nat.le_of_ble_eq_true rfl)
abbrev G_exact2 (md : Md) (l : Launch) (Z : State) (n0 : Nat) (a b : Addr) (u0 u1 : Int64) (cnt p eb : Int32) (h0 : Heap) := Go md l Z n0 ({ frames := 3, cells := 0, slots := 0, locals := 42 } : Room) method_2_code 4 (some .boolean) "com/example/petrel/petrel/ConstantTablePinLaw" "exact" (fun v h' _ => h0 = h' ∧ v = some (.int 1))
theorem ef_exact2 (mid : MethodId) (a b : Addr) (u0 u1 : Int64) (cnt p eb : Int32)  : entryFrame mid #[(.ref a), (.int cnt), (.int p), (.int eb)] 4 = mkF mid 0 #[.val (.ref a), .val (.int cnt), .val (.int p), .val (.int eb)] [] := by first | (simp [entryFrame, mkF, argsToLocals, Value.category]; done) | rfl
set_option maxRecDepth 65536 in
set_option maxHeartbeats 40000000 in
theorem c_exact2 {md : Md} {l : Launch} {Z : State} {n0 : Nat} {a0 : Array Value} (hw : HW a0 Z) (a b : Addr) (u0 u1 : Int64) (cnt p eb : Int32) {h0 : Heap} (F2 : Fld Z h0 a "java/util/BitSet" "wordsInUse" "I" (.int 2)) (F1 : Fld Z h0 a "java/util/BitSet" "words" "[J" (.ref b)) (A : Ary Z h0 b .long [(.long u0), (.long u1)]) (E : Exa Z h0 a "java/util/BitSet") (hp : ¬ p < 0) (hs : ¬ (p >>> ((6 : Int32) &&& 31)) < 0) (SA : Sta Z Z.heap "java/util/BitSet" "$assertionsDisabled" "Z" (.int 1)) (h1 : (((0 : Int32) + (bcount u0)) + (bcount u1)) = cnt) (h2 : ((64 : Int32) + ((64 : Int32) - (nlzL u1))) = cnt) (h3 : (gv2 u0 u1 p) = eb) : G_exact2 md l Z n0 a b u0 u1 cnt p eb h0 0 0 [] h0 0 #[.val (.ref a), .val (.int cnt), .val (.int p), .val (.int eb)] [] := by
  refine Go.aloadN 1 d16_0 rfl rfl rfl ?_
  refine Go.callV (S := []) (a := a) 4 [] d16_1 rfl rfl (w100 hw) (w101 hw) (w103 hw) (w102 hw) (fun _ q => notFace_of_selects (args := #[]) (mvT q (w103 hw))) (by decide) E (call_of_go (R := _) (len := 3) (W := 0) (plainFor_of_name pn_0) (fun mid => ef_card2 mid a b u0 u1 ) (c_card2 hw a b u0 u1 F2 F1 A) (w104 hw) (w16 hw) (by decide) (by decide)) (lenOf pd_5 rfl) (Nat.le_of_ble_eq_true rfl) rfl (Nat.le_of_ble_eq_true rfl) (Nat.le_of_ble_eq_true rfl) (fun _ q => nomatch q) (fun v h_1 sf_2 hq => ?_)
  obtain ⟨rfl, rfl⟩ := hq
  refine Go.more (sf' := []) ?_ (Nat.le_refl _) (Nat.le_refl _) (fun _ q => List.mem_append_right _ q)
  show G_exact2 md l Z n0 a b u0 u1 cnt p eb h0 0 0 [] h0 4 #[.val (.ref a), .val (.int cnt), .val (.int p), .val (.int eb)] [(.int (((0 : Int32) + (bcount u0)) + (bcount u1)))]
  refine Go.iloadN 5 d16_4 rfl rfl ?_
  refine Go.icmpN 8 d16_5 rfl (teq h1).2 ?_
  refine Go.aloadN 9 d16_8 rfl rfl rfl ?_
  refine Go.callV (S := []) (a := a) 12 [] d16_9 rfl rfl (w105 hw) (w106 hw) (w108 hw) (w107 hw) (fun _ q => notFace_of_selects (args := #[]) (mvT q (w108 hw))) (by decide) E (call_of_go (R := _) (len := 3) (W := 0) (plainFor_of_name pn_0) (fun mid => ef_len2 mid a b u0 u1 ) (c_len2 hw a b u0 u1 F2 F1 A) (w109 hw) (w16 hw) (by decide) (by decide)) (lenOf pd_5 rfl) (Nat.le_of_ble_eq_true rfl) rfl (Nat.le_of_ble_eq_true rfl) (Nat.le_of_ble_eq_true rfl) (fun _ q => nomatch q) (fun v h_3 sf_4 hq => ?_)
  obtain ⟨rfl, rfl⟩ := hq
  refine Go.more (sf' := []) ?_ (Nat.le_refl _) (Nat.le_refl _) (fun _ q => List.mem_append_right _ q)
  show G_exact2 md l Z n0 a b u0 u1 cnt p eb h0 0 0 [] h0 12 #[.val (.ref a), .val (.int cnt), .val (.int p), .val (.int eb)] [(.int ((64 : Int32) + ((64 : Int32) - (nlzL u1))))]
  refine Go.iloadN 13 d16_12 rfl rfl ?_
  refine Go.icmpN 16 d16_13 rfl (teq h2).2 ?_
  refine Go.aloadN 17 d16_16 rfl rfl rfl ?_
  refine Go.iloadN 18 d16_17 rfl rfl ?_
  refine Go.callV (S := []) (a := a) 21 [(.int p)] d16_18 rfl rfl (w110 hw) (w111 hw) (w113 hw) (w112 hw) (fun _ q => notFace_of_selects (args := #[]) (mvT q (w113 hw))) (by decide) E (call_of_go (R := _) (len := 3) (W := 0) (plainFor_of_name pn_0) (fun mid => ef_get2 mid a b u0 u1 p ) (c_get2 hw a b u0 u1 p F2 F1 A E hp hs SA) (w114 hw) (w16 hw) (by decide) (by decide)) (lenOf pd_6 rfl) (Nat.le_of_ble_eq_true rfl) rfl (Nat.le_of_ble_eq_true rfl) (Nat.le_of_ble_eq_true rfl) (fun _ q => nomatch q) (fun v h_5 sf_6 hq => ?_)
  obtain ⟨rfl, rfl⟩ := hq
  refine Go.more (sf' := []) ?_ (Nat.le_refl _) (Nat.le_refl _) (fun _ q => List.mem_append_right _ q)
  show G_exact2 md l Z n0 a b u0 u1 cnt p eb h0 0 0 [] h0 21 #[.val (.ref a), .val (.int cnt), .val (.int p), .val (.int eb)] [(.int (gv2 u0 u1 p))]
  refine Go.iloadN 22 d16_21 rfl rfl ?_
  refine Go.icmpN 25 d16_22 rfl (teq h3).2 ?_
  refine Go.iconst 26 (1 : Int32) d16_25 rfl rfl ?_
  refine Go.goto 30 d16_26 (by decide) (by decide) ?_
  exact Go.retN (1 : Int32) d16_30 rfl (t := .boolean) (by simp) rfl (sf' := []) (⟨rfl, rfl⟩) (fun _ q => nomatch q) (Nat.le_of_ble_eq_true rfl) (Nat.le_of_ble_eq_true rfl)
abbrev G_min (md : Md) (l : Launch) (Z : State) (n0 : Nat) (x y : Int32) (h0 : Heap) := Go md l Z n0 ({ frames := 0, cells := 0, slots := 0, locals := 0 } : Room) jdk_29_method_69_code 2 (some .int) "java/lang/Math" "min" (fun v h' _ => h0 = h' ∧ v = some (.int (if y < x then y else x)))
theorem ef_min (mid : MethodId) (x y : Int32)  : entryFrame mid #[(.int x), (.int y)] 2 = mkF mid 0 #[.val (.int x), .val (.int y)] [] := by first | (simp [entryFrame, mkF, argsToLocals, Value.category]; done) | rfl
set_option maxRecDepth 65536 in
set_option maxHeartbeats 40000000 in
theorem c_min {md : Md} {l : Launch} {Z : State} {n0 : Nat} {a0 : Array Value} (hw : HW a0 Z) (x y : Int32) {h0 : Heap}  : G_min md l Z n0 x y h0 0 0 [] h0 0 #[.val (.int x), .val (.int y)] [] := by
  refine Go.iloadN 1 d28_0 rfl rfl ?_
  refine Go.iloadN 2 d28_1 rfl rfl ?_
  by_cases hc2 : y < x
  · skip
    refine Go.icmpY 9 d28_2 (by decide) (by decide) (tlt hc2).2.2.1 ?_
    refine Go.iloadN 10 d28_9 rfl rfl ?_
    exact Go.retI d28_10 rfl (sf' := []) (⟨rfl, by rw [if_pos hc2]⟩) (fun _ q => nomatch q) (Nat.le_of_ble_eq_true rfl) (Nat.le_of_ble_eq_true rfl)
  · skip
    refine Go.icmpN 5 d28_2 rfl (flt hc2).2.2.1 ?_
    refine Go.iloadN 6 d28_5 rfl rfl ?_
    refine Go.goto 10 d28_6 (by decide) (by decide) ?_
    exact Go.retI d28_10 rfl (sf' := []) (⟨rfl, by rw [if_neg hc2]⟩) (fun _ q => nomatch q) (Nat.le_of_ble_eq_true rfl) (Nat.le_of_ble_eq_true rfl)
abbrev G_max (md : Md) (l : Launch) (Z : State) (n0 : Nat) (x y : Int32) (h0 : Heap) := Go md l Z n0 ({ frames := 0, cells := 0, slots := 0, locals := 0 } : Room) jdk_29_method_65_code 2 (some .int) "java/lang/Math" "max" (fun v h' _ => h0 = h' ∧ v = some (.int (if x < y then y else x)))
theorem ef_max (mid : MethodId) (x y : Int32)  : entryFrame mid #[(.int x), (.int y)] 2 = mkF mid 0 #[.val (.int x), .val (.int y)] [] := by first | (simp [entryFrame, mkF, argsToLocals, Value.category]; done) | rfl
set_option maxRecDepth 65536 in
set_option maxHeartbeats 40000000 in
theorem c_max {md : Md} {l : Launch} {Z : State} {n0 : Nat} {a0 : Array Value} (hw : HW a0 Z) (x y : Int32) {h0 : Heap}  : G_max md l Z n0 x y h0 0 0 [] h0 0 #[.val (.int x), .val (.int y)] [] := by
  refine Go.iloadN 1 d26_0 rfl rfl ?_
  refine Go.iloadN 2 d26_1 rfl rfl ?_
  by_cases hc2 : x < y
  · skip
    refine Go.icmpY 9 d26_2 (by decide) (by decide) (tlt hc2).1 ?_
    refine Go.iloadN 10 d26_9 rfl rfl ?_
    exact Go.retI d26_10 rfl (sf' := []) (⟨rfl, by rw [if_pos hc2]⟩) (fun _ q => nomatch q) (Nat.le_of_ble_eq_true rfl) (Nat.le_of_ble_eq_true rfl)
  · skip
    refine Go.icmpN 5 d26_2 rfl (flt hc2).1 ?_
    refine Go.iloadN 6 d26_5 rfl rfl ?_
    refine Go.goto 10 d26_6 (by decide) (by decide) ?_
    exact Go.retI d26_10 rfl (sf' := []) (⟨rfl, by rw [if_neg hc2]⟩) (fun _ q => nomatch q) (Nat.le_of_ble_eq_true rfl) (Nat.le_of_ble_eq_true rfl)
abbrev G_copyof1 (md : Md) (l : Launch) (Z : State) (n0 : Nat) (b : Addr) (u0 : Int64) (h0 : Heap) := Go md l Z n0 ({ frames := 1, cells := 1, slots := 2, locals := 18 } : Room) jdk_65_method_124_code 3 (some (.array .long)) "java/util/Arrays" "copyOf" (fun v h' _ => ∃ x, v = some (.ref x) ∧ Ext h0 h' ∧ h0.size ≤ x ∧ n0 ≤ x ∧ Ary Z h' x .long [(.long u0), (.long (0 : Int64))])
theorem ef_copyof1 (mid : MethodId) (b : Addr) (u0 : Int64)  : entryFrame mid #[(.ref b), (.int (2 : Int32))] 3 = mkF mid 0 #[.val (.ref b), .val (.int (2 : Int32)), .unset] [] := by first | (simp [entryFrame, mkF, argsToLocals, Value.category]; done) | rfl
set_option maxRecDepth 65536 in
set_option maxHeartbeats 40000000 in
theorem c_copyof1 {l : Launch} {Z : State} {n0 : Nat} {a0 : Array Value} (hw : HW a0 Z) (b : Addr) (u0 : Int64) {h0 : Heap} (A : Ary Z h0 b .long [(.long u0)]) : G_copyof1 none l Z n0 b u0 h0 0 0 [] h0 0 #[.val (.ref b), .val (.int (2 : Int32)), .unset] [] := by
  refine Go.iloadN 1 d27_0 rfl rfl ?_
  refine Go.aloadN 2 d27_1 rfl rfl rfl ?_
  refine Go.alen 3 (1 : Int32) d27_2 rfl A rfl ?_
  refine Go.icmpY 14 d27_3 (by decide) (by decide) (feq (by decide)).2 ?_
  refine Go.iloadN 15 d27_14 rfl rfl ?_
  refine Go.newA 2 17 d27_15 rfl rfl (w33 hw) (by decide) 2 (Nat.le_refl _) (by decide) (Nat.le_of_ble_eq_true rfl) (Nat.le_of_ble_eq_true rfl) (fun h_1 x_2 g_3 q_4 E_5 lt_6 A_7 => ?_)
  have A_8 : Ary Z h_1 x_2 .long [(.long (0 : Int64)), (.long (0 : Int64))] := A_7
  show G_copyof1 none l Z n0 b u0 h0 1 2 [x_2] h_1 17 #[.val (.ref b), .val (.int (2 : Int32)), .unset] [(.ref x_2)]
  refine Go.astoreN 18 #[.val (.ref b), .val (.int (2 : Int32)), .val (.ref x_2)] d27_17 rfl rfl rfl ?_
  refine Go.aloadN 19 d27_18 rfl rfl rfl ?_
  refine Go.iconst 20 (0 : Int32) d27_19 rfl rfl ?_
  refine Go.aloadN 21 d27_20 rfl rfl rfl ?_
  refine Go.iconst 22 (0 : Int32) d27_21 rfl rfl ?_
  refine Go.aloadN 23 d27_22 rfl rfl rfl ?_
  have f_9 := A.ext E_5
  refine Go.alen 24 (1 : Int32) d27_23 rfl f_9 rfl ?_
  refine Go.iloadN 25 d27_24 rfl rfl ?_
  refine Go.callS (S := [(.int (0 : Int32)), (.ref x_2), (.int (0 : Int32)), (.ref b)]) 28 [(.int (1 : Int32)), (.int (2 : Int32))] d27_25 rfl rfl (w154 hw) (w155 hw) (w148 hw) (w156 hw) (by decide) (call_of_go (R := _) (len := 3) (W := 4) pf_3 (fun mid => ef_min mid (1 : Int32) (2 : Int32) ) (c_min hw (1 : Int32) (2 : Int32) ) (w156 hw) (w148 hw) (by decide) (by decide)) (lenOf pd_8 rfl) (Nat.le_of_ble_eq_true rfl) rfl (Nat.le_of_ble_eq_true rfl) (Nat.le_of_ble_eq_true rfl) (fun _ q => nomatch q) (fun v h_10 sf_11 hq => ?_)
  obtain ⟨rfl, rfl⟩ := hq
  refine Go.more (sf' := [x_2]) ?_ (Nat.le_refl _) (Nat.le_refl _) (fun _ q => List.mem_append_right _ q)
  show G_copyof1 none l Z n0 b u0 h0 1 2 [x_2] h_1 28 #[.val (.ref b), .val (.int (2 : Int32)), .val (.ref x_2)] [(.int (if (2 : Int32) < (1 : Int32) then (2 : Int32) else (1 : Int32))), (.int (0 : Int32)), (.ref x_2), (.int (0 : Int32)), (.ref b)]
  rw [show (if (2 : Int32) < (1 : Int32) then (2 : Int32) else (1 : Int32)) = (1 : Int32) from by decide]
  show G_copyof1 none l Z n0 b u0 h0 1 2 [x_2] h_1 28 #[.val (.ref b), .val (.int (2 : Int32)), .val (.ref x_2)] [(.int (1 : Int32)), (.int (0 : Int32)), (.ref x_2), (.int (0 : Int32)), (.ref b)]
  refine Go.acopy (W := 0) 0 0 1 31 d27_28 rfl (w157 hw) (w160 hw) (w158 hw) (w159 hw) f_9 A_8 rfl (by decide) (by decide) (by decide) (Nat.le_of_ble_eq_true rfl) (Nat.le_of_ble_eq_true rfl) (List.mem_of_getElem? (i := 0) rfl) q_4 rfl (by decide) (Nat.le_of_ble_eq_true rfl) (by decide) (fun h_12 K_13 B_14 => ?_)
  have B_15 : Ary Z h_12 x_2 .long [(.long u0), (.long (0 : Int64))] := B_14
  show G_copyof1 none l Z n0 b u0 h0 1 2 [x_2] h_12 31 #[.val (.ref b), .val (.int (2 : Int32)), .val (.ref x_2)] []
  refine Go.aloadN 32 d27_31 rfl rfl rfl ?_
  have X_16 : Ext h0 h_12 := extK E_5 K_13 (allS (Nat.le_of_eq g_3) all0)
  exact Go.retA d27_32 rfl rfl rfl (sf' := []) (⟨_, rfl, X_16, (Nat.le_of_eq g_3), q_4, B_15⟩) (fun _ q => nomatch q) (Nat.le_of_ble_eq_true rfl) (Nat.le_of_ble_eq_true rfl)
abbrev G_ensg1 (md : Md) (l : Launch) (Z : State) (n0 : Nat) (a b : Addr) (k : Int32) (u0 : Int64) (h0 : Heap) := Go md l Z n0 ({ frames := 2, cells := 1, slots := 2, locals := 33 } : Room) jdk_92_method_14_code 3 none "java/util/BitSet" "ensureCapacity" (fun v h' _ => v = none ∧ Keep h0 h' [a] ∧ Exa Z h' a "java/util/BitSet" ∧ Fld Z h' a "java/util/BitSet" "wordsInUse" "I" (.int k) ∧ ∃ b2, h0.size ≤ b2 ∧ n0 ≤ b2 ∧ b2 ≠ a ∧ Fld Z h' a "java/util/BitSet" "words" "[J" (.ref b2) ∧ Ary Z h' b2 .long [(.long u0), (.long (0 : Int64))])
theorem ef_ensg1 (mid : MethodId) (a b : Addr) (k : Int32) (u0 : Int64)  : entryFrame mid #[(.ref a), (.int (2 : Int32))] 3 = mkF mid 0 #[.val (.ref a), .val (.int (2 : Int32)), .unset] [] := by first | (simp [entryFrame, mkF, argsToLocals, Value.category]; done) | rfl
set_option maxRecDepth 65536 in
set_option maxHeartbeats 40000000 in
theorem c_ensg1 {l : Launch} {Z : State} {n0 : Nat} {a0 : Array Value} (hw : HW a0 Z) (a b : Addr) (k : Int32) (u0 : Int64) {h0 : Heap} (E : Exa Z h0 a "java/util/BitSet") (n0a : n0 ≤ a) (nba : b ≠ a) (F1 : Fld Z h0 a "java/util/BitSet" "words" "[J" (.ref b)) (F2 : Fld Z h0 a "java/util/BitSet" "wordsInUse" "I" (.int k)) (A : Ary Z h0 b .long [(.long u0)]) : G_ensg1 none l Z n0 a b k u0 h0 0 0 [a] h0 0 #[.val (.ref a), .val (.int (2 : Int32)), .unset] [] := by
  refine Go.aloadN 1 d8_0 rfl rfl rfl ?_
  refine Go.getF 4 d8_1 rfl (w34 hw) Via.refl F1 ?_
  refine Go.alen 5 (1 : Int32) d8_4 rfl A rfl ?_
  refine Go.iloadN 6 d8_5 rfl rfl ?_
  refine Go.icmpN 9 d8_6 rfl (tlt (by decide)).2.1 ?_
  refine Go.iconst 10 (2 : Int32) d8_9 rfl rfl ?_
  refine Go.aloadN 11 d8_10 rfl rfl rfl ?_
  refine Go.getF 14 d8_11 rfl (w34 hw) Via.refl F1 ?_
  refine Go.alen 15 (1 : Int32) d8_14 rfl A rfl ?_
  refine Go.imul 16 d8_15 rfl ?_
  rw [show ((2 : Int32) * (1 : Int32)) = (2 : Int32) from by decide]
  refine Go.iloadN 17 d8_16 rfl rfl ?_
  refine Go.callS (S := []) 20 [(.int (2 : Int32)), (.int (2 : Int32))] d8_17 rfl rfl (w146 hw) (w147 hw) (w148 hw) (w149 hw) (by decide) (call_of_go (R := _) (len := 3) (W := 0) pf_4 (fun mid => ef_max mid (2 : Int32) (2 : Int32) ) (c_max hw (2 : Int32) (2 : Int32) ) (w149 hw) (w148 hw) (by decide) (by decide)) (lenOf pd_8 rfl) (Nat.le_of_ble_eq_true rfl) rfl (Nat.le_of_ble_eq_true rfl) (Nat.le_of_ble_eq_true rfl) (fun _ q => nomatch q) (fun v h_1 sf_2 hq => ?_)
  obtain ⟨rfl, rfl⟩ := hq
  refine Go.more (sf' := [a]) ?_ (Nat.le_refl _) (Nat.le_refl _) (fun _ q => List.mem_append_right _ q)
  show G_ensg1 none l Z n0 a b k u0 h0 0 0 [a] h0 20 #[.val (.ref a), .val (.int (2 : Int32)), .unset] [(.int (if (2 : Int32) < (2 : Int32) then (2 : Int32) else (2 : Int32)))]
  rw [show (if (2 : Int32) < (2 : Int32) then (2 : Int32) else (2 : Int32)) = (2 : Int32) from by decide]
  show G_ensg1 none l Z n0 a b k u0 h0 0 0 [a] h0 20 #[.val (.ref a), .val (.int (2 : Int32)), .unset] [(.int (2 : Int32))]
  refine Go.istoreN 21 #[.val (.ref a), .val (.int (2 : Int32)), .val (.int (2 : Int32))] d8_20 rfl rfl ?_
  refine Go.aloadN 22 d8_21 rfl rfl rfl ?_
  refine Go.aloadN 23 d8_22 rfl rfl rfl ?_
  refine Go.getF 26 d8_23 rfl (w34 hw) Via.refl F1 ?_
  refine Go.iloadN 27 d8_26 rfl rfl ?_
  refine Go.callS (S := [(.ref a)]) 30 [(.ref b), (.int (2 : Int32))] d8_27 rfl rfl (w150 hw) (w151 hw) (w152 hw) (w153 hw) (by decide) (call_of_go (R := _) (len := 3) (W := 1) (plainFor_of_name pn_2) (fun mid => ef_copyof1 mid b u0 ) (c_copyof1 hw b u0 A) (w153 hw) (w152 hw) (by decide) (by decide)) (lenOf pd_9 rfl) (Nat.le_of_ble_eq_true rfl) rfl (Nat.le_of_ble_eq_true rfl) (Nat.le_of_ble_eq_true rfl) (fun _ q => nomatch q) (fun v h2 sf_3 hq => ?_)
  obtain ⟨b2, rfl, X2, le2, n02, A2⟩ := hq
  have nb2a : b2 ≠ a := Nat.ne_of_gt (Nat.lt_of_lt_of_le E.lt le2)
  refine Go.more (sf' := [a]) ?_ (Nat.le_refl _) (Nat.le_refl _) (fun _ q => List.mem_append_right _ q)
  show G_ensg1 none l Z n0 a b k u0 h0 1 2 [a] h2 30 #[.val (.ref a), .val (.int (2 : Int32)), .val (.int (2 : Int32))] [(.ref b2), (.ref a)]
  have f_4 := E.ext X2
  have f_5 := F1.ext X2
  refine Go.putF 33 (.ref b2) d8_30 rfl (w34 hw) Via.refl f_5 f_4 (Or.inl (w35 hw)) (w15 hw) (ty := (.array .long)) (by decide) rfl rfl (List.mem_of_getElem? (i := 0) rfl) n0a (fun h_6 W_7 => ?_)
  refine Go.aloadN 34 d8_33 rfl rfl rfl ?_
  refine Go.iconst 35 (0 : Int32) d8_34 rfl rfl ?_
  have f_8 := (f_4.wr W_7)
  obtain ⟨o_9, fo_10⟩ := Fld.any (f_5.same W_7) f_8 (w15 hw) (Or.inl (w24 hw))
  refine Go.putF 38 (.int (0 : Int32)) d8_35 rfl (w23 hw) Via.refl fo_10 f_8 (Or.inl (w24 hw)) (w15 hw) (ty := .boolean) (by decide) rfl rfl (List.mem_of_getElem? (i := 0) rfl) n0a (fun h_11 W_12 => ?_)
  have f_13 := (f_8.wr W_12)
  have f_14 := (((F2.ext X2).other W_7 (Or.inr (slot_ne (Or.inl (w22 hw)) (Or.inl (w35 hw)) (by decide) (t := .int) (t' := (.array .long)) (by decide) (by decide)))).other W_12 (Or.inr (slot_ne (Or.inl (w22 hw)) (Or.inl (w24 hw)) (by decide) (t := .int) (t' := .boolean) (by decide) (by decide))))
  have f_15 := ((f_5.same W_7).other W_12 (Or.inr (slot_ne (Or.inl (w35 hw)) (Or.inl (w24 hw)) (by decide) (t := (.array .long)) (t' := .boolean) (by decide) (by decide))))
  have f_16 := ((A2.other W_7 nb2a).other W_12 nb2a)
  exact Go.ret0 d8_38 rfl (sf' := []) (⟨rfl, ((((Keep.refl h0 [a]).ext X2).wr W_7 (Or.inl (List.mem_of_getElem? (i := 0) rfl))).wr W_12 (Or.inl (List.mem_of_getElem? (i := 0) rfl))), f_13, f_14, b2, le2, n02, nb2a, f_15, f_16⟩) (fun _ q => nomatch q) (Nat.le_of_ble_eq_true rfl) (Nat.le_of_ble_eq_true rfl)
abbrev G_expg1 (md : Md) (l : Launch) (Z : State) (n0 : Nat) (a b : Addr) (k : Int32) (u0 : Int64) (h0 : Heap) := Go md l Z n0 ({ frames := 3, cells := 1, slots := 2, locals := 47 } : Room) jdk_92_method_15_code 3 none "java/util/BitSet" "expandTo" (fun v h' _ => v = none ∧ Keep h0 h' [a] ∧ Exa Z h' a "java/util/BitSet" ∧ Fld Z h' a "java/util/BitSet" "wordsInUse" "I" (.int (2 : Int32)) ∧ ∃ b2, h0.size ≤ b2 ∧ n0 ≤ b2 ∧ b2 ≠ a ∧ Fld Z h' a "java/util/BitSet" "words" "[J" (.ref b2) ∧ Ary Z h' b2 .long [(.long u0), (.long (0 : Int64))])
theorem ef_expg1 (mid : MethodId) (a b : Addr) (k : Int32) (u0 : Int64)  : entryFrame mid #[(.ref a), (.int (1 : Int32))] 3 = mkF mid 0 #[.val (.ref a), .val (.int (1 : Int32)), .unset] [] := by first | (simp [entryFrame, mkF, argsToLocals, Value.category]; done) | rfl
set_option maxRecDepth 65536 in
set_option maxHeartbeats 40000000 in
theorem c_expg1 {l : Launch} {Z : State} {n0 : Nat} {a0 : Array Value} (hw : HW a0 Z) (a b : Addr) (k : Int32) (u0 : Int64) {h0 : Heap} (E : Exa Z h0 a "java/util/BitSet") (n0a : n0 ≤ a) (nba : b ≠ a) (F1 : Fld Z h0 a "java/util/BitSet" "words" "[J" (.ref b)) (F2 : Fld Z h0 a "java/util/BitSet" "wordsInUse" "I" (.int k)) (A : Ary Z h0 b .long [(.long u0)]) (hk : k < (2 : Int32)) : G_expg1 none l Z n0 a b k u0 h0 0 0 [a] h0 0 #[.val (.ref a), .val (.int (1 : Int32)), .unset] [] := by
  refine Go.iloadN 1 d7_0 rfl rfl ?_
  refine Go.iconst 2 (1 : Int32) d7_1 rfl rfl ?_
  refine Go.iadd 3 d7_2 rfl ?_
  rw [show ((1 : Int32) + (1 : Int32)) = (2 : Int32) from by decide]
  refine Go.istoreN 4 #[.val (.ref a), .val (.int (1 : Int32)), .val (.int (2 : Int32))] d7_3 rfl rfl ?_
  refine Go.aloadN 5 d7_4 rfl rfl rfl ?_
  refine Go.getF 8 d7_5 rfl (w21 hw) Via.refl F2 ?_
  refine Go.iloadN 9 d7_8 rfl rfl ?_
  refine Go.icmpN 12 d7_9 rfl (tlt hk).2.1 ?_
  refine Go.aloadN 13 d7_12 rfl rfl rfl ?_
  refine Go.iloadN 14 d7_13 rfl rfl ?_
  refine Go.callP (S := []) (a := a) 17 [(.int (2 : Int32))] d7_14 rfl rfl (w47 hw) (w48 hw) (w50 hw) (w49 hw) (w51 hw) (by decide) E (call_of_go (R := _) (len := 3) (W := 0) (plainFor_of_name pn_0) (fun mid => ef_ensg1 mid a b k u0 ) (c_ensg1 hw a b k u0 E n0a nba F1 F2 A) (w51 hw) (w16 hw) (by decide) (by decide)) (lenOf pd_1 rfl) (Nat.le_of_ble_eq_true rfl) rfl (Nat.le_of_ble_eq_true rfl) (Nat.le_of_ble_eq_true rfl) (fun _ q => q) (fun v h2 sf_1 hq => ?_)
  obtain ⟨rfl, K2, E2, G2, b2, le2, n02, nb2a, G1, A2⟩ := hq
  refine Go.more (sf' := [a]) ?_ (Nat.le_refl _) (Nat.le_refl _) (fun _ q => List.mem_append_right _ q)
  show G_expg1 none l Z n0 a b k u0 h0 1 2 [a] h2 17 #[.val (.ref a), .val (.int (1 : Int32)), .val (.int (2 : Int32))] []
  refine Go.aloadN 18 d7_17 rfl rfl rfl ?_
  refine Go.iloadN 19 d7_18 rfl rfl ?_
  refine Go.putF 22 (.int (2 : Int32)) d7_19 rfl (w21 hw) Via.refl G2 E2 (Or.inl (w22 hw)) (w15 hw) (ty := .int) (by decide) rfl rfl (List.mem_of_getElem? (i := 0) rfl) n0a (fun h_2 W_3 => ?_)
  have f_4 := (E2.wr W_3)
  have f_5 := (G1.other W_3 (Or.inr (slot_ne (Or.inl (w35 hw)) (Or.inl (w22 hw)) (by decide) (t := (.array .long)) (t' := .int) (by decide) (by decide))))
  have f_6 := (A2.other W_3 nb2a)
  exact Go.ret0 d7_22 rfl (sf' := []) (⟨rfl, (((Keep.refl h0 [a]).trans K2 (allS (Or.inl (List.mem_of_getElem? (i := 0) rfl)) all0)).wr W_3 (Or.inl (List.mem_of_getElem? (i := 0) rfl))), f_4, (G2.same W_3), b2, le2, n02, nb2a, f_5, f_6⟩) (fun _ q => nomatch q) (Nat.le_of_ble_eq_true rfl) (Nat.le_of_ble_eq_true rfl)
abbrev G_copyof2 (md : Md) (l : Launch) (Z : State) (n0 : Nat) (b : Addr) (u0 u1 : Int64) (h0 : Heap) := Go md l Z n0 ({ frames := 1, cells := 1, slots := 4, locals := 18 } : Room) jdk_65_method_124_code 3 (some (.array .long)) "java/util/Arrays" "copyOf" (fun v h' _ => ∃ x, v = some (.ref x) ∧ Ext h0 h' ∧ h0.size ≤ x ∧ n0 ≤ x ∧ Ary Z h' x .long [(.long u0), (.long u1), (.long (0 : Int64)), (.long (0 : Int64))])
theorem ef_copyof2 (mid : MethodId) (b : Addr) (u0 u1 : Int64)  : entryFrame mid #[(.ref b), (.int (4 : Int32))] 3 = mkF mid 0 #[.val (.ref b), .val (.int (4 : Int32)), .unset] [] := by first | (simp [entryFrame, mkF, argsToLocals, Value.category]; done) | rfl
set_option maxRecDepth 65536 in
set_option maxHeartbeats 40000000 in
theorem c_copyof2 {l : Launch} {Z : State} {n0 : Nat} {a0 : Array Value} (hw : HW a0 Z) (b : Addr) (u0 u1 : Int64) {h0 : Heap} (A : Ary Z h0 b .long [(.long u0), (.long u1)]) : G_copyof2 none l Z n0 b u0 u1 h0 0 0 [] h0 0 #[.val (.ref b), .val (.int (4 : Int32)), .unset] [] := by
  refine Go.iloadN 1 d27_0 rfl rfl ?_
  refine Go.aloadN 2 d27_1 rfl rfl rfl ?_
  refine Go.alen 3 (2 : Int32) d27_2 rfl A rfl ?_
  refine Go.icmpY 14 d27_3 (by decide) (by decide) (feq (by decide)).2 ?_
  refine Go.iloadN 15 d27_14 rfl rfl ?_
  refine Go.newA 4 17 d27_15 rfl rfl (w33 hw) (by decide) 4 (Nat.le_refl _) (by decide) (Nat.le_of_ble_eq_true rfl) (Nat.le_of_ble_eq_true rfl) (fun h_1 x_2 g_3 q_4 E_5 lt_6 A_7 => ?_)
  have A_8 : Ary Z h_1 x_2 .long [(.long (0 : Int64)), (.long (0 : Int64)), (.long (0 : Int64)), (.long (0 : Int64))] := A_7
  show G_copyof2 none l Z n0 b u0 u1 h0 1 4 [x_2] h_1 17 #[.val (.ref b), .val (.int (4 : Int32)), .unset] [(.ref x_2)]
  refine Go.astoreN 18 #[.val (.ref b), .val (.int (4 : Int32)), .val (.ref x_2)] d27_17 rfl rfl rfl ?_
  refine Go.aloadN 19 d27_18 rfl rfl rfl ?_
  refine Go.iconst 20 (0 : Int32) d27_19 rfl rfl ?_
  refine Go.aloadN 21 d27_20 rfl rfl rfl ?_
  refine Go.iconst 22 (0 : Int32) d27_21 rfl rfl ?_
  refine Go.aloadN 23 d27_22 rfl rfl rfl ?_
  have f_9 := A.ext E_5
  refine Go.alen 24 (2 : Int32) d27_23 rfl f_9 rfl ?_
  refine Go.iloadN 25 d27_24 rfl rfl ?_
  refine Go.callS (S := [(.int (0 : Int32)), (.ref x_2), (.int (0 : Int32)), (.ref b)]) 28 [(.int (2 : Int32)), (.int (4 : Int32))] d27_25 rfl rfl (w154 hw) (w155 hw) (w148 hw) (w156 hw) (by decide) (call_of_go (R := _) (len := 3) (W := 4) pf_3 (fun mid => ef_min mid (2 : Int32) (4 : Int32) ) (c_min hw (2 : Int32) (4 : Int32) ) (w156 hw) (w148 hw) (by decide) (by decide)) (lenOf pd_8 rfl) (Nat.le_of_ble_eq_true rfl) rfl (Nat.le_of_ble_eq_true rfl) (Nat.le_of_ble_eq_true rfl) (fun _ q => nomatch q) (fun v h_10 sf_11 hq => ?_)
  obtain ⟨rfl, rfl⟩ := hq
  refine Go.more (sf' := [x_2]) ?_ (Nat.le_refl _) (Nat.le_refl _) (fun _ q => List.mem_append_right _ q)
  show G_copyof2 none l Z n0 b u0 u1 h0 1 4 [x_2] h_1 28 #[.val (.ref b), .val (.int (4 : Int32)), .val (.ref x_2)] [(.int (if (4 : Int32) < (2 : Int32) then (4 : Int32) else (2 : Int32))), (.int (0 : Int32)), (.ref x_2), (.int (0 : Int32)), (.ref b)]
  rw [show (if (4 : Int32) < (2 : Int32) then (4 : Int32) else (2 : Int32)) = (2 : Int32) from by decide]
  show G_copyof2 none l Z n0 b u0 u1 h0 1 4 [x_2] h_1 28 #[.val (.ref b), .val (.int (4 : Int32)), .val (.ref x_2)] [(.int (2 : Int32)), (.int (0 : Int32)), (.ref x_2), (.int (0 : Int32)), (.ref b)]
  refine Go.acopy (W := 0) 0 0 2 31 d27_28 rfl (w157 hw) (w160 hw) (w158 hw) (w159 hw) f_9 A_8 rfl (by decide) (by decide) (by decide) (Nat.le_of_ble_eq_true rfl) (Nat.le_of_ble_eq_true rfl) (List.mem_of_getElem? (i := 0) rfl) q_4 rfl (by decide) (Nat.le_of_ble_eq_true rfl) (by decide) (fun h_12 K_13 B_14 => ?_)
  have B_15 : Ary Z h_12 x_2 .long [(.long u0), (.long u1), (.long (0 : Int64)), (.long (0 : Int64))] := B_14
  show G_copyof2 none l Z n0 b u0 u1 h0 1 4 [x_2] h_12 31 #[.val (.ref b), .val (.int (4 : Int32)), .val (.ref x_2)] []
  refine Go.aloadN 32 d27_31 rfl rfl rfl ?_
  have X_16 : Ext h0 h_12 := extK E_5 K_13 (allS (Nat.le_of_eq g_3) all0)
  exact Go.retA d27_32 rfl rfl rfl (sf' := []) (⟨_, rfl, X_16, (Nat.le_of_eq g_3), q_4, B_15⟩) (fun _ q => nomatch q) (Nat.le_of_ble_eq_true rfl) (Nat.le_of_ble_eq_true rfl)
abbrev G_ensg2 (md : Md) (l : Launch) (Z : State) (n0 : Nat) (a b : Addr) (k : Int32) (u0 u1 : Int64) (h0 : Heap) := Go md l Z n0 ({ frames := 2, cells := 1, slots := 4, locals := 33 } : Room) jdk_92_method_14_code 3 none "java/util/BitSet" "ensureCapacity" (fun v h' _ => v = none ∧ Keep h0 h' [a] ∧ Exa Z h' a "java/util/BitSet" ∧ Fld Z h' a "java/util/BitSet" "wordsInUse" "I" (.int k) ∧ ∃ b2, h0.size ≤ b2 ∧ n0 ≤ b2 ∧ b2 ≠ a ∧ Fld Z h' a "java/util/BitSet" "words" "[J" (.ref b2) ∧ Ary Z h' b2 .long [(.long u0), (.long u1), (.long (0 : Int64)), (.long (0 : Int64))])
theorem ef_ensg2 (mid : MethodId) (a b : Addr) (k : Int32) (u0 u1 : Int64)  : entryFrame mid #[(.ref a), (.int (3 : Int32))] 3 = mkF mid 0 #[.val (.ref a), .val (.int (3 : Int32)), .unset] [] := by first | (simp [entryFrame, mkF, argsToLocals, Value.category]; done) | rfl
set_option maxRecDepth 65536 in
set_option maxHeartbeats 40000000 in
theorem c_ensg2 {l : Launch} {Z : State} {n0 : Nat} {a0 : Array Value} (hw : HW a0 Z) (a b : Addr) (k : Int32) (u0 u1 : Int64) {h0 : Heap} (E : Exa Z h0 a "java/util/BitSet") (n0a : n0 ≤ a) (nba : b ≠ a) (F1 : Fld Z h0 a "java/util/BitSet" "words" "[J" (.ref b)) (F2 : Fld Z h0 a "java/util/BitSet" "wordsInUse" "I" (.int k)) (A : Ary Z h0 b .long [(.long u0), (.long u1)]) : G_ensg2 none l Z n0 a b k u0 u1 h0 0 0 [a] h0 0 #[.val (.ref a), .val (.int (3 : Int32)), .unset] [] := by
  refine Go.aloadN 1 d8_0 rfl rfl rfl ?_
  refine Go.getF 4 d8_1 rfl (w34 hw) Via.refl F1 ?_
  refine Go.alen 5 (2 : Int32) d8_4 rfl A rfl ?_
  refine Go.iloadN 6 d8_5 rfl rfl ?_
  refine Go.icmpN 9 d8_6 rfl (tlt (by decide)).2.1 ?_
  refine Go.iconst 10 (2 : Int32) d8_9 rfl rfl ?_
  refine Go.aloadN 11 d8_10 rfl rfl rfl ?_
  refine Go.getF 14 d8_11 rfl (w34 hw) Via.refl F1 ?_
  refine Go.alen 15 (2 : Int32) d8_14 rfl A rfl ?_
  refine Go.imul 16 d8_15 rfl ?_
  rw [show ((2 : Int32) * (2 : Int32)) = (4 : Int32) from by decide]
  refine Go.iloadN 17 d8_16 rfl rfl ?_
  refine Go.callS (S := []) 20 [(.int (4 : Int32)), (.int (3 : Int32))] d8_17 rfl rfl (w146 hw) (w147 hw) (w148 hw) (w149 hw) (by decide) (call_of_go (R := _) (len := 3) (W := 0) pf_4 (fun mid => ef_max mid (4 : Int32) (3 : Int32) ) (c_max hw (4 : Int32) (3 : Int32) ) (w149 hw) (w148 hw) (by decide) (by decide)) (lenOf pd_8 rfl) (Nat.le_of_ble_eq_true rfl) rfl (Nat.le_of_ble_eq_true rfl) (Nat.le_of_ble_eq_true rfl) (fun _ q => nomatch q) (fun v h_1 sf_2 hq => ?_)
  obtain ⟨rfl, rfl⟩ := hq
  refine Go.more (sf' := [a]) ?_ (Nat.le_refl _) (Nat.le_refl _) (fun _ q => List.mem_append_right _ q)
  show G_ensg2 none l Z n0 a b k u0 u1 h0 0 0 [a] h0 20 #[.val (.ref a), .val (.int (3 : Int32)), .unset] [(.int (if (4 : Int32) < (3 : Int32) then (3 : Int32) else (4 : Int32)))]
  rw [show (if (4 : Int32) < (3 : Int32) then (3 : Int32) else (4 : Int32)) = (4 : Int32) from by decide]
  show G_ensg2 none l Z n0 a b k u0 u1 h0 0 0 [a] h0 20 #[.val (.ref a), .val (.int (3 : Int32)), .unset] [(.int (4 : Int32))]
  refine Go.istoreN 21 #[.val (.ref a), .val (.int (3 : Int32)), .val (.int (4 : Int32))] d8_20 rfl rfl ?_
  refine Go.aloadN 22 d8_21 rfl rfl rfl ?_
  refine Go.aloadN 23 d8_22 rfl rfl rfl ?_
  refine Go.getF 26 d8_23 rfl (w34 hw) Via.refl F1 ?_
  refine Go.iloadN 27 d8_26 rfl rfl ?_
  refine Go.callS (S := [(.ref a)]) 30 [(.ref b), (.int (4 : Int32))] d8_27 rfl rfl (w150 hw) (w151 hw) (w152 hw) (w153 hw) (by decide) (call_of_go (R := _) (len := 3) (W := 1) (plainFor_of_name pn_2) (fun mid => ef_copyof2 mid b u0 u1 ) (c_copyof2 hw b u0 u1 A) (w153 hw) (w152 hw) (by decide) (by decide)) (lenOf pd_9 rfl) (Nat.le_of_ble_eq_true rfl) rfl (Nat.le_of_ble_eq_true rfl) (Nat.le_of_ble_eq_true rfl) (fun _ q => nomatch q) (fun v h2 sf_3 hq => ?_)
  obtain ⟨b2, rfl, X2, le2, n02, A2⟩ := hq
  have nb2a : b2 ≠ a := Nat.ne_of_gt (Nat.lt_of_lt_of_le E.lt le2)
  refine Go.more (sf' := [a]) ?_ (Nat.le_refl _) (Nat.le_refl _) (fun _ q => List.mem_append_right _ q)
  show G_ensg2 none l Z n0 a b k u0 u1 h0 1 4 [a] h2 30 #[.val (.ref a), .val (.int (3 : Int32)), .val (.int (4 : Int32))] [(.ref b2), (.ref a)]
  have f_4 := E.ext X2
  have f_5 := F1.ext X2
  refine Go.putF 33 (.ref b2) d8_30 rfl (w34 hw) Via.refl f_5 f_4 (Or.inl (w35 hw)) (w15 hw) (ty := (.array .long)) (by decide) rfl rfl (List.mem_of_getElem? (i := 0) rfl) n0a (fun h_6 W_7 => ?_)
  refine Go.aloadN 34 d8_33 rfl rfl rfl ?_
  refine Go.iconst 35 (0 : Int32) d8_34 rfl rfl ?_
  have f_8 := (f_4.wr W_7)
  obtain ⟨o_9, fo_10⟩ := Fld.any (f_5.same W_7) f_8 (w15 hw) (Or.inl (w24 hw))
  refine Go.putF 38 (.int (0 : Int32)) d8_35 rfl (w23 hw) Via.refl fo_10 f_8 (Or.inl (w24 hw)) (w15 hw) (ty := .boolean) (by decide) rfl rfl (List.mem_of_getElem? (i := 0) rfl) n0a (fun h_11 W_12 => ?_)
  have f_13 := (f_8.wr W_12)
  have f_14 := (((F2.ext X2).other W_7 (Or.inr (slot_ne (Or.inl (w22 hw)) (Or.inl (w35 hw)) (by decide) (t := .int) (t' := (.array .long)) (by decide) (by decide)))).other W_12 (Or.inr (slot_ne (Or.inl (w22 hw)) (Or.inl (w24 hw)) (by decide) (t := .int) (t' := .boolean) (by decide) (by decide))))
  have f_15 := ((f_5.same W_7).other W_12 (Or.inr (slot_ne (Or.inl (w35 hw)) (Or.inl (w24 hw)) (by decide) (t := (.array .long)) (t' := .boolean) (by decide) (by decide))))
  have f_16 := ((A2.other W_7 nb2a).other W_12 nb2a)
  exact Go.ret0 d8_38 rfl (sf' := []) (⟨rfl, ((((Keep.refl h0 [a]).ext X2).wr W_7 (Or.inl (List.mem_of_getElem? (i := 0) rfl))).wr W_12 (Or.inl (List.mem_of_getElem? (i := 0) rfl))), f_13, f_14, b2, le2, n02, nb2a, f_15, f_16⟩) (fun _ q => nomatch q) (Nat.le_of_ble_eq_true rfl) (Nat.le_of_ble_eq_true rfl)
abbrev G_expg2 (md : Md) (l : Launch) (Z : State) (n0 : Nat) (a b : Addr) (k : Int32) (u0 u1 : Int64) (h0 : Heap) := Go md l Z n0 ({ frames := 3, cells := 1, slots := 4, locals := 47 } : Room) jdk_92_method_15_code 3 none "java/util/BitSet" "expandTo" (fun v h' _ => v = none ∧ Keep h0 h' [a] ∧ Exa Z h' a "java/util/BitSet" ∧ Fld Z h' a "java/util/BitSet" "wordsInUse" "I" (.int (3 : Int32)) ∧ ∃ b2, h0.size ≤ b2 ∧ n0 ≤ b2 ∧ b2 ≠ a ∧ Fld Z h' a "java/util/BitSet" "words" "[J" (.ref b2) ∧ Ary Z h' b2 .long [(.long u0), (.long u1), (.long (0 : Int64)), (.long (0 : Int64))])
theorem ef_expg2 (mid : MethodId) (a b : Addr) (k : Int32) (u0 u1 : Int64)  : entryFrame mid #[(.ref a), (.int (2 : Int32))] 3 = mkF mid 0 #[.val (.ref a), .val (.int (2 : Int32)), .unset] [] := by first | (simp [entryFrame, mkF, argsToLocals, Value.category]; done) | rfl
set_option maxRecDepth 65536 in
set_option maxHeartbeats 40000000 in
theorem c_expg2 {l : Launch} {Z : State} {n0 : Nat} {a0 : Array Value} (hw : HW a0 Z) (a b : Addr) (k : Int32) (u0 u1 : Int64) {h0 : Heap} (E : Exa Z h0 a "java/util/BitSet") (n0a : n0 ≤ a) (nba : b ≠ a) (F1 : Fld Z h0 a "java/util/BitSet" "words" "[J" (.ref b)) (F2 : Fld Z h0 a "java/util/BitSet" "wordsInUse" "I" (.int k)) (A : Ary Z h0 b .long [(.long u0), (.long u1)]) (hk : k < (3 : Int32)) : G_expg2 none l Z n0 a b k u0 u1 h0 0 0 [a] h0 0 #[.val (.ref a), .val (.int (2 : Int32)), .unset] [] := by
  refine Go.iloadN 1 d7_0 rfl rfl ?_
  refine Go.iconst 2 (1 : Int32) d7_1 rfl rfl ?_
  refine Go.iadd 3 d7_2 rfl ?_
  rw [show ((2 : Int32) + (1 : Int32)) = (3 : Int32) from by decide]
  refine Go.istoreN 4 #[.val (.ref a), .val (.int (2 : Int32)), .val (.int (3 : Int32))] d7_3 rfl rfl ?_
  refine Go.aloadN 5 d7_4 rfl rfl rfl ?_
  refine Go.getF 8 d7_5 rfl (w21 hw) Via.refl F2 ?_
  refine Go.iloadN 9 d7_8 rfl rfl ?_
  refine Go.icmpN 12 d7_9 rfl (tlt hk).2.1 ?_
  refine Go.aloadN 13 d7_12 rfl rfl rfl ?_
  refine Go.iloadN 14 d7_13 rfl rfl ?_
  refine Go.callP (S := []) (a := a) 17 [(.int (3 : Int32))] d7_14 rfl rfl (w47 hw) (w48 hw) (w50 hw) (w49 hw) (w51 hw) (by decide) E (call_of_go (R := _) (len := 3) (W := 0) (plainFor_of_name pn_0) (fun mid => ef_ensg2 mid a b k u0 u1 ) (c_ensg2 hw a b k u0 u1 E n0a nba F1 F2 A) (w51 hw) (w16 hw) (by decide) (by decide)) (lenOf pd_1 rfl) (Nat.le_of_ble_eq_true rfl) rfl (Nat.le_of_ble_eq_true rfl) (Nat.le_of_ble_eq_true rfl) (fun _ q => q) (fun v h2 sf_1 hq => ?_)
  obtain ⟨rfl, K2, E2, G2, b2, le2, n02, nb2a, G1, A2⟩ := hq
  refine Go.more (sf' := [a]) ?_ (Nat.le_refl _) (Nat.le_refl _) (fun _ q => List.mem_append_right _ q)
  show G_expg2 none l Z n0 a b k u0 u1 h0 1 4 [a] h2 17 #[.val (.ref a), .val (.int (2 : Int32)), .val (.int (3 : Int32))] []
  refine Go.aloadN 18 d7_17 rfl rfl rfl ?_
  refine Go.iloadN 19 d7_18 rfl rfl ?_
  refine Go.putF 22 (.int (3 : Int32)) d7_19 rfl (w21 hw) Via.refl G2 E2 (Or.inl (w22 hw)) (w15 hw) (ty := .int) (by decide) rfl rfl (List.mem_of_getElem? (i := 0) rfl) n0a (fun h_2 W_3 => ?_)
  have f_4 := (E2.wr W_3)
  have f_5 := (G1.other W_3 (Or.inr (slot_ne (Or.inl (w35 hw)) (Or.inl (w22 hw)) (by decide) (t := (.array .long)) (t' := .int) (by decide) (by decide))))
  have f_6 := (A2.other W_3 nb2a)
  exact Go.ret0 d7_22 rfl (sf' := []) (⟨rfl, (((Keep.refl h0 [a]).trans K2 (allS (Or.inl (List.mem_of_getElem? (i := 0) rfl)) all0)).wr W_3 (Or.inl (List.mem_of_getElem? (i := 0) rfl))), f_4, (G2.same W_3), b2, le2, n02, nb2a, f_5, f_6⟩) (fun _ q => nomatch q) (Nat.le_of_ble_eq_true rfl) (Nat.le_of_ble_eq_true rfl)
abbrev G_recalc1 (md : Md) (l : Launch) (Z : State) (n0 : Nat) (a b : Addr) (u0 : Int64) (h0 : Heap) := Go md l Z n0 ({ frames := 0, cells := 0, slots := 0, locals := 0 } : Room) jdk_92_method_3_code 2 none "java/util/BitSet" "recalculateWordsInUse" (fun v h' _ => v = none ∧ Keep h0 h' [a] ∧ Exa Z h' a "java/util/BitSet")
theorem ef_recalc1 (mid : MethodId) (a b : Addr) (u0 : Int64)  : entryFrame mid #[(.ref a)] 2 = mkF mid 0 #[.val (.ref a), .unset] [] := by first | (simp [entryFrame, mkF, argsToLocals, Value.category]; done) | rfl
set_option maxRecDepth 65536 in
set_option maxHeartbeats 40000000 in
theorem c_recalc1 {l : Launch} {Z : State} {n0 : Nat} {a0 : Array Value} (hw : HW a0 Z) (a b : Addr) (u0 : Int64) {h0 : Heap} (E : Exa Z h0 a "java/util/BitSet") (n0a : n0 ≤ a) (nba : b ≠ a) (F1 : Fld Z h0 a "java/util/BitSet" "words" "[J" (.ref b)) (F2 : Fld Z h0 a "java/util/BitSet" "wordsInUse" "I" (.int 1)) (A : Ary Z h0 b .long [(.long u0)]) : G_recalc1 none l Z n0 a b u0 h0 0 0 [a] h0 0 #[.val (.ref a), .unset] [] := by
  refine Go.aloadN 1 d21_0 rfl rfl rfl ?_
  refine Go.getF 4 d21_1 rfl (w21 hw) Via.refl F2 ?_
  refine Go.iconst 5 (1 : Int32) d21_4 rfl rfl ?_
  refine Go.isub 6 d21_5 rfl ?_
  rw [show ((1 : Int32) - (1 : Int32)) = (0 : Int32) from by decide]
  refine Go.istoreN 7 #[.val (.ref a), .val (.int (0 : Int32))] d21_6 rfl rfl ?_
  refine Go.iloadN 8 d21_7 rfl rfl ?_
  refine Go.ifN 11 d21_8 rfl (flt (by decide)).1 ?_
  refine Go.aloadN 12 d21_11 rfl rfl rfl ?_
  refine Go.getF 15 d21_12 rfl (w34 hw) Via.refl F1 ?_
  refine Go.iloadN 16 d21_15 rfl rfl ?_
  refine Go.laload 0 17 d21_16 rfl A (by decide) rfl ?_
  refine Go.lconst 18 (0 : Int64) d21_17 rfl rfl ?_
  refine Go.lcmp 19 d21_18 rfl ?_
  by_cases hr_1 : (lcmpW u0 (0 : Int64)) = (0 : Int32)
  · skip
    refine Go.ifY 25 d21_19 (by decide) (by decide) (teq hr_1).1 ?_
    refine Go.iinc 28 #[.val (.ref a), .val (.int ((0 : Int32) + (-1 : Int32)))] (-1 : Int32) d21_25 rfl rfl rfl rfl ?_
    rw [show ((0 : Int32) + (-1 : Int32)) = (-1 : Int32) from by decide]
    refine Go.goto 7 d21_28 (by decide) (by decide) ?_
    refine Go.iloadN 8 d21_7 rfl rfl ?_
    refine Go.ifY 31 d21_8 (by decide) (by decide) (tlt (by decide)).1 ?_
    refine Go.aloadN 32 d21_31 rfl rfl rfl ?_
    refine Go.iloadN 33 d21_32 rfl rfl ?_
    refine Go.iconst 34 (1 : Int32) d21_33 rfl rfl ?_
    refine Go.iadd 35 d21_34 rfl ?_
    rw [show ((-1 : Int32) + (1 : Int32)) = (0 : Int32) from by decide]
    refine Go.putF 38 (.int (0 : Int32)) d21_35 rfl (w21 hw) Via.refl F2 E (Or.inl (w22 hw)) (w15 hw) (ty := .int) (by decide) rfl rfl (List.mem_of_getElem? (i := 0) rfl) n0a (fun h_2 W_3 => ?_)
    have f_4 := (E.wr W_3)
    exact Go.ret0 d21_38 rfl (sf' := []) (⟨rfl, ((Keep.refl h0 [a]).wr W_3 (Or.inl (List.mem_of_getElem? (i := 0) rfl))), f_4⟩) (fun _ q => nomatch q) (Nat.le_of_ble_eq_true rfl) (Nat.le_of_ble_eq_true rfl)
  · skip
    refine Go.ifN 22 d21_19 rfl (feq hr_1).1 ?_
    refine Go.goto 31 d21_22 (by decide) (by decide) ?_
    refine Go.aloadN 32 d21_31 rfl rfl rfl ?_
    refine Go.iloadN 33 d21_32 rfl rfl ?_
    refine Go.iconst 34 (1 : Int32) d21_33 rfl rfl ?_
    refine Go.iadd 35 d21_34 rfl ?_
    rw [show ((0 : Int32) + (1 : Int32)) = (1 : Int32) from by decide]
    refine Go.putF 38 (.int (1 : Int32)) d21_35 rfl (w21 hw) Via.refl F2 E (Or.inl (w22 hw)) (w15 hw) (ty := .int) (by decide) rfl rfl (List.mem_of_getElem? (i := 0) rfl) n0a (fun h_5 W_6 => ?_)
    have f_7 := (E.wr W_6)
    exact Go.ret0 d21_38 rfl (sf' := []) (⟨rfl, ((Keep.refl h0 [a]).wr W_6 (Or.inl (List.mem_of_getElem? (i := 0) rfl))), f_7⟩) (fun _ q => nomatch q) (Nat.le_of_ble_eq_true rfl) (Nat.le_of_ble_eq_true rfl)
abbrev G_recalc2 (md : Md) (l : Launch) (Z : State) (n0 : Nat) (a b : Addr) (u0 u1 : Int64) (h0 : Heap) := Go md l Z n0 ({ frames := 0, cells := 0, slots := 0, locals := 0 } : Room) jdk_92_method_3_code 2 none "java/util/BitSet" "recalculateWordsInUse" (fun v h' _ => v = none ∧ Keep h0 h' [a] ∧ Exa Z h' a "java/util/BitSet")
theorem ef_recalc2 (mid : MethodId) (a b : Addr) (u0 u1 : Int64)  : entryFrame mid #[(.ref a)] 2 = mkF mid 0 #[.val (.ref a), .unset] [] := by first | (simp [entryFrame, mkF, argsToLocals, Value.category]; done) | rfl
set_option maxRecDepth 65536 in
set_option maxHeartbeats 40000000 in
theorem c_recalc2 {l : Launch} {Z : State} {n0 : Nat} {a0 : Array Value} (hw : HW a0 Z) (a b : Addr) (u0 u1 : Int64) {h0 : Heap} (E : Exa Z h0 a "java/util/BitSet") (n0a : n0 ≤ a) (nba : b ≠ a) (F1 : Fld Z h0 a "java/util/BitSet" "words" "[J" (.ref b)) (F2 : Fld Z h0 a "java/util/BitSet" "wordsInUse" "I" (.int 2)) (A : Ary Z h0 b .long [(.long u0), (.long u1)]) : G_recalc2 none l Z n0 a b u0 u1 h0 0 0 [a] h0 0 #[.val (.ref a), .unset] [] := by
  refine Go.aloadN 1 d21_0 rfl rfl rfl ?_
  refine Go.getF 4 d21_1 rfl (w21 hw) Via.refl F2 ?_
  refine Go.iconst 5 (1 : Int32) d21_4 rfl rfl ?_
  refine Go.isub 6 d21_5 rfl ?_
  rw [show ((2 : Int32) - (1 : Int32)) = (1 : Int32) from by decide]
  refine Go.istoreN 7 #[.val (.ref a), .val (.int (1 : Int32))] d21_6 rfl rfl ?_
  refine Go.iloadN 8 d21_7 rfl rfl ?_
  refine Go.ifN 11 d21_8 rfl (flt (by decide)).1 ?_
  refine Go.aloadN 12 d21_11 rfl rfl rfl ?_
  refine Go.getF 15 d21_12 rfl (w34 hw) Via.refl F1 ?_
  refine Go.iloadN 16 d21_15 rfl rfl ?_
  refine Go.laload 1 17 d21_16 rfl A (by decide) rfl ?_
  refine Go.lconst 18 (0 : Int64) d21_17 rfl rfl ?_
  refine Go.lcmp 19 d21_18 rfl ?_
  by_cases hr_1 : (lcmpW u1 (0 : Int64)) = (0 : Int32)
  · skip
    refine Go.ifY 25 d21_19 (by decide) (by decide) (teq hr_1).1 ?_
    refine Go.iinc 28 #[.val (.ref a), .val (.int ((1 : Int32) + (-1 : Int32)))] (-1 : Int32) d21_25 rfl rfl rfl rfl ?_
    rw [show ((1 : Int32) + (-1 : Int32)) = (0 : Int32) from by decide]
    refine Go.goto 7 d21_28 (by decide) (by decide) ?_
    refine Go.iloadN 8 d21_7 rfl rfl ?_
    refine Go.ifN 11 d21_8 rfl (flt (by decide)).1 ?_
    refine Go.aloadN 12 d21_11 rfl rfl rfl ?_
    refine Go.getF 15 d21_12 rfl (w34 hw) Via.refl F1 ?_
    refine Go.iloadN 16 d21_15 rfl rfl ?_
    refine Go.laload 0 17 d21_16 rfl A (by decide) rfl ?_
    refine Go.lconst 18 (0 : Int64) d21_17 rfl rfl ?_
    refine Go.lcmp 19 d21_18 rfl ?_
    by_cases hr_2 : (lcmpW u0 (0 : Int64)) = (0 : Int32)
    · skip
      refine Go.ifY 25 d21_19 (by decide) (by decide) (teq hr_2).1 ?_
      refine Go.iinc 28 #[.val (.ref a), .val (.int ((0 : Int32) + (-1 : Int32)))] (-1 : Int32) d21_25 rfl rfl rfl rfl ?_
      rw [show ((0 : Int32) + (-1 : Int32)) = (-1 : Int32) from by decide]
      refine Go.goto 7 d21_28 (by decide) (by decide) ?_
      refine Go.iloadN 8 d21_7 rfl rfl ?_
      refine Go.ifY 31 d21_8 (by decide) (by decide) (tlt (by decide)).1 ?_
      refine Go.aloadN 32 d21_31 rfl rfl rfl ?_
      refine Go.iloadN 33 d21_32 rfl rfl ?_
      refine Go.iconst 34 (1 : Int32) d21_33 rfl rfl ?_
      refine Go.iadd 35 d21_34 rfl ?_
      rw [show ((-1 : Int32) + (1 : Int32)) = (0 : Int32) from by decide]
      refine Go.putF 38 (.int (0 : Int32)) d21_35 rfl (w21 hw) Via.refl F2 E (Or.inl (w22 hw)) (w15 hw) (ty := .int) (by decide) rfl rfl (List.mem_of_getElem? (i := 0) rfl) n0a (fun h_3 W_4 => ?_)
      have f_5 := (E.wr W_4)
      exact Go.ret0 d21_38 rfl (sf' := []) (⟨rfl, ((Keep.refl h0 [a]).wr W_4 (Or.inl (List.mem_of_getElem? (i := 0) rfl))), f_5⟩) (fun _ q => nomatch q) (Nat.le_of_ble_eq_true rfl) (Nat.le_of_ble_eq_true rfl)
    · skip
      refine Go.ifN 22 d21_19 rfl (feq hr_2).1 ?_
      refine Go.goto 31 d21_22 (by decide) (by decide) ?_
      refine Go.aloadN 32 d21_31 rfl rfl rfl ?_
      refine Go.iloadN 33 d21_32 rfl rfl ?_
      refine Go.iconst 34 (1 : Int32) d21_33 rfl rfl ?_
      refine Go.iadd 35 d21_34 rfl ?_
      rw [show ((0 : Int32) + (1 : Int32)) = (1 : Int32) from by decide]
      refine Go.putF 38 (.int (1 : Int32)) d21_35 rfl (w21 hw) Via.refl F2 E (Or.inl (w22 hw)) (w15 hw) (ty := .int) (by decide) rfl rfl (List.mem_of_getElem? (i := 0) rfl) n0a (fun h_6 W_7 => ?_)
      have f_8 := (E.wr W_7)
      exact Go.ret0 d21_38 rfl (sf' := []) (⟨rfl, ((Keep.refl h0 [a]).wr W_7 (Or.inl (List.mem_of_getElem? (i := 0) rfl))), f_8⟩) (fun _ q => nomatch q) (Nat.le_of_ble_eq_true rfl) (Nat.le_of_ble_eq_true rfl)
  · skip
    refine Go.ifN 22 d21_19 rfl (feq hr_1).1 ?_
    refine Go.goto 31 d21_22 (by decide) (by decide) ?_
    refine Go.aloadN 32 d21_31 rfl rfl rfl ?_
    refine Go.iloadN 33 d21_32 rfl rfl ?_
    refine Go.iconst 34 (1 : Int32) d21_33 rfl rfl ?_
    refine Go.iadd 35 d21_34 rfl ?_
    rw [show ((1 : Int32) + (1 : Int32)) = (2 : Int32) from by decide]
    refine Go.putF 38 (.int (2 : Int32)) d21_35 rfl (w21 hw) Via.refl F2 E (Or.inl (w22 hw)) (w15 hw) (ty := .int) (by decide) rfl rfl (List.mem_of_getElem? (i := 0) rfl) n0a (fun h_9 W_10 => ?_)
    have f_11 := (E.wr W_10)
    exact Go.ret0 d21_38 rfl (sf' := []) (⟨rfl, ((Keep.refl h0 [a]).wr W_10 (Or.inl (List.mem_of_getElem? (i := 0) rfl))), f_11⟩) (fun _ q => nomatch q) (Nat.le_of_ble_eq_true rfl) (Nat.le_of_ble_eq_true rfl)
abbrev G_recalc4 (md : Md) (l : Launch) (Z : State) (n0 : Nat) (a b : Addr) (u0 u1 u2 u3 : Int64) (h0 : Heap) := Go md l Z n0 ({ frames := 0, cells := 0, slots := 0, locals := 0 } : Room) jdk_92_method_3_code 2 none "java/util/BitSet" "recalculateWordsInUse" (fun v h' _ => v = none ∧ Keep h0 h' [a] ∧ Exa Z h' a "java/util/BitSet")
theorem ef_recalc4 (mid : MethodId) (a b : Addr) (u0 u1 u2 u3 : Int64)  : entryFrame mid #[(.ref a)] 2 = mkF mid 0 #[.val (.ref a), .unset] [] := by first | (simp [entryFrame, mkF, argsToLocals, Value.category]; done) | rfl
set_option maxRecDepth 65536 in
set_option maxHeartbeats 40000000 in
theorem c_recalc4 {l : Launch} {Z : State} {n0 : Nat} {a0 : Array Value} (hw : HW a0 Z) (a b : Addr) (u0 u1 u2 u3 : Int64) {h0 : Heap} (E : Exa Z h0 a "java/util/BitSet") (n0a : n0 ≤ a) (nba : b ≠ a) (F1 : Fld Z h0 a "java/util/BitSet" "words" "[J" (.ref b)) (F2 : Fld Z h0 a "java/util/BitSet" "wordsInUse" "I" (.int 3)) (A : Ary Z h0 b .long [(.long u0), (.long u1), (.long u2), (.long u3)]) : G_recalc4 none l Z n0 a b u0 u1 u2 u3 h0 0 0 [a] h0 0 #[.val (.ref a), .unset] [] := by
  refine Go.aloadN 1 d21_0 rfl rfl rfl ?_
  refine Go.getF 4 d21_1 rfl (w21 hw) Via.refl F2 ?_
  refine Go.iconst 5 (1 : Int32) d21_4 rfl rfl ?_
  refine Go.isub 6 d21_5 rfl ?_
  rw [show ((3 : Int32) - (1 : Int32)) = (2 : Int32) from by decide]
  refine Go.istoreN 7 #[.val (.ref a), .val (.int (2 : Int32))] d21_6 rfl rfl ?_
  refine Go.iloadN 8 d21_7 rfl rfl ?_
  refine Go.ifN 11 d21_8 rfl (flt (by decide)).1 ?_
  refine Go.aloadN 12 d21_11 rfl rfl rfl ?_
  refine Go.getF 15 d21_12 rfl (w34 hw) Via.refl F1 ?_
  refine Go.iloadN 16 d21_15 rfl rfl ?_
  refine Go.laload 2 17 d21_16 rfl A (by decide) rfl ?_
  refine Go.lconst 18 (0 : Int64) d21_17 rfl rfl ?_
  refine Go.lcmp 19 d21_18 rfl ?_
  by_cases hr_1 : (lcmpW u2 (0 : Int64)) = (0 : Int32)
  · skip
    refine Go.ifY 25 d21_19 (by decide) (by decide) (teq hr_1).1 ?_
    refine Go.iinc 28 #[.val (.ref a), .val (.int ((2 : Int32) + (-1 : Int32)))] (-1 : Int32) d21_25 rfl rfl rfl rfl ?_
    rw [show ((2 : Int32) + (-1 : Int32)) = (1 : Int32) from by decide]
    refine Go.goto 7 d21_28 (by decide) (by decide) ?_
    refine Go.iloadN 8 d21_7 rfl rfl ?_
    refine Go.ifN 11 d21_8 rfl (flt (by decide)).1 ?_
    refine Go.aloadN 12 d21_11 rfl rfl rfl ?_
    refine Go.getF 15 d21_12 rfl (w34 hw) Via.refl F1 ?_
    refine Go.iloadN 16 d21_15 rfl rfl ?_
    refine Go.laload 1 17 d21_16 rfl A (by decide) rfl ?_
    refine Go.lconst 18 (0 : Int64) d21_17 rfl rfl ?_
    refine Go.lcmp 19 d21_18 rfl ?_
    by_cases hr_2 : (lcmpW u1 (0 : Int64)) = (0 : Int32)
    · skip
      refine Go.ifY 25 d21_19 (by decide) (by decide) (teq hr_2).1 ?_
      refine Go.iinc 28 #[.val (.ref a), .val (.int ((1 : Int32) + (-1 : Int32)))] (-1 : Int32) d21_25 rfl rfl rfl rfl ?_
      rw [show ((1 : Int32) + (-1 : Int32)) = (0 : Int32) from by decide]
      refine Go.goto 7 d21_28 (by decide) (by decide) ?_
      refine Go.iloadN 8 d21_7 rfl rfl ?_
      refine Go.ifN 11 d21_8 rfl (flt (by decide)).1 ?_
      refine Go.aloadN 12 d21_11 rfl rfl rfl ?_
      refine Go.getF 15 d21_12 rfl (w34 hw) Via.refl F1 ?_
      refine Go.iloadN 16 d21_15 rfl rfl ?_
      refine Go.laload 0 17 d21_16 rfl A (by decide) rfl ?_
      refine Go.lconst 18 (0 : Int64) d21_17 rfl rfl ?_
      refine Go.lcmp 19 d21_18 rfl ?_
      by_cases hr_3 : (lcmpW u0 (0 : Int64)) = (0 : Int32)
      · skip
        refine Go.ifY 25 d21_19 (by decide) (by decide) (teq hr_3).1 ?_
        refine Go.iinc 28 #[.val (.ref a), .val (.int ((0 : Int32) + (-1 : Int32)))] (-1 : Int32) d21_25 rfl rfl rfl rfl ?_
        rw [show ((0 : Int32) + (-1 : Int32)) = (-1 : Int32) from by decide]
        refine Go.goto 7 d21_28 (by decide) (by decide) ?_
        refine Go.iloadN 8 d21_7 rfl rfl ?_
        refine Go.ifY 31 d21_8 (by decide) (by decide) (tlt (by decide)).1 ?_
        refine Go.aloadN 32 d21_31 rfl rfl rfl ?_
        refine Go.iloadN 33 d21_32 rfl rfl ?_
        refine Go.iconst 34 (1 : Int32) d21_33 rfl rfl ?_
        refine Go.iadd 35 d21_34 rfl ?_
        rw [show ((-1 : Int32) + (1 : Int32)) = (0 : Int32) from by decide]
        refine Go.putF 38 (.int (0 : Int32)) d21_35 rfl (w21 hw) Via.refl F2 E (Or.inl (w22 hw)) (w15 hw) (ty := .int) (by decide) rfl rfl (List.mem_of_getElem? (i := 0) rfl) n0a (fun h_4 W_5 => ?_)
        have f_6 := (E.wr W_5)
        exact Go.ret0 d21_38 rfl (sf' := []) (⟨rfl, ((Keep.refl h0 [a]).wr W_5 (Or.inl (List.mem_of_getElem? (i := 0) rfl))), f_6⟩) (fun _ q => nomatch q) (Nat.le_of_ble_eq_true rfl) (Nat.le_of_ble_eq_true rfl)
      · skip
        refine Go.ifN 22 d21_19 rfl (feq hr_3).1 ?_
        refine Go.goto 31 d21_22 (by decide) (by decide) ?_
        refine Go.aloadN 32 d21_31 rfl rfl rfl ?_
        refine Go.iloadN 33 d21_32 rfl rfl ?_
        refine Go.iconst 34 (1 : Int32) d21_33 rfl rfl ?_
        refine Go.iadd 35 d21_34 rfl ?_
        rw [show ((0 : Int32) + (1 : Int32)) = (1 : Int32) from by decide]
        refine Go.putF 38 (.int (1 : Int32)) d21_35 rfl (w21 hw) Via.refl F2 E (Or.inl (w22 hw)) (w15 hw) (ty := .int) (by decide) rfl rfl (List.mem_of_getElem? (i := 0) rfl) n0a (fun h_7 W_8 => ?_)
        have f_9 := (E.wr W_8)
        exact Go.ret0 d21_38 rfl (sf' := []) (⟨rfl, ((Keep.refl h0 [a]).wr W_8 (Or.inl (List.mem_of_getElem? (i := 0) rfl))), f_9⟩) (fun _ q => nomatch q) (Nat.le_of_ble_eq_true rfl) (Nat.le_of_ble_eq_true rfl)
    · skip
      refine Go.ifN 22 d21_19 rfl (feq hr_2).1 ?_
      refine Go.goto 31 d21_22 (by decide) (by decide) ?_
      refine Go.aloadN 32 d21_31 rfl rfl rfl ?_
      refine Go.iloadN 33 d21_32 rfl rfl ?_
      refine Go.iconst 34 (1 : Int32) d21_33 rfl rfl ?_
      refine Go.iadd 35 d21_34 rfl ?_
      rw [show ((1 : Int32) + (1 : Int32)) = (2 : Int32) from by decide]
      refine Go.putF 38 (.int (2 : Int32)) d21_35 rfl (w21 hw) Via.refl F2 E (Or.inl (w22 hw)) (w15 hw) (ty := .int) (by decide) rfl rfl (List.mem_of_getElem? (i := 0) rfl) n0a (fun h_10 W_11 => ?_)
      have f_12 := (E.wr W_11)
      exact Go.ret0 d21_38 rfl (sf' := []) (⟨rfl, ((Keep.refl h0 [a]).wr W_11 (Or.inl (List.mem_of_getElem? (i := 0) rfl))), f_12⟩) (fun _ q => nomatch q) (Nat.le_of_ble_eq_true rfl) (Nat.le_of_ble_eq_true rfl)
  · skip
    refine Go.ifN 22 d21_19 rfl (feq hr_1).1 ?_
    refine Go.goto 31 d21_22 (by decide) (by decide) ?_
    refine Go.aloadN 32 d21_31 rfl rfl rfl ?_
    refine Go.iloadN 33 d21_32 rfl rfl ?_
    refine Go.iconst 34 (1 : Int32) d21_33 rfl rfl ?_
    refine Go.iadd 35 d21_34 rfl ?_
    rw [show ((2 : Int32) + (1 : Int32)) = (3 : Int32) from by decide]
    refine Go.putF 38 (.int (3 : Int32)) d21_35 rfl (w21 hw) Via.refl F2 E (Or.inl (w22 hw)) (w15 hw) (ty := .int) (by decide) rfl rfl (List.mem_of_getElem? (i := 0) rfl) n0a (fun h_13 W_14 => ?_)
    have f_15 := (E.wr W_14)
    exact Go.ret0 d21_38 rfl (sf' := []) (⟨rfl, ((Keep.refl h0 [a]).wr W_14 (Or.inl (List.mem_of_getElem? (i := 0) rfl))), f_15⟩) (fun _ q => nomatch q) (Nat.le_of_ble_eq_true rfl) (Nat.le_of_ble_eq_true rfl)
abbrev G_flip10 (md : Md) (l : Launch) (Z : State) (n0 : Nat) (a b : Addr) (k y : Int32) (u0 : Int64) (h0 : Heap) := Go md l Z n0 ({ frames := 2, cells := 0, slots := 0, locals := 28 } : Room) jdk_92_method_18_code 10 none "java/util/BitSet" "flip" (fun v h' _ => v = none ∧ Keep h0 h' [a, b])
theorem ef_flip10 (mid : MethodId) (a b : Addr) (k y : Int32) (u0 : Int64)  : entryFrame mid #[(.ref a), (.int (0 : Int32)), (.int y)] 10 = mkF mid 0 #[.val (.ref a), .val (.int (0 : Int32)), .val (.int y), .unset, .unset, .unset, .unset, .unset, .unset, .unset] [] := by first | (simp [entryFrame, mkF, argsToLocals, Value.category]; done) | rfl
set_option maxRecDepth 65536 in
set_option maxHeartbeats 40000000 in
theorem c_flip10 {l : Launch} {Z : State} {n0 : Nat} {a0 : Array Value} (hw : HW a0 Z) (a b : Addr) (k y : Int32) (u0 : Int64) {h0 : Heap} (E : Exa Z h0 a "java/util/BitSet") (n0a : n0 ≤ a) (nba : b ≠ a) (F1 : Fld Z h0 a "java/util/BitSet" "words" "[J" (.ref b)) (F2 : Fld Z h0 a "java/util/BitSet" "wordsInUse" "I" (.int k)) (A : Ary Z h0 b .long [(.long u0)]) (n0b : n0 ≤ b) (hk : (if k < (0 : Int32) + (1 : Int32) then (0 : Int32) + (1 : Int32) else k) = (1 : Int32)) (hy : ¬ y < 0) (hyn : ¬ (0 : Int32) = y) (he : ((y - (1 : Int32)) >>> ((6 : Int32) &&& 31)) = (0 : Int32)) (SA : Sta Z Z.heap "java/util/BitSet" "$assertionsDisabled" "Z" (.int 1)) : G_flip10 none l Z n0 a b k y u0 h0 0 0 [a, b] h0 0 #[.val (.ref a), .val (.int (0 : Int32)), .val (.int y), .unset, .unset, .unset, .unset, .unset, .unset, .unset] [] := by
  refine Go.iloadN 1 d20_0 rfl rfl ?_
  refine Go.iloadN 2 d20_1 rfl rfl ?_
  refine Go.callS (S := []) 5 [(.int (0 : Int32)), (.int y)] d20_2 rfl rfl (w93 hw) (w94 hw) (w16 hw) (w95 hw) (by decide) (call_of_go (R := _) (len := 3) (W := 0) (plainFor_of_name pn_0) (fun mid => ef_cr mid (0 : Int32) y ) (c_cr hw (0 : Int32) y (by decide) hy hy) (w95 hw) (w16 hw) (by decide) (by decide)) (lenOf pd_3 rfl) (Nat.le_of_ble_eq_true rfl) rfl (Nat.le_of_ble_eq_true rfl) (Nat.le_of_ble_eq_true rfl) (fun _ q => nomatch q) (fun v h_1 sf_2 hq => ?_)
  obtain ⟨rfl, rfl⟩ := hq
  refine Go.more (sf' := [a, b]) ?_ (Nat.le_refl _) (Nat.le_refl _) (fun _ q => List.mem_append_right _ q)
  show G_flip10 none l Z n0 a b k y u0 h0 0 0 [a, b] h0 5 #[.val (.ref a), .val (.int (0 : Int32)), .val (.int y), .unset, .unset, .unset, .unset, .unset, .unset, .unset] []
  refine Go.iloadN 6 d20_5 rfl rfl ?_
  refine Go.iloadN 7 d20_6 rfl rfl ?_
  refine Go.icmpY 11 d20_7 (by decide) (by decide) (feq hyn).2 ?_
  refine Go.iloadN 12 d20_11 rfl rfl ?_
  refine Go.callS (S := []) 15 [(.int (0 : Int32))] d20_12 rfl rfl (w30 hw) (w31 hw) (w16 hw) (w32 hw) (by decide) (call_of_go (R := _) (len := 3) (W := 0) (plainFor_of_name pn_0) (fun mid => ef_wi mid (0 : Int32) ) (c_wi hw (0 : Int32) ) (w32 hw) (w16 hw) (by decide) (by decide)) (lenOf pd_0 rfl) (Nat.le_of_ble_eq_true rfl) rfl (Nat.le_of_ble_eq_true rfl) (Nat.le_of_ble_eq_true rfl) (fun _ q => nomatch q) (fun v h_3 sf_4 hq => ?_)
  obtain ⟨rfl, rfl⟩ := hq
  refine Go.more (sf' := [a, b]) ?_ (Nat.le_refl _) (Nat.le_refl _) (fun _ q => List.mem_append_right _ q)
  show G_flip10 none l Z n0 a b k y u0 h0 0 0 [a, b] h0 15 #[.val (.ref a), .val (.int (0 : Int32)), .val (.int y), .unset, .unset, .unset, .unset, .unset, .unset, .unset] [(.int ((0 : Int32) >>> ((6 : Int32) &&& 31)))]
  rw [show ((0 : Int32) >>> ((6 : Int32) &&& 31)) = (0 : Int32) from by decide]
  show G_flip10 none l Z n0 a b k y u0 h0 0 0 [a, b] h0 15 #[.val (.ref a), .val (.int (0 : Int32)), .val (.int y), .unset, .unset, .unset, .unset, .unset, .unset, .unset] [(.int (0 : Int32))]
  refine Go.istoreN 16 #[.val (.ref a), .val (.int (0 : Int32)), .val (.int y), .val (.int (0 : Int32)), .unset, .unset, .unset, .unset, .unset, .unset] d20_15 rfl rfl ?_
  refine Go.iloadN 17 d20_16 rfl rfl ?_
  refine Go.iconst 18 (1 : Int32) d20_17 rfl rfl ?_
  refine Go.isub 19 d20_18 rfl ?_
  refine Go.callS (S := []) 22 [(.int (y - (1 : Int32)))] d20_19 rfl rfl (w30 hw) (w31 hw) (w16 hw) (w32 hw) (by decide) (call_of_go (R := _) (len := 3) (W := 0) (plainFor_of_name pn_0) (fun mid => ef_wi mid (y - (1 : Int32)) ) (c_wi hw (y - (1 : Int32)) ) (w32 hw) (w16 hw) (by decide) (by decide)) (lenOf pd_0 rfl) (Nat.le_of_ble_eq_true rfl) rfl (Nat.le_of_ble_eq_true rfl) (Nat.le_of_ble_eq_true rfl) (fun _ q => nomatch q) (fun v h_5 sf_6 hq => ?_)
  obtain ⟨rfl, rfl⟩ := hq
  refine Go.more (sf' := [a, b]) ?_ (Nat.le_refl _) (Nat.le_refl _) (fun _ q => List.mem_append_right _ q)
  show G_flip10 none l Z n0 a b k y u0 h0 0 0 [a, b] h0 22 #[.val (.ref a), .val (.int (0 : Int32)), .val (.int y), .val (.int (0 : Int32)), .unset, .unset, .unset, .unset, .unset, .unset] [(.int ((y - (1 : Int32)) >>> ((6 : Int32) &&& 31)))]
  rw [show ((y - (1 : Int32)) >>> ((6 : Int32) &&& 31)) = (0 : Int32) from he]
  show G_flip10 none l Z n0 a b k y u0 h0 0 0 [a, b] h0 22 #[.val (.ref a), .val (.int (0 : Int32)), .val (.int y), .val (.int (0 : Int32)), .unset, .unset, .unset, .unset, .unset, .unset] [(.int (0 : Int32))]
  refine Go.istore 24 #[.val (.ref a), .val (.int (0 : Int32)), .val (.int y), .val (.int (0 : Int32)), .val (.int (0 : Int32)), .unset, .unset, .unset, .unset, .unset] d20_22 rfl rfl ?_
  refine Go.aloadN 25 d20_24 rfl rfl rfl ?_
  refine Go.iload 27 d20_25 rfl rfl ?_
  refine Go.callP (S := []) (a := a) 30 [(.int (0 : Int32))] d20_27 rfl rfl (w42 hw) (w43 hw) (w45 hw) (w44 hw) (w46 hw) (by decide) E (call_of_go (R := _) (len := 3) (W := 0) (plainFor_of_name pn_0) (fun mid => ef_exp mid a b (0 : Int32) k [(.long u0)] ) (c_exp hw a b (0 : Int32) k [(.long u0)] E n0a nba F1 F2 A (by show ¬ Int32.ofNat 1 < (0 : Int32) + (1 : Int32); decide)) (w46 hw) (w16 hw) (by decide) (by decide)) (lenOf pd_1 rfl) (Nat.le_of_ble_eq_true rfl) rfl (Nat.le_of_ble_eq_true rfl) (Nat.le_of_ble_eq_true rfl) (sub1 (List.mem_of_getElem? (i := 0) rfl)) (fun v h2 sf_7 hq => ?_)
  obtain ⟨rfl, K2, E2, G1, G2, A2⟩ := hq
  rw [hk] at G2
  refine Go.more (sf' := [a, b]) ?_ (Nat.le_refl _) (Nat.le_refl _) (fun _ q => List.mem_append_right _ q)
  show G_flip10 none l Z n0 a b k y u0 h0 0 0 [a, b] h2 30 #[.val (.ref a), .val (.int (0 : Int32)), .val (.int y), .val (.int (0 : Int32)), .val (.int (0 : Int32)), .unset, .unset, .unset, .unset, .unset] []
  refine Go.ldc2J 33 d20_30 rfl (w120 hw) ?_
  refine Go.iloadN 34 d20_33 rfl rfl ?_
  refine Go.lshl 35 d20_34 rfl ?_
  refine Go.lstore 37 #[.val (.ref a), .val (.int (0 : Int32)), .val (.int y), .val (.int (0 : Int32)), .val (.int (0 : Int32)), .val (.long ((-1 : Int64) <<< ((0 : Int32) &&& 0x3f).toInt64)), .second, .unset, .unset, .unset] d20_35 rfl rfl ?_
  refine Go.ldc2J 40 d20_37 rfl (w120 hw) ?_
  refine Go.iloadN 41 d20_40 rfl rfl ?_
  refine Go.ineg 42 d20_41 rfl ?_
  refine Go.lushr 43 d20_42 rfl ?_
  refine Go.lstore 45 #[.val (.ref a), .val (.int (0 : Int32)), .val (.int y), .val (.int (0 : Int32)), .val (.int (0 : Int32)), .val (.long ((-1 : Int64) <<< ((0 : Int32) &&& 0x3f).toInt64)), .second, .val (.long (ushrL (-1 : Int64) (-y))), .second, .unset] d20_43 rfl rfl ?_
  refine Go.iloadN 46 d20_45 rfl rfl ?_
  refine Go.iload 48 d20_46 rfl rfl ?_
  refine Go.icmpN 51 d20_48 rfl (teq (by decide)).2 ?_
  refine Go.aloadN 52 d20_51 rfl rfl rfl ?_
  refine Go.getF 55 d20_52 rfl (w34 hw) Via.refl G1 ?_
  refine Go.iloadN 56 d20_55 rfl rfl ?_
  refine Go.dup2 57 d20_56 rfl rfl rfl ?_
  refine Go.laload 0 58 d20_57 rfl A2 (by decide) rfl ?_
  refine Go.lload 60 d20_58 rfl rfl ?_
  refine Go.lload 62 d20_60 rfl rfl ?_
  refine Go.land 63 d20_62 rfl ?_
  refine Go.lxor 64 d20_63 rfl ?_
  refine Go.lastore 0 65 d20_64 rfl A2 (by decide) (Nat.le_of_ble_eq_true rfl) (List.mem_of_getElem? (i := 1) rfl) n0b (fun h_8 W_9 A_10 => ?_)
  have A_11 : Ary Z h_8 b .long [(.long (u0 ^^^ (((-1 : Int64) <<< ((0 : Int32) &&& 0x3f).toInt64) &&& (ushrL (-1 : Int64) (-y)))))] := A_10
  refine Go.goto 122 d20_65 (by decide) (by decide) ?_
  refine Go.aloadN 123 d20_122 rfl rfl rfl ?_
  have f_12 := (E2.wr W_9)
  have f_13 := (G1.other W_9 (Or.inl (Ne.symm nba)))
  have f_14 := (G2.other W_9 (Or.inl (Ne.symm nba)))
  refine Go.callP (S := []) (a := a) 126 [] d20_123 rfl rfl (w121 hw) (w122 hw) (w124 hw) (w123 hw) (w125 hw) (by decide) f_12 (call_of_go (R := _) (len := 3) (W := 0) (plainFor_of_name pn_0) (fun mid => ef_recalc1 mid a b (u0 ^^^ (((-1 : Int64) <<< ((0 : Int32) &&& 0x3f).toInt64) &&& (ushrL (-1 : Int64) (-y)))) ) (c_recalc1 hw a b (u0 ^^^ (((-1 : Int64) <<< ((0 : Int32) &&& 0x3f).toInt64) &&& (ushrL (-1 : Int64) (-y)))) f_12 n0a nba f_13 f_14 A_11) (w125 hw) (w16 hw) (by decide) (by decide)) (lenOf pd_2 rfl) (Nat.le_of_ble_eq_true rfl) rfl (Nat.le_of_ble_eq_true rfl) (Nat.le_of_ble_eq_true rfl) (sub1 (List.mem_of_getElem? (i := 0) rfl)) (fun v h9 sf_15 hq => ?_)
  obtain ⟨rfl, K9, E9⟩ := hq
  refine Go.more (sf' := [a, b]) ?_ (Nat.le_refl _) (Nat.le_refl _) (fun _ q => List.mem_append_right _ q)
  show G_flip10 none l Z n0 a b k y u0 h0 0 0 [a, b] h9 126 #[.val (.ref a), .val (.int (0 : Int32)), .val (.int y), .val (.int (0 : Int32)), .val (.int (0 : Int32)), .val (.long ((-1 : Int64) <<< ((0 : Int32) &&& 0x3f).toInt64)), .second, .val (.long (ushrL (-1 : Int64) (-y))), .second, .unset] []
  refine Go.aloadN 127 d20_126 rfl rfl rfl ?_
  refine Go.callP (S := []) (a := a) 130 [] d20_127 rfl rfl (w52 hw) (w53 hw) (w55 hw) (w54 hw) (w56 hw) (by decide) E9 (call_of_go (R := _) (len := 3) (W := 0) (plainFor_of_name pn_0) (fun mid => ef_ci mid a ) (c_ci hw a SA) (w56 hw) (w16 hw) (by decide) (by decide)) (lenOf pd_2 rfl) (Nat.le_of_ble_eq_true rfl) rfl (Nat.le_of_ble_eq_true rfl) (Nat.le_of_ble_eq_true rfl) (fun _ q => nomatch q) (fun v h_16 sf_17 hq => ?_)
  obtain ⟨rfl, rfl⟩ := hq
  refine Go.more (sf' := [a, b]) ?_ (Nat.le_refl _) (Nat.le_refl _) (fun _ q => List.mem_append_right _ q)
  show G_flip10 none l Z n0 a b k y u0 h0 0 0 [a, b] h9 130 #[.val (.ref a), .val (.int (0 : Int32)), .val (.int y), .val (.int (0 : Int32)), .val (.int (0 : Int32)), .val (.long ((-1 : Int64) <<< ((0 : Int32) &&& 0x3f).toInt64)), .second, .val (.long (ushrL (-1 : Int64) (-y))), .second, .unset] []
  exact Go.ret0 d20_130 rfl (sf' := []) (⟨rfl, ((((Keep.refl h0 [a, b]).trans K2 (allS (Or.inl (List.mem_of_getElem? (i := 0) rfl)) all0)).wr W_9 (Or.inl (List.mem_of_getElem? (i := 1) rfl))).trans K9 (allS (Or.inl (List.mem_of_getElem? (i := 0) rfl)) all0))⟩) (fun _ q => nomatch q) (Nat.le_of_ble_eq_true rfl) (Nat.le_of_ble_eq_true rfl)
abbrev G_flip11 (md : Md) (l : Launch) (Z : State) (n0 : Nat) (a b : Addr) (k y : Int32) (u0 : Int64) (h0 : Heap) := Go md l Z n0 ({ frames := 4, cells := 1, slots := 2, locals := 61 } : Room) jdk_92_method_18_code 10 none "java/util/BitSet" "flip" (fun v h' _ => v = none ∧ Keep h0 h' [a, b])
theorem ef_flip11 (mid : MethodId) (a b : Addr) (k y : Int32) (u0 : Int64)  : entryFrame mid #[(.ref a), (.int (0 : Int32)), (.int y)] 10 = mkF mid 0 #[.val (.ref a), .val (.int (0 : Int32)), .val (.int y), .unset, .unset, .unset, .unset, .unset, .unset, .unset] [] := by first | (simp [entryFrame, mkF, argsToLocals, Value.category]; done) | rfl
set_option maxRecDepth 65536 in
set_option maxHeartbeats 40000000 in
theorem c_flip11 {l : Launch} {Z : State} {n0 : Nat} {a0 : Array Value} (hw : HW a0 Z) (a b : Addr) (k y : Int32) (u0 : Int64) {h0 : Heap} (E : Exa Z h0 a "java/util/BitSet") (n0a : n0 ≤ a) (nba : b ≠ a) (F1 : Fld Z h0 a "java/util/BitSet" "words" "[J" (.ref b)) (F2 : Fld Z h0 a "java/util/BitSet" "wordsInUse" "I" (.int k)) (A : Ary Z h0 b .long [(.long u0)]) (n0b : n0 ≤ b) (hk : k < (2 : Int32)) (hy : ¬ y < 0) (hyn : ¬ (0 : Int32) = y) (he : ((y - (1 : Int32)) >>> ((6 : Int32) &&& 31)) = (1 : Int32)) (SA : Sta Z Z.heap "java/util/BitSet" "$assertionsDisabled" "Z" (.int 1)) : G_flip11 none l Z n0 a b k y u0 h0 0 0 [a, b] h0 0 #[.val (.ref a), .val (.int (0 : Int32)), .val (.int y), .unset, .unset, .unset, .unset, .unset, .unset, .unset] [] := by
  refine Go.iloadN 1 d20_0 rfl rfl ?_
  refine Go.iloadN 2 d20_1 rfl rfl ?_
  refine Go.callS (S := []) 5 [(.int (0 : Int32)), (.int y)] d20_2 rfl rfl (w93 hw) (w94 hw) (w16 hw) (w95 hw) (by decide) (call_of_go (R := _) (len := 3) (W := 0) (plainFor_of_name pn_0) (fun mid => ef_cr mid (0 : Int32) y ) (c_cr hw (0 : Int32) y (by decide) hy hy) (w95 hw) (w16 hw) (by decide) (by decide)) (lenOf pd_3 rfl) (Nat.le_of_ble_eq_true rfl) rfl (Nat.le_of_ble_eq_true rfl) (Nat.le_of_ble_eq_true rfl) (fun _ q => nomatch q) (fun v h_1 sf_2 hq => ?_)
  obtain ⟨rfl, rfl⟩ := hq
  refine Go.more (sf' := [a, b]) ?_ (Nat.le_refl _) (Nat.le_refl _) (fun _ q => List.mem_append_right _ q)
  show G_flip11 none l Z n0 a b k y u0 h0 0 0 [a, b] h0 5 #[.val (.ref a), .val (.int (0 : Int32)), .val (.int y), .unset, .unset, .unset, .unset, .unset, .unset, .unset] []
  refine Go.iloadN 6 d20_5 rfl rfl ?_
  refine Go.iloadN 7 d20_6 rfl rfl ?_
  refine Go.icmpY 11 d20_7 (by decide) (by decide) (feq hyn).2 ?_
  refine Go.iloadN 12 d20_11 rfl rfl ?_
  refine Go.callS (S := []) 15 [(.int (0 : Int32))] d20_12 rfl rfl (w30 hw) (w31 hw) (w16 hw) (w32 hw) (by decide) (call_of_go (R := _) (len := 3) (W := 0) (plainFor_of_name pn_0) (fun mid => ef_wi mid (0 : Int32) ) (c_wi hw (0 : Int32) ) (w32 hw) (w16 hw) (by decide) (by decide)) (lenOf pd_0 rfl) (Nat.le_of_ble_eq_true rfl) rfl (Nat.le_of_ble_eq_true rfl) (Nat.le_of_ble_eq_true rfl) (fun _ q => nomatch q) (fun v h_3 sf_4 hq => ?_)
  obtain ⟨rfl, rfl⟩ := hq
  refine Go.more (sf' := [a, b]) ?_ (Nat.le_refl _) (Nat.le_refl _) (fun _ q => List.mem_append_right _ q)
  show G_flip11 none l Z n0 a b k y u0 h0 0 0 [a, b] h0 15 #[.val (.ref a), .val (.int (0 : Int32)), .val (.int y), .unset, .unset, .unset, .unset, .unset, .unset, .unset] [(.int ((0 : Int32) >>> ((6 : Int32) &&& 31)))]
  rw [show ((0 : Int32) >>> ((6 : Int32) &&& 31)) = (0 : Int32) from by decide]
  show G_flip11 none l Z n0 a b k y u0 h0 0 0 [a, b] h0 15 #[.val (.ref a), .val (.int (0 : Int32)), .val (.int y), .unset, .unset, .unset, .unset, .unset, .unset, .unset] [(.int (0 : Int32))]
  refine Go.istoreN 16 #[.val (.ref a), .val (.int (0 : Int32)), .val (.int y), .val (.int (0 : Int32)), .unset, .unset, .unset, .unset, .unset, .unset] d20_15 rfl rfl ?_
  refine Go.iloadN 17 d20_16 rfl rfl ?_
  refine Go.iconst 18 (1 : Int32) d20_17 rfl rfl ?_
  refine Go.isub 19 d20_18 rfl ?_
  refine Go.callS (S := []) 22 [(.int (y - (1 : Int32)))] d20_19 rfl rfl (w30 hw) (w31 hw) (w16 hw) (w32 hw) (by decide) (call_of_go (R := _) (len := 3) (W := 0) (plainFor_of_name pn_0) (fun mid => ef_wi mid (y - (1 : Int32)) ) (c_wi hw (y - (1 : Int32)) ) (w32 hw) (w16 hw) (by decide) (by decide)) (lenOf pd_0 rfl) (Nat.le_of_ble_eq_true rfl) rfl (Nat.le_of_ble_eq_true rfl) (Nat.le_of_ble_eq_true rfl) (fun _ q => nomatch q) (fun v h_5 sf_6 hq => ?_)
  obtain ⟨rfl, rfl⟩ := hq
  refine Go.more (sf' := [a, b]) ?_ (Nat.le_refl _) (Nat.le_refl _) (fun _ q => List.mem_append_right _ q)
  show G_flip11 none l Z n0 a b k y u0 h0 0 0 [a, b] h0 22 #[.val (.ref a), .val (.int (0 : Int32)), .val (.int y), .val (.int (0 : Int32)), .unset, .unset, .unset, .unset, .unset, .unset] [(.int ((y - (1 : Int32)) >>> ((6 : Int32) &&& 31)))]
  rw [show ((y - (1 : Int32)) >>> ((6 : Int32) &&& 31)) = (1 : Int32) from he]
  show G_flip11 none l Z n0 a b k y u0 h0 0 0 [a, b] h0 22 #[.val (.ref a), .val (.int (0 : Int32)), .val (.int y), .val (.int (0 : Int32)), .unset, .unset, .unset, .unset, .unset, .unset] [(.int (1 : Int32))]
  refine Go.istore 24 #[.val (.ref a), .val (.int (0 : Int32)), .val (.int y), .val (.int (0 : Int32)), .val (.int (1 : Int32)), .unset, .unset, .unset, .unset, .unset] d20_22 rfl rfl ?_
  refine Go.aloadN 25 d20_24 rfl rfl rfl ?_
  refine Go.iload 27 d20_25 rfl rfl ?_
  refine Go.callP (S := []) (a := a) 30 [(.int (1 : Int32))] d20_27 rfl rfl (w42 hw) (w43 hw) (w45 hw) (w44 hw) (w46 hw) (by decide) E (call_of_go (R := _) (len := 3) (W := 0) (plainFor_of_name pn_0) (fun mid => ef_expg1 mid a b k u0 ) (c_expg1 hw a b k u0 E n0a nba F1 F2 A hk) (w46 hw) (w16 hw) (by decide) (by decide)) (lenOf pd_1 rfl) (Nat.le_of_ble_eq_true rfl) rfl (Nat.le_of_ble_eq_true rfl) (Nat.le_of_ble_eq_true rfl) (sub1 (List.mem_of_getElem? (i := 0) rfl)) (fun v h2 sf_7 hq => ?_)
  obtain ⟨rfl, K2, E2, G2, b2, le2, n02, nb2a, G1, A2⟩ := hq
  refine Go.more (sf' := [a, b]) ?_ (Nat.le_refl _) (Nat.le_refl _) (fun _ q => List.mem_append_right _ q)
  show G_flip11 none l Z n0 a b k y u0 h0 1 2 [a, b] h2 30 #[.val (.ref a), .val (.int (0 : Int32)), .val (.int y), .val (.int (0 : Int32)), .val (.int (1 : Int32)), .unset, .unset, .unset, .unset, .unset] []
  refine Go.ldc2J 33 d20_30 rfl (w120 hw) ?_
  refine Go.iloadN 34 d20_33 rfl rfl ?_
  refine Go.lshl 35 d20_34 rfl ?_
  refine Go.lstore 37 #[.val (.ref a), .val (.int (0 : Int32)), .val (.int y), .val (.int (0 : Int32)), .val (.int (1 : Int32)), .val (.long ((-1 : Int64) <<< ((0 : Int32) &&& 0x3f).toInt64)), .second, .unset, .unset, .unset] d20_35 rfl rfl ?_
  refine Go.ldc2J 40 d20_37 rfl (w120 hw) ?_
  refine Go.iloadN 41 d20_40 rfl rfl ?_
  refine Go.ineg 42 d20_41 rfl ?_
  refine Go.lushr 43 d20_42 rfl ?_
  refine Go.lstore 45 #[.val (.ref a), .val (.int (0 : Int32)), .val (.int y), .val (.int (0 : Int32)), .val (.int (1 : Int32)), .val (.long ((-1 : Int64) <<< ((0 : Int32) &&& 0x3f).toInt64)), .second, .val (.long (ushrL (-1 : Int64) (-y))), .second, .unset] d20_43 rfl rfl ?_
  refine Go.iloadN 46 d20_45 rfl rfl ?_
  refine Go.iload 48 d20_46 rfl rfl ?_
  refine Go.icmpY 68 d20_48 (by decide) (by decide) (feq (by decide)).2 ?_
  refine Go.aloadN 69 d20_68 rfl rfl rfl ?_
  refine Go.getF 72 d20_69 rfl (w34 hw) Via.refl G1 ?_
  refine Go.iloadN 73 d20_72 rfl rfl ?_
  refine Go.dup2 74 d20_73 rfl rfl rfl ?_
  refine Go.laload 0 75 d20_74 rfl A2 (by decide) rfl ?_
  refine Go.lload 77 d20_75 rfl rfl ?_
  refine Go.lxor 78 d20_77 rfl ?_
  refine Go.sfN [b2, a, b] ?_
  refine Go.lastore 0 79 d20_78 rfl A2 (by decide) (Nat.le_of_ble_eq_true rfl) (List.mem_of_getElem? (i := 0) rfl) n02 (fun h_8 W_9 A_10 => ?_)
  have A_11 : Ary Z h_8 b2 .long [(.long (u0 ^^^ ((-1 : Int64) <<< ((0 : Int32) &&& 0x3f).toInt64))), (.long (0 : Int64))] := A_10
  refine Go.iloadN 80 d20_79 rfl rfl ?_
  refine Go.iconst 81 (1 : Int32) d20_80 rfl rfl ?_
  refine Go.iadd 82 d20_81 rfl ?_
  rw [show ((0 : Int32) + (1 : Int32)) = (1 : Int32) from by decide]
  refine Go.istore 84 #[.val (.ref a), .val (.int (0 : Int32)), .val (.int y), .val (.int (0 : Int32)), .val (.int (1 : Int32)), .val (.long ((-1 : Int64) <<< ((0 : Int32) &&& 0x3f).toInt64)), .second, .val (.long (ushrL (-1 : Int64) (-y))), .second, .val (.int (1 : Int32))] d20_82 rfl rfl ?_
  refine Go.iload 86 d20_84 rfl rfl ?_
  refine Go.iload 88 d20_86 rfl rfl ?_
  refine Go.icmpY 110 d20_88 (by decide) (by decide) (flt (by decide)).2.1 ?_
  refine Go.aloadN 111 d20_110 rfl rfl rfl ?_
  have f_12 := (G1.other W_9 (Or.inl (Ne.symm nb2a)))
  refine Go.getF 114 d20_111 rfl (w34 hw) Via.refl f_12 ?_
  refine Go.iload 116 d20_114 rfl rfl ?_
  refine Go.dup2 117 d20_116 rfl rfl rfl ?_
  refine Go.laload 1 118 d20_117 rfl A_11 (by decide) rfl ?_
  refine Go.lload 120 d20_118 rfl rfl ?_
  refine Go.lxor 121 d20_120 rfl ?_
  refine Go.lastore 1 122 d20_121 rfl A_11 (by decide) (Nat.le_of_ble_eq_true rfl) (List.mem_of_getElem? (i := 0) rfl) n02 (fun h_13 W_14 A_15 => ?_)
  have A_16 : Ary Z h_13 b2 .long [(.long (u0 ^^^ ((-1 : Int64) <<< ((0 : Int32) &&& 0x3f).toInt64))), (.long ((0 : Int64) ^^^ (ushrL (-1 : Int64) (-y))))] := A_15
  refine Go.aloadN 123 d20_122 rfl rfl rfl ?_
  have f_17 := ((E2.wr W_9).wr W_14)
  have f_18 := (f_12.other W_14 (Or.inl (Ne.symm nb2a)))
  have f_19 := ((G2.other W_9 (Or.inl (Ne.symm nb2a))).other W_14 (Or.inl (Ne.symm nb2a)))
  refine Go.callP (S := []) (a := a) 126 [] d20_123 rfl rfl (w121 hw) (w122 hw) (w124 hw) (w123 hw) (w125 hw) (by decide) f_17 (call_of_go (R := _) (len := 3) (W := 0) (plainFor_of_name pn_0) (fun mid => ef_recalc2 mid a b2 (u0 ^^^ ((-1 : Int64) <<< ((0 : Int32) &&& 0x3f).toInt64)) ((0 : Int64) ^^^ (ushrL (-1 : Int64) (-y))) ) (c_recalc2 hw a b2 (u0 ^^^ ((-1 : Int64) <<< ((0 : Int32) &&& 0x3f).toInt64)) ((0 : Int64) ^^^ (ushrL (-1 : Int64) (-y))) f_17 n0a nb2a f_18 f_19 A_16) (w125 hw) (w16 hw) (by decide) (by decide)) (lenOf pd_2 rfl) (Nat.le_of_ble_eq_true rfl) rfl (Nat.le_of_ble_eq_true rfl) (Nat.le_of_ble_eq_true rfl) (sub1 (List.mem_of_getElem? (i := 1) rfl)) (fun v h9 sf_20 hq => ?_)
  obtain ⟨rfl, K9, E9⟩ := hq
  refine Go.more (sf' := [b2, a, b]) ?_ (Nat.le_refl _) (Nat.le_refl _) (fun _ q => List.mem_append_right _ q)
  show G_flip11 none l Z n0 a b k y u0 h0 1 2 [b2, a, b] h9 126 #[.val (.ref a), .val (.int (0 : Int32)), .val (.int y), .val (.int (0 : Int32)), .val (.int (1 : Int32)), .val (.long ((-1 : Int64) <<< ((0 : Int32) &&& 0x3f).toInt64)), .second, .val (.long (ushrL (-1 : Int64) (-y))), .second, .val (.int (1 : Int32))] []
  refine Go.aloadN 127 d20_126 rfl rfl rfl ?_
  refine Go.callP (S := []) (a := a) 130 [] d20_127 rfl rfl (w52 hw) (w53 hw) (w55 hw) (w54 hw) (w56 hw) (by decide) E9 (call_of_go (R := _) (len := 3) (W := 0) (plainFor_of_name pn_0) (fun mid => ef_ci mid a ) (c_ci hw a SA) (w56 hw) (w16 hw) (by decide) (by decide)) (lenOf pd_2 rfl) (Nat.le_of_ble_eq_true rfl) rfl (Nat.le_of_ble_eq_true rfl) (Nat.le_of_ble_eq_true rfl) (fun _ q => nomatch q) (fun v h_21 sf_22 hq => ?_)
  obtain ⟨rfl, rfl⟩ := hq
  refine Go.more (sf' := [b2, a, b]) ?_ (Nat.le_refl _) (Nat.le_refl _) (fun _ q => List.mem_append_right _ q)
  show G_flip11 none l Z n0 a b k y u0 h0 1 2 [b2, a, b] h9 130 #[.val (.ref a), .val (.int (0 : Int32)), .val (.int y), .val (.int (0 : Int32)), .val (.int (1 : Int32)), .val (.long ((-1 : Int64) <<< ((0 : Int32) &&& 0x3f).toInt64)), .second, .val (.long (ushrL (-1 : Int64) (-y))), .second, .val (.int (1 : Int32))] []
  exact Go.ret0 d20_130 rfl (sf' := []) (⟨rfl, (((((Keep.refl h0 [a, b]).trans K2 (allS (Or.inl (List.mem_of_getElem? (i := 0) rfl)) all0)).wr W_9 (Or.inr le2)).wr W_14 (Or.inr le2)).trans K9 (allS (Or.inl (List.mem_of_getElem? (i := 0) rfl)) all0))⟩) (fun _ q => nomatch q) (Nat.le_of_ble_eq_true rfl) (Nat.le_of_ble_eq_true rfl)
abbrev G_flip22 (md : Md) (l : Launch) (Z : State) (n0 : Nat) (a b : Addr) (k y : Int32) (u0 u1 : Int64) (h0 : Heap) := Go md l Z n0 ({ frames := 4, cells := 1, slots := 4, locals := 61 } : Room) jdk_92_method_18_code 10 none "java/util/BitSet" "flip" (fun v h' _ => v = none ∧ Keep h0 h' [a, b])
theorem ef_flip22 (mid : MethodId) (a b : Addr) (k y : Int32) (u0 u1 : Int64)  : entryFrame mid #[(.ref a), (.int (0 : Int32)), (.int y)] 10 = mkF mid 0 #[.val (.ref a), .val (.int (0 : Int32)), .val (.int y), .unset, .unset, .unset, .unset, .unset, .unset, .unset] [] := by first | (simp [entryFrame, mkF, argsToLocals, Value.category]; done) | rfl
set_option maxRecDepth 65536 in
set_option maxHeartbeats 40000000 in
theorem c_flip22 {l : Launch} {Z : State} {n0 : Nat} {a0 : Array Value} (hw : HW a0 Z) (a b : Addr) (k y : Int32) (u0 u1 : Int64) {h0 : Heap} (E : Exa Z h0 a "java/util/BitSet") (n0a : n0 ≤ a) (nba : b ≠ a) (F1 : Fld Z h0 a "java/util/BitSet" "words" "[J" (.ref b)) (F2 : Fld Z h0 a "java/util/BitSet" "wordsInUse" "I" (.int k)) (A : Ary Z h0 b .long [(.long u0), (.long u1)]) (n0b : n0 ≤ b) (hk : k < (3 : Int32)) (hy : ¬ y < 0) (hyn : ¬ (0 : Int32) = y) (he : ((y - (1 : Int32)) >>> ((6 : Int32) &&& 31)) = (2 : Int32)) (SA : Sta Z Z.heap "java/util/BitSet" "$assertionsDisabled" "Z" (.int 1)) : G_flip22 none l Z n0 a b k y u0 u1 h0 0 0 [a, b] h0 0 #[.val (.ref a), .val (.int (0 : Int32)), .val (.int y), .unset, .unset, .unset, .unset, .unset, .unset, .unset] [] := by
  refine Go.iloadN 1 d20_0 rfl rfl ?_
  refine Go.iloadN 2 d20_1 rfl rfl ?_
  refine Go.callS (S := []) 5 [(.int (0 : Int32)), (.int y)] d20_2 rfl rfl (w93 hw) (w94 hw) (w16 hw) (w95 hw) (by decide) (call_of_go (R := _) (len := 3) (W := 0) (plainFor_of_name pn_0) (fun mid => ef_cr mid (0 : Int32) y ) (c_cr hw (0 : Int32) y (by decide) hy hy) (w95 hw) (w16 hw) (by decide) (by decide)) (lenOf pd_3 rfl) (Nat.le_of_ble_eq_true rfl) rfl (Nat.le_of_ble_eq_true rfl) (Nat.le_of_ble_eq_true rfl) (fun _ q => nomatch q) (fun v h_1 sf_2 hq => ?_)
  obtain ⟨rfl, rfl⟩ := hq
  refine Go.more (sf' := [a, b]) ?_ (Nat.le_refl _) (Nat.le_refl _) (fun _ q => List.mem_append_right _ q)
  show G_flip22 none l Z n0 a b k y u0 u1 h0 0 0 [a, b] h0 5 #[.val (.ref a), .val (.int (0 : Int32)), .val (.int y), .unset, .unset, .unset, .unset, .unset, .unset, .unset] []
  refine Go.iloadN 6 d20_5 rfl rfl ?_
  refine Go.iloadN 7 d20_6 rfl rfl ?_
  refine Go.icmpY 11 d20_7 (by decide) (by decide) (feq hyn).2 ?_
  refine Go.iloadN 12 d20_11 rfl rfl ?_
  refine Go.callS (S := []) 15 [(.int (0 : Int32))] d20_12 rfl rfl (w30 hw) (w31 hw) (w16 hw) (w32 hw) (by decide) (call_of_go (R := _) (len := 3) (W := 0) (plainFor_of_name pn_0) (fun mid => ef_wi mid (0 : Int32) ) (c_wi hw (0 : Int32) ) (w32 hw) (w16 hw) (by decide) (by decide)) (lenOf pd_0 rfl) (Nat.le_of_ble_eq_true rfl) rfl (Nat.le_of_ble_eq_true rfl) (Nat.le_of_ble_eq_true rfl) (fun _ q => nomatch q) (fun v h_3 sf_4 hq => ?_)
  obtain ⟨rfl, rfl⟩ := hq
  refine Go.more (sf' := [a, b]) ?_ (Nat.le_refl _) (Nat.le_refl _) (fun _ q => List.mem_append_right _ q)
  show G_flip22 none l Z n0 a b k y u0 u1 h0 0 0 [a, b] h0 15 #[.val (.ref a), .val (.int (0 : Int32)), .val (.int y), .unset, .unset, .unset, .unset, .unset, .unset, .unset] [(.int ((0 : Int32) >>> ((6 : Int32) &&& 31)))]
  rw [show ((0 : Int32) >>> ((6 : Int32) &&& 31)) = (0 : Int32) from by decide]
  show G_flip22 none l Z n0 a b k y u0 u1 h0 0 0 [a, b] h0 15 #[.val (.ref a), .val (.int (0 : Int32)), .val (.int y), .unset, .unset, .unset, .unset, .unset, .unset, .unset] [(.int (0 : Int32))]
  refine Go.istoreN 16 #[.val (.ref a), .val (.int (0 : Int32)), .val (.int y), .val (.int (0 : Int32)), .unset, .unset, .unset, .unset, .unset, .unset] d20_15 rfl rfl ?_
  refine Go.iloadN 17 d20_16 rfl rfl ?_
  refine Go.iconst 18 (1 : Int32) d20_17 rfl rfl ?_
  refine Go.isub 19 d20_18 rfl ?_
  refine Go.callS (S := []) 22 [(.int (y - (1 : Int32)))] d20_19 rfl rfl (w30 hw) (w31 hw) (w16 hw) (w32 hw) (by decide) (call_of_go (R := _) (len := 3) (W := 0) (plainFor_of_name pn_0) (fun mid => ef_wi mid (y - (1 : Int32)) ) (c_wi hw (y - (1 : Int32)) ) (w32 hw) (w16 hw) (by decide) (by decide)) (lenOf pd_0 rfl) (Nat.le_of_ble_eq_true rfl) rfl (Nat.le_of_ble_eq_true rfl) (Nat.le_of_ble_eq_true rfl) (fun _ q => nomatch q) (fun v h_5 sf_6 hq => ?_)
  obtain ⟨rfl, rfl⟩ := hq
  refine Go.more (sf' := [a, b]) ?_ (Nat.le_refl _) (Nat.le_refl _) (fun _ q => List.mem_append_right _ q)
  show G_flip22 none l Z n0 a b k y u0 u1 h0 0 0 [a, b] h0 22 #[.val (.ref a), .val (.int (0 : Int32)), .val (.int y), .val (.int (0 : Int32)), .unset, .unset, .unset, .unset, .unset, .unset] [(.int ((y - (1 : Int32)) >>> ((6 : Int32) &&& 31)))]
  rw [show ((y - (1 : Int32)) >>> ((6 : Int32) &&& 31)) = (2 : Int32) from he]
  show G_flip22 none l Z n0 a b k y u0 u1 h0 0 0 [a, b] h0 22 #[.val (.ref a), .val (.int (0 : Int32)), .val (.int y), .val (.int (0 : Int32)), .unset, .unset, .unset, .unset, .unset, .unset] [(.int (2 : Int32))]
  refine Go.istore 24 #[.val (.ref a), .val (.int (0 : Int32)), .val (.int y), .val (.int (0 : Int32)), .val (.int (2 : Int32)), .unset, .unset, .unset, .unset, .unset] d20_22 rfl rfl ?_
  refine Go.aloadN 25 d20_24 rfl rfl rfl ?_
  refine Go.iload 27 d20_25 rfl rfl ?_
  refine Go.callP (S := []) (a := a) 30 [(.int (2 : Int32))] d20_27 rfl rfl (w42 hw) (w43 hw) (w45 hw) (w44 hw) (w46 hw) (by decide) E (call_of_go (R := _) (len := 3) (W := 0) (plainFor_of_name pn_0) (fun mid => ef_expg2 mid a b k u0 u1 ) (c_expg2 hw a b k u0 u1 E n0a nba F1 F2 A hk) (w46 hw) (w16 hw) (by decide) (by decide)) (lenOf pd_1 rfl) (Nat.le_of_ble_eq_true rfl) rfl (Nat.le_of_ble_eq_true rfl) (Nat.le_of_ble_eq_true rfl) (sub1 (List.mem_of_getElem? (i := 0) rfl)) (fun v h2 sf_7 hq => ?_)
  obtain ⟨rfl, K2, E2, G2, b2, le2, n02, nb2a, G1, A2⟩ := hq
  refine Go.more (sf' := [a, b]) ?_ (Nat.le_refl _) (Nat.le_refl _) (fun _ q => List.mem_append_right _ q)
  show G_flip22 none l Z n0 a b k y u0 u1 h0 1 4 [a, b] h2 30 #[.val (.ref a), .val (.int (0 : Int32)), .val (.int y), .val (.int (0 : Int32)), .val (.int (2 : Int32)), .unset, .unset, .unset, .unset, .unset] []
  refine Go.ldc2J 33 d20_30 rfl (w120 hw) ?_
  refine Go.iloadN 34 d20_33 rfl rfl ?_
  refine Go.lshl 35 d20_34 rfl ?_
  refine Go.lstore 37 #[.val (.ref a), .val (.int (0 : Int32)), .val (.int y), .val (.int (0 : Int32)), .val (.int (2 : Int32)), .val (.long ((-1 : Int64) <<< ((0 : Int32) &&& 0x3f).toInt64)), .second, .unset, .unset, .unset] d20_35 rfl rfl ?_
  refine Go.ldc2J 40 d20_37 rfl (w120 hw) ?_
  refine Go.iloadN 41 d20_40 rfl rfl ?_
  refine Go.ineg 42 d20_41 rfl ?_
  refine Go.lushr 43 d20_42 rfl ?_
  refine Go.lstore 45 #[.val (.ref a), .val (.int (0 : Int32)), .val (.int y), .val (.int (0 : Int32)), .val (.int (2 : Int32)), .val (.long ((-1 : Int64) <<< ((0 : Int32) &&& 0x3f).toInt64)), .second, .val (.long (ushrL (-1 : Int64) (-y))), .second, .unset] d20_43 rfl rfl ?_
  refine Go.iloadN 46 d20_45 rfl rfl ?_
  refine Go.iload 48 d20_46 rfl rfl ?_
  refine Go.icmpY 68 d20_48 (by decide) (by decide) (feq (by decide)).2 ?_
  refine Go.aloadN 69 d20_68 rfl rfl rfl ?_
  refine Go.getF 72 d20_69 rfl (w34 hw) Via.refl G1 ?_
  refine Go.iloadN 73 d20_72 rfl rfl ?_
  refine Go.dup2 74 d20_73 rfl rfl rfl ?_
  refine Go.laload 0 75 d20_74 rfl A2 (by decide) rfl ?_
  refine Go.lload 77 d20_75 rfl rfl ?_
  refine Go.lxor 78 d20_77 rfl ?_
  refine Go.sfN [b2, a, b] ?_
  refine Go.lastore 0 79 d20_78 rfl A2 (by decide) (Nat.le_of_ble_eq_true rfl) (List.mem_of_getElem? (i := 0) rfl) n02 (fun h_8 W_9 A_10 => ?_)
  have A_11 : Ary Z h_8 b2 .long [(.long (u0 ^^^ ((-1 : Int64) <<< ((0 : Int32) &&& 0x3f).toInt64))), (.long u1), (.long (0 : Int64)), (.long (0 : Int64))] := A_10
  refine Go.iloadN 80 d20_79 rfl rfl ?_
  refine Go.iconst 81 (1 : Int32) d20_80 rfl rfl ?_
  refine Go.iadd 82 d20_81 rfl ?_
  rw [show ((0 : Int32) + (1 : Int32)) = (1 : Int32) from by decide]
  refine Go.istore 84 #[.val (.ref a), .val (.int (0 : Int32)), .val (.int y), .val (.int (0 : Int32)), .val (.int (2 : Int32)), .val (.long ((-1 : Int64) <<< ((0 : Int32) &&& 0x3f).toInt64)), .second, .val (.long (ushrL (-1 : Int64) (-y))), .second, .val (.int (1 : Int32))] d20_82 rfl rfl ?_
  refine Go.iload 86 d20_84 rfl rfl ?_
  refine Go.iload 88 d20_86 rfl rfl ?_
  refine Go.icmpN 91 d20_88 rfl (tlt (by decide)).2.1 ?_
  refine Go.aloadN 92 d20_91 rfl rfl rfl ?_
  have f_12 := (G1.other W_9 (Or.inl (Ne.symm nb2a)))
  refine Go.getF 95 d20_92 rfl (w34 hw) Via.refl f_12 ?_
  refine Go.iload 97 d20_95 rfl rfl ?_
  refine Go.dup2 98 d20_97 rfl rfl rfl ?_
  refine Go.laload 1 99 d20_98 rfl A_11 (by decide) rfl ?_
  refine Go.ldc2J 102 d20_99 rfl (w120 hw) ?_
  refine Go.lxor 103 d20_102 rfl ?_
  refine Go.lastore 1 104 d20_103 rfl A_11 (by decide) (Nat.le_of_ble_eq_true rfl) (List.mem_of_getElem? (i := 0) rfl) n02 (fun h_13 W_14 A_15 => ?_)
  have A_16 : Ary Z h_13 b2 .long [(.long (u0 ^^^ ((-1 : Int64) <<< ((0 : Int32) &&& 0x3f).toInt64))), (.long (u1 ^^^ (-1 : Int64))), (.long (0 : Int64)), (.long (0 : Int64))] := A_15
  refine Go.iinc 107 #[.val (.ref a), .val (.int (0 : Int32)), .val (.int y), .val (.int (0 : Int32)), .val (.int (2 : Int32)), .val (.long ((-1 : Int64) <<< ((0 : Int32) &&& 0x3f).toInt64)), .second, .val (.long (ushrL (-1 : Int64) (-y))), .second, .val (.int ((1 : Int32) + (1 : Int32)))] (1 : Int32) d20_104 rfl rfl rfl rfl ?_
  rw [show ((1 : Int32) + (1 : Int32)) = (2 : Int32) from by decide]
  refine Go.goto 84 d20_107 (by decide) (by decide) ?_
  refine Go.iload 86 d20_84 rfl rfl ?_
  refine Go.iload 88 d20_86 rfl rfl ?_
  refine Go.icmpY 110 d20_88 (by decide) (by decide) (flt (by decide)).2.1 ?_
  refine Go.aloadN 111 d20_110 rfl rfl rfl ?_
  have f_17 := (f_12.other W_14 (Or.inl (Ne.symm nb2a)))
  refine Go.getF 114 d20_111 rfl (w34 hw) Via.refl f_17 ?_
  refine Go.iload 116 d20_114 rfl rfl ?_
  refine Go.dup2 117 d20_116 rfl rfl rfl ?_
  refine Go.laload 2 118 d20_117 rfl A_16 (by decide) rfl ?_
  refine Go.lload 120 d20_118 rfl rfl ?_
  refine Go.lxor 121 d20_120 rfl ?_
  refine Go.lastore 2 122 d20_121 rfl A_16 (by decide) (Nat.le_of_ble_eq_true rfl) (List.mem_of_getElem? (i := 0) rfl) n02 (fun h_18 W_19 A_20 => ?_)
  have A_21 : Ary Z h_18 b2 .long [(.long (u0 ^^^ ((-1 : Int64) <<< ((0 : Int32) &&& 0x3f).toInt64))), (.long (u1 ^^^ (-1 : Int64))), (.long ((0 : Int64) ^^^ (ushrL (-1 : Int64) (-y)))), (.long (0 : Int64))] := A_20
  refine Go.aloadN 123 d20_122 rfl rfl rfl ?_
  have f_22 := (((E2.wr W_9).wr W_14).wr W_19)
  have f_23 := (f_17.other W_19 (Or.inl (Ne.symm nb2a)))
  have f_24 := (((G2.other W_9 (Or.inl (Ne.symm nb2a))).other W_14 (Or.inl (Ne.symm nb2a))).other W_19 (Or.inl (Ne.symm nb2a)))
  refine Go.callP (S := []) (a := a) 126 [] d20_123 rfl rfl (w121 hw) (w122 hw) (w124 hw) (w123 hw) (w125 hw) (by decide) f_22 (call_of_go (R := _) (len := 3) (W := 0) (plainFor_of_name pn_0) (fun mid => ef_recalc4 mid a b2 (u0 ^^^ ((-1 : Int64) <<< ((0 : Int32) &&& 0x3f).toInt64)) (u1 ^^^ (-1 : Int64)) ((0 : Int64) ^^^ (ushrL (-1 : Int64) (-y))) (0 : Int64) ) (c_recalc4 hw a b2 (u0 ^^^ ((-1 : Int64) <<< ((0 : Int32) &&& 0x3f).toInt64)) (u1 ^^^ (-1 : Int64)) ((0 : Int64) ^^^ (ushrL (-1 : Int64) (-y))) (0 : Int64) f_22 n0a nb2a f_23 f_24 A_21) (w125 hw) (w16 hw) (by decide) (by decide)) (lenOf pd_2 rfl) (Nat.le_of_ble_eq_true rfl) rfl (Nat.le_of_ble_eq_true rfl) (Nat.le_of_ble_eq_true rfl) (sub1 (List.mem_of_getElem? (i := 1) rfl)) (fun v h9 sf_25 hq => ?_)
  obtain ⟨rfl, K9, E9⟩ := hq
  refine Go.more (sf' := [b2, a, b]) ?_ (Nat.le_refl _) (Nat.le_refl _) (fun _ q => List.mem_append_right _ q)
  show G_flip22 none l Z n0 a b k y u0 u1 h0 1 4 [b2, a, b] h9 126 #[.val (.ref a), .val (.int (0 : Int32)), .val (.int y), .val (.int (0 : Int32)), .val (.int (2 : Int32)), .val (.long ((-1 : Int64) <<< ((0 : Int32) &&& 0x3f).toInt64)), .second, .val (.long (ushrL (-1 : Int64) (-y))), .second, .val (.int (2 : Int32))] []
  refine Go.aloadN 127 d20_126 rfl rfl rfl ?_
  refine Go.callP (S := []) (a := a) 130 [] d20_127 rfl rfl (w52 hw) (w53 hw) (w55 hw) (w54 hw) (w56 hw) (by decide) E9 (call_of_go (R := _) (len := 3) (W := 0) (plainFor_of_name pn_0) (fun mid => ef_ci mid a ) (c_ci hw a SA) (w56 hw) (w16 hw) (by decide) (by decide)) (lenOf pd_2 rfl) (Nat.le_of_ble_eq_true rfl) rfl (Nat.le_of_ble_eq_true rfl) (Nat.le_of_ble_eq_true rfl) (fun _ q => nomatch q) (fun v h_26 sf_27 hq => ?_)
  obtain ⟨rfl, rfl⟩ := hq
  refine Go.more (sf' := [b2, a, b]) ?_ (Nat.le_refl _) (Nat.le_refl _) (fun _ q => List.mem_append_right _ q)
  show G_flip22 none l Z n0 a b k y u0 u1 h0 1 4 [b2, a, b] h9 130 #[.val (.ref a), .val (.int (0 : Int32)), .val (.int y), .val (.int (0 : Int32)), .val (.int (2 : Int32)), .val (.long ((-1 : Int64) <<< ((0 : Int32) &&& 0x3f).toInt64)), .second, .val (.long (ushrL (-1 : Int64) (-y))), .second, .val (.int (2 : Int32))] []
  exact Go.ret0 d20_130 rfl (sf' := []) (⟨rfl, ((((((Keep.refl h0 [a, b]).trans K2 (allS (Or.inl (List.mem_of_getElem? (i := 0) rfl)) all0)).wr W_9 (Or.inr le2)).wr W_14 (Or.inr le2)).wr W_19 (Or.inr le2)).trans K9 (allS (Or.inl (List.mem_of_getElem? (i := 0) rfl)) all0))⟩) (fun _ q => nomatch q) (Nat.le_of_ble_eq_true rfl) (Nat.le_of_ble_eq_true rfl)
abbrev G_law (l : Launch) (Z : State) (n0 : Nat) := Go none l Z n0 room_1 code maxLocals ret "com/example/petrel/petrel/ConstantTablePinLaw" "law" (fun v _ _ => v = some (.int 1))
theorem ef_law (m : MethodId) (p0 : Int32) (p1 : Int32) (p2 : Int32) : entryFrame m #[(.int p0), (.int p1), (.int p2)] maxLocals = mkF m 0 #[.val (.int p0), .val (.int p1), .val (.int p2), .unset, .unset, .unset, .unset, .unset, .unset, .unset, .unset, .unset, .unset] [] := by first | (simp [entryFrame, mkF, argsToLocals, Value.category, maxLocals]; done) | rfl
set_option maxRecDepth 65536 in
set_option maxHeartbeats 40000000 in
theorem law_go {l : Launch} {Z : State} {n0 : Nat} {a0 : Array Value} (hw : HW a0 Z) (p0 : Int32) (p1 : Int32) (p2 : Int32) (SA : Sta Z Z.heap "java/util/BitSet" "$assertionsDisabled" "Z" (.int 1)) {h0 : Heap} : G_law l Z n0 0 0 [] h0 0 #[.val (.int p0), .val (.int p1), .val (.int p2), .unset, .unset, .unset, .unset, .unset, .unset, .unset, .unset, .unset, .unset] [] := by
  have tl010 : ∀ (n vc : Int32) (nn : Nat) (H : VC1 (0 : Int32) n vc nn), G_law l Z n0 0 0 [] h0 24 #[.val (.int p0), .val (.int p1), .val (.int p2), .val (.int (0 : Int32)), .val (.int n), .val (.int vc), .unset, .unset, .unset, .unset, .unset, .unset, .unset] [] := by
    intro n vc nn H
    refine Go.new 27 at_24 rfl (w0 hw) (w1 hw) (w2 hw) (Nat.le_of_ble_eq_true rfl) (Nat.le_of_ble_eq_true rfl) (fun h_1 x_2 g_3 q_4 E_5 lt_6 A_7 D_8 => ?_)
    show G_law l Z n0 1 3 [x_2] h_1 27 #[.val (.int p0), .val (.int p1), .val (.int p2), .val (.int (0 : Int32)), .val (.int n), .val (.int vc), .unset, .unset, .unset, .unset, .unset, .unset, .unset] [(.ref x_2)]
    refine Go.dup 28 at_27 rfl rfl ?_
    refine Go.iload 30 at_28 rfl rfl ?_
    refine Go.aconstNull 31 at_30 rfl ?_
    refine Go.callC (S := [(.ref x_2)]) (a := x_2) 34 [(.int n), .null] at_31 rfl rfl rfl (w3 hw) (w4 hw) (w5 hw) (by decide) (call_of_go (R := _) (len := 3) (W := 1) (plainFor_of_name pn_3) (fun mid => ef_tabinit mid x_2 n vc nn 1 ) (c_tabinit hw x_2 n vc nn 1 A_7 q_4 (D_8 (Or.inr (w10 hw)) (ty := .int) (by decide)) H.hn H.hn7 H.hvc H.hv0 H.hv1 H.hm (by decide) H.hj SA) (w5 hw) (w2 hw) (by decide) (by decide)) (lenOf pd_10 rfl) (Nat.le_of_ble_eq_true rfl) rfl (Nat.le_of_ble_eq_true rfl) (Nat.le_of_ble_eq_true rfl) (fun _ q => q) (fun v ht sf_9 hq => ?_)
    obtain ⟨rfl, Kt, Et, Ft⟩ := hq
    refine Go.more (sf' := [x_2]) ?_ (Nat.le_refl _) (Nat.le_refl _) (fun _ q => List.mem_append_right _ q)
    show G_law l Z n0 16 45 [x_2] ht 34 #[.val (.int p0), .val (.int p1), .val (.int p2), .val (.int (0 : Int32)), .val (.int n), .val (.int vc), .unset, .unset, .unset, .unset, .unset, .unset, .unset] [(.ref x_2)]
    refine Go.astore 36 #[.val (.int p0), .val (.int p1), .val (.int p2), .val (.int (0 : Int32)), .val (.int n), .val (.int vc), .val (.ref x_2), .unset, .unset, .unset, .unset, .unset, .unset] at_34 rfl rfl rfl ?_
    refine Go.new 39 at_36 rfl (w60 hw) (w61 hw) (w62 hw) (Nat.le_of_ble_eq_true rfl) (Nat.le_of_ble_eq_true rfl) (fun h_10 x_11 g_12 q_13 E_14 lt_15 A_16 D_17 => ?_)
    show G_law l Z n0 17 46 [x_11, x_2] h_10 39 #[.val (.int p0), .val (.int p1), .val (.int p2), .val (.int (0 : Int32)), .val (.int n), .val (.int vc), .val (.ref x_2), .unset, .unset, .unset, .unset, .unset, .unset] [(.ref x_11)]
    refine Go.dup 40 at_39 rfl rfl ?_
    refine Go.iloadN 41 at_40 rfl rfl ?_
    refine Go.callC (S := [(.ref x_11)]) (a := x_11) 44 [(.int (0 : Int32))] at_41 rfl rfl rfl (w63 hw) (w64 hw) (w65 hw) (by decide) (call_of_go (R := _) (len := 3) (W := 1) (plainFor_of_name pn_4) (fun mid => ef_con0 mid x_11 ) (c_con0 hw x_11 A_16 q_13 (D_17 (Or.inr (w73 hw)) (ty := .boolean) (by decide))) (w65 hw) (w62 hw) (by decide) (by decide)) (lenOf pd_11 rfl) (Nat.le_of_ble_eq_true rfl) rfl (Nat.le_of_ble_eq_true rfl) (Nat.le_of_ble_eq_true rfl) (sub1 (List.mem_of_getElem? (i := 0) rfl)) (fun v hc sf_18 hq => ?_)
    obtain ⟨rfl, Kc, Ec, Fc⟩ := hq
    refine Go.more (sf' := [x_11, x_2]) ?_ (Nat.le_refl _) (Nat.le_refl _) (fun _ q => List.mem_append_right _ q)
    show G_law l Z n0 17 46 [x_11, x_2] hc 44 #[.val (.int p0), .val (.int p1), .val (.int p2), .val (.int (0 : Int32)), .val (.int n), .val (.int vc), .val (.ref x_2), .unset, .unset, .unset, .unset, .unset, .unset] [(.ref x_11)]
    refine Go.astore 46 #[.val (.int p0), .val (.int p1), .val (.int p2), .val (.int (0 : Int32)), .val (.int n), .val (.int vc), .val (.ref x_2), .val (.ref x_11), .unset, .unset, .unset, .unset, .unset] at_44 rfl rfl rfl ?_
    refine Go.iloadN 47 at_46 rfl rfl ?_
    refine Go.ifY 55 at_47 (by decide) (by decide) (teq (by decide)).1 ?_
    refine Go.iconst 56 (0 : Int32) at_55 rfl rfl ?_
    refine Go.istore 58 #[.val (.int p0), .val (.int p1), .val (.int p2), .val (.int (0 : Int32)), .val (.int n), .val (.int vc), .val (.ref x_2), .val (.ref x_11), .val (.int (0 : Int32)), .unset, .unset, .unset, .unset] at_56 rfl rfl ?_
    refine Go.iloadN 59 at_58 rfl rfl ?_
    refine Go.ldcI 61 at_59 rfl (w74 hw) ?_
    refine Go.iand 62 at_61 rfl ?_
    refine Go.iload 64 at_62 rfl rfl ?_
    refine Go.iconst 65 (2 : Int32) at_64 rfl rfl ?_
    refine Go.iadd 66 at_65 rfl ?_
    refine Go.irem 67 at_66 rfl (fun q => H.gyn q.symm) ?_
    obtain ⟨p, e_p⟩ : ∃ y_ : Int32, y_ = ((p2 &&& (2147483647 : Int32)) % (vc + (2 : Int32))) := ⟨_, rfl⟩
    have b_p : 0 ≤ p.toInt ∧ p.toInt < (vc + (2 : Int32)).toInt := by rw [e_p]; exact (fun q => ⟨q.1, q.2.1⟩) ((c_iremV (p2 &&& (2147483647 : Int32)) (vc + (2 : Int32))).1 (c_and p2 2147483647 (by decide)).1 H.hp)
    rw [← e_p]
    show G_law l Z n0 17 46 [x_11, x_2] hc 67 #[.val (.int p0), .val (.int p1), .val (.int p2), .val (.int (0 : Int32)), .val (.int n), .val (.int vc), .val (.ref x_2), .val (.ref x_11), .val (.int (0 : Int32)), .unset, .unset, .unset, .unset] [(.int p)]
    refine Go.istore 69 #[.val (.int p0), .val (.int p1), .val (.int p2), .val (.int (0 : Int32)), .val (.int n), .val (.int vc), .val (.ref x_2), .val (.ref x_11), .val (.int (0 : Int32)), .val (.int p), .unset, .unset, .unset] at_67 rfl rfl ?_
    refine Go.iloadN 70 at_69 rfl rfl ?_
    refine Go.ifY 84 at_70 (by decide) (by decide) (teq (by decide)).1 ?_
    refine Go.iconst 85 (0 : Int32) at_84 rfl rfl ?_
    refine Go.istore 87 #[.val (.int p0), .val (.int p1), .val (.int p2), .val (.int (0 : Int32)), .val (.int n), .val (.int vc), .val (.ref x_2), .val (.ref x_11), .val (.int (0 : Int32)), .val (.int p), .val (.int (0 : Int32)), .unset, .unset] at_85 rfl rfl ?_
    refine Go.aload 89 at_87 rfl rfl rfl ?_
    refine Go.aload 91 at_89 rfl rfl rfl ?_
    have X_19 : Ext ht hc := extK E_14 Kc (allS (Nat.le_of_eq g_12) all0)
    have f_20 := Ft.ext X_19
    refine Go.callV (S := []) (a := x_11) 94 [(.ref x_2)] at_91 rfl rfl (w75 hw) (w76 hw) (w78 hw) (w77 hw) (fun _ q => notFace_of_selects (args := #[]) (mvT q (w78 hw))) (by decide) Ec (call_of_go (R := _) (len := 3) (W := 0) (plainFor_of_name pn_4) (fun mid => ef_tab10 mid x_11 x_2 vc ) (c_tab10 hw x_11 x_2 vc Fc f_20 H.hy H.hyn H.he H.hm SA) (w79 hw) (w62 hw) (by decide) (by decide)) (lenOf pd_12 rfl) (Nat.le_of_ble_eq_true rfl) rfl (Nat.le_of_ble_eq_true rfl) (Nat.le_of_ble_eq_true rfl) (fun _ q => nomatch q) (fun v h_21 sf_34 hq => ?_)
    obtain ⟨x_22, b_23, rfl, E_24, le_25, le_26, n_27, n_28, ne_29, A_30, G_31, G_32, A_33⟩ := hq
    refine Go.more (sf' := [x_11, x_2]) ?_ (Nat.le_refl _) (Nat.le_refl _) (fun _ q => List.mem_append_right _ q)
    show G_law l Z n0 19 51 [x_11, x_2] h_21 94 #[.val (.int p0), .val (.int p1), .val (.int p2), .val (.int (0 : Int32)), .val (.int n), .val (.int vc), .val (.ref x_2), .val (.ref x_11), .val (.int (0 : Int32)), .val (.int p), .val (.int (0 : Int32)), .unset, .unset] [(.ref x_22)]
    refine Go.astore 96 #[.val (.int p0), .val (.int p1), .val (.int p2), .val (.int (0 : Int32)), .val (.int n), .val (.int vc), .val (.ref x_2), .val (.ref x_11), .val (.int (0 : Int32)), .val (.int p), .val (.int (0 : Int32)), .val (.ref x_22), .unset] at_94 rfl rfl rfl ?_
    refine Go.aload 98 at_96 rfl rfl rfl ?_
    refine Go.iload 100 at_98 rfl rfl ?_
    refine Go.iload 102 at_100 rfl rfl ?_
    refine Go.iload 104 at_102 rfl rfl ?_
    refine Go.callS (S := []) 107 [(.ref x_22), (.int (0 : Int32)), (.int p), (.int (0 : Int32))] at_104 rfl rfl (w96 hw) (w97 hw) (w98 hw) (w99 hw) (by decide) (call_of_go (R := _) (len := 3) (W := 0) (plainFor_of_name pn_5) (fun mid => ef_exact0 mid x_22 (0 : Int32) p (0 : Int32) ) (c_exact0 hw x_22 (0 : Int32) p (0 : Int32) G_32 A_30 (not_neg b_p.1) (H.hs p b_p.1 b_p.2) SA rfl rfl rfl) (w99 hw) (w98 hw) (by decide) (by decide)) (lenOf pd_13 rfl) (Nat.le_of_ble_eq_true rfl) rfl (Nat.le_of_ble_eq_true rfl) (Nat.le_of_ble_eq_true rfl) (fun _ q => nomatch q) (fun v h_35 sf_36 hq => ?_)
    obtain ⟨rfl, rfl⟩ := hq
    refine Go.more (sf' := [x_11, x_2]) ?_ (Nat.le_refl _) (Nat.le_refl _) (fun _ q => List.mem_append_right _ q)
    show G_law l Z n0 19 51 [x_11, x_2] h_21 107 #[.val (.int p0), .val (.int p1), .val (.int p2), .val (.int (0 : Int32)), .val (.int n), .val (.int vc), .val (.ref x_2), .val (.ref x_11), .val (.int (0 : Int32)), .val (.int p), .val (.int (0 : Int32)), .val (.ref x_22), .unset] [(.int (1 : Int32))]
    refine Go.ifY 112 at_107 (by decide) (by decide) (feq (by decide)).2 ?_
    refine Go.aload 114 at_112 rfl rfl rfl ?_
    refine Go.iconst 115 (0 : Int32) at_114 rfl rfl ?_
    refine Go.iload 117 at_115 rfl rfl ?_
    refine Go.iconst 118 (2 : Int32) at_117 rfl rfl ?_
    refine Go.iadd 119 at_118 rfl ?_
    refine Go.sfN [x_22, b_23, x_11, x_2] ?_
    refine Go.callV (S := []) (a := x_22) 122 [(.int (0 : Int32)), (.int (vc + (2 : Int32)))] at_119 rfl rfl (w115 hw) (w116 hw) (w118 hw) (w117 hw) (fun _ q => notFace_of_selects (args := #[]) (mvT q (w118 hw))) (by decide) A_30 (call_of_go (R := _) (len := 3) (W := 0) (plainFor_of_name pn_0) (fun mid => ef_flip10 mid x_22 b_23 (0 : Int32) (vc + (2 : Int32)) (0 : Int64) ) (c_flip10 hw x_22 b_23 (0 : Int32) (vc + (2 : Int32)) (0 : Int64) A_30 n_27 ne_29 G_31 G_32 A_33 n_28 (by decide) H.gy H.gyn H.ge SA) (w119 hw) (w16 hw) (by decide) (by decide)) (lenOf pd_3 rfl) (Nat.le_of_ble_eq_true rfl) rfl (Nat.le_of_ble_eq_true rfl) (Nat.le_of_ble_eq_true rfl) (allS (List.mem_of_getElem? (i := 0) rfl) (allS (List.mem_of_getElem? (i := 1) rfl) all0)) (fun v h_37 sf_39 hq => ?_)
    obtain ⟨rfl, K_38⟩ := hq
    refine Go.more (sf' := [x_22, b_23, x_11, x_2]) ?_ (Nat.le_refl _) (Nat.le_refl _) (fun _ q => List.mem_append_right _ q)
    show G_law l Z n0 19 51 [x_22, b_23, x_11, x_2] h_37 122 #[.val (.int p0), .val (.int p1), .val (.int p2), .val (.int (0 : Int32)), .val (.int n), .val (.int vc), .val (.ref x_2), .val (.ref x_11), .val (.int (0 : Int32)), .val (.int p), .val (.int (0 : Int32)), .val (.ref x_22), .unset] []
    refine Go.aload 124 at_122 rfl rfl rfl ?_
    refine Go.aload 126 at_124 rfl rfl rfl ?_
    have X_40 : Ext hc h_37 := extK E_24 K_38 (allS le_25 (allS le_26 all0))
    have f_41 := Fc.ext X_40
    have f_42 := f_20.ext X_40
    have f_57 := Ec.ext X_40
    refine Go.callV (S := []) (a := x_11) 129 [(.ref x_2)] at_126 rfl rfl (w75 hw) (w76 hw) (w78 hw) (w77 hw) (fun _ q => notFace_of_selects (args := #[]) (mvT q (w78 hw))) (by decide) f_57 (call_of_go (R := _) (len := 3) (W := 0) (plainFor_of_name pn_4) (fun mid => ef_tab10 mid x_11 x_2 vc ) (c_tab10 hw x_11 x_2 vc f_41 f_42 H.hy H.hyn H.he H.hm SA) (w79 hw) (w62 hw) (by decide) (by decide)) (lenOf pd_12 rfl) (Nat.le_of_ble_eq_true rfl) rfl (Nat.le_of_ble_eq_true rfl) (Nat.le_of_ble_eq_true rfl) (fun _ q => nomatch q) (fun v h_43 sf_56 hq => ?_)
    obtain ⟨x_44, b_45, rfl, E_46, le_47, le_48, n_49, n_50, ne_51, A_52, G_53, G_54, A_55⟩ := hq
    refine Go.more (sf' := [x_22, b_23, x_11, x_2]) ?_ (Nat.le_refl _) (Nat.le_refl _) (fun _ q => List.mem_append_right _ q)
    show G_law l Z n0 21 56 [x_22, b_23, x_11, x_2] h_43 129 #[.val (.int p0), .val (.int p1), .val (.int p2), .val (.int (0 : Int32)), .val (.int n), .val (.int vc), .val (.ref x_2), .val (.ref x_11), .val (.int (0 : Int32)), .val (.int p), .val (.int (0 : Int32)), .val (.ref x_22), .unset] [(.ref x_44)]
    refine Go.astore 131 #[.val (.int p0), .val (.int p1), .val (.int p2), .val (.int (0 : Int32)), .val (.int n), .val (.int vc), .val (.ref x_2), .val (.ref x_11), .val (.int (0 : Int32)), .val (.int p), .val (.int (0 : Int32)), .val (.ref x_22), .val (.ref x_44)] at_129 rfl rfl rfl ?_
    refine Go.aload 133 at_131 rfl rfl rfl ?_
    refine Go.iload 135 at_133 rfl rfl ?_
    refine Go.iload 137 at_135 rfl rfl ?_
    refine Go.iload 139 at_137 rfl rfl ?_
    refine Go.callS (S := []) 142 [(.ref x_44), (.int (0 : Int32)), (.int p), (.int (0 : Int32))] at_139 rfl rfl (w96 hw) (w97 hw) (w98 hw) (w99 hw) (by decide) (call_of_go (R := _) (len := 3) (W := 0) (plainFor_of_name pn_5) (fun mid => ef_exact0 mid x_44 (0 : Int32) p (0 : Int32) ) (c_exact0 hw x_44 (0 : Int32) p (0 : Int32) G_54 A_52 (not_neg b_p.1) (H.hs p b_p.1 b_p.2) SA rfl rfl rfl) (w99 hw) (w98 hw) (by decide) (by decide)) (lenOf pd_13 rfl) (Nat.le_of_ble_eq_true rfl) rfl (Nat.le_of_ble_eq_true rfl) (Nat.le_of_ble_eq_true rfl) (fun _ q => nomatch q) (fun v h_58 sf_59 hq => ?_)
    obtain ⟨rfl, rfl⟩ := hq
    refine Go.more (sf' := [x_22, b_23, x_11, x_2]) ?_ (Nat.le_refl _) (Nat.le_refl _) (fun _ q => List.mem_append_right _ q)
    show G_law l Z n0 21 56 [x_22, b_23, x_11, x_2] h_43 142 #[.val (.int p0), .val (.int p1), .val (.int p2), .val (.int (0 : Int32)), .val (.int n), .val (.int vc), .val (.ref x_2), .val (.ref x_11), .val (.int (0 : Int32)), .val (.int p), .val (.int (0 : Int32)), .val (.ref x_22), .val (.ref x_44)] [(.int (1 : Int32))]
    exact Go.retN (1 : Int32) at_142 rfl (t := .boolean) (by simp) rfl (sf' := []) (rfl) (fun _ q => nomatch q) (Nat.le_of_ble_eq_true rfl) (Nat.le_of_ble_eq_true rfl)
  have tl011 : ∀ (n vc : Int32) (nn : Nat) (H : VC1 (1 : Int32) n vc nn), G_law l Z n0 0 0 [] h0 24 #[.val (.int p0), .val (.int p1), .val (.int p2), .val (.int (0 : Int32)), .val (.int n), .val (.int vc), .unset, .unset, .unset, .unset, .unset, .unset, .unset] [] := by
    intro n vc nn H
    refine Go.new 27 at_24 rfl (w0 hw) (w1 hw) (w2 hw) (Nat.le_of_ble_eq_true rfl) (Nat.le_of_ble_eq_true rfl) (fun h_60 x_61 g_62 q_63 E_64 lt_65 A_66 D_67 => ?_)
    show G_law l Z n0 1 3 [x_61] h_60 27 #[.val (.int p0), .val (.int p1), .val (.int p2), .val (.int (0 : Int32)), .val (.int n), .val (.int vc), .unset, .unset, .unset, .unset, .unset, .unset, .unset] [(.ref x_61)]
    refine Go.dup 28 at_27 rfl rfl ?_
    refine Go.iload 30 at_28 rfl rfl ?_
    refine Go.aconstNull 31 at_30 rfl ?_
    refine Go.callC (S := [(.ref x_61)]) (a := x_61) 34 [(.int n), .null] at_31 rfl rfl rfl (w3 hw) (w4 hw) (w5 hw) (by decide) (call_of_go (R := _) (len := 3) (W := 1) (plainFor_of_name pn_3) (fun mid => ef_tabinit mid x_61 n vc nn 1 ) (c_tabinit hw x_61 n vc nn 1 A_66 q_63 (D_67 (Or.inr (w10 hw)) (ty := .int) (by decide)) H.hn H.hn7 H.hvc H.hv0 H.hv1 H.hm (by decide) H.hj SA) (w5 hw) (w2 hw) (by decide) (by decide)) (lenOf pd_10 rfl) (Nat.le_of_ble_eq_true rfl) rfl (Nat.le_of_ble_eq_true rfl) (Nat.le_of_ble_eq_true rfl) (fun _ q => q) (fun v ht sf_68 hq => ?_)
    obtain ⟨rfl, Kt, Et, Ft⟩ := hq
    refine Go.more (sf' := [x_61]) ?_ (Nat.le_refl _) (Nat.le_refl _) (fun _ q => List.mem_append_right _ q)
    show G_law l Z n0 16 45 [x_61] ht 34 #[.val (.int p0), .val (.int p1), .val (.int p2), .val (.int (0 : Int32)), .val (.int n), .val (.int vc), .unset, .unset, .unset, .unset, .unset, .unset, .unset] [(.ref x_61)]
    refine Go.astore 36 #[.val (.int p0), .val (.int p1), .val (.int p2), .val (.int (0 : Int32)), .val (.int n), .val (.int vc), .val (.ref x_61), .unset, .unset, .unset, .unset, .unset, .unset] at_34 rfl rfl rfl ?_
    refine Go.new 39 at_36 rfl (w60 hw) (w61 hw) (w62 hw) (Nat.le_of_ble_eq_true rfl) (Nat.le_of_ble_eq_true rfl) (fun h_69 x_70 g_71 q_72 E_73 lt_74 A_75 D_76 => ?_)
    show G_law l Z n0 17 46 [x_70, x_61] h_69 39 #[.val (.int p0), .val (.int p1), .val (.int p2), .val (.int (0 : Int32)), .val (.int n), .val (.int vc), .val (.ref x_61), .unset, .unset, .unset, .unset, .unset, .unset] [(.ref x_70)]
    refine Go.dup 40 at_39 rfl rfl ?_
    refine Go.iloadN 41 at_40 rfl rfl ?_
    refine Go.callC (S := [(.ref x_70)]) (a := x_70) 44 [(.int (0 : Int32))] at_41 rfl rfl rfl (w63 hw) (w64 hw) (w65 hw) (by decide) (call_of_go (R := _) (len := 3) (W := 1) (plainFor_of_name pn_4) (fun mid => ef_con0 mid x_70 ) (c_con0 hw x_70 A_75 q_72 (D_76 (Or.inr (w73 hw)) (ty := .boolean) (by decide))) (w65 hw) (w62 hw) (by decide) (by decide)) (lenOf pd_11 rfl) (Nat.le_of_ble_eq_true rfl) rfl (Nat.le_of_ble_eq_true rfl) (Nat.le_of_ble_eq_true rfl) (sub1 (List.mem_of_getElem? (i := 0) rfl)) (fun v hc sf_77 hq => ?_)
    obtain ⟨rfl, Kc, Ec, Fc⟩ := hq
    refine Go.more (sf' := [x_70, x_61]) ?_ (Nat.le_refl _) (Nat.le_refl _) (fun _ q => List.mem_append_right _ q)
    show G_law l Z n0 17 46 [x_70, x_61] hc 44 #[.val (.int p0), .val (.int p1), .val (.int p2), .val (.int (0 : Int32)), .val (.int n), .val (.int vc), .val (.ref x_61), .unset, .unset, .unset, .unset, .unset, .unset] [(.ref x_70)]
    refine Go.astore 46 #[.val (.int p0), .val (.int p1), .val (.int p2), .val (.int (0 : Int32)), .val (.int n), .val (.int vc), .val (.ref x_61), .val (.ref x_70), .unset, .unset, .unset, .unset, .unset] at_44 rfl rfl rfl ?_
    refine Go.iloadN 47 at_46 rfl rfl ?_
    refine Go.ifY 55 at_47 (by decide) (by decide) (teq (by decide)).1 ?_
    refine Go.iconst 56 (0 : Int32) at_55 rfl rfl ?_
    refine Go.istore 58 #[.val (.int p0), .val (.int p1), .val (.int p2), .val (.int (0 : Int32)), .val (.int n), .val (.int vc), .val (.ref x_61), .val (.ref x_70), .val (.int (0 : Int32)), .unset, .unset, .unset, .unset] at_56 rfl rfl ?_
    refine Go.iloadN 59 at_58 rfl rfl ?_
    refine Go.ldcI 61 at_59 rfl (w74 hw) ?_
    refine Go.iand 62 at_61 rfl ?_
    refine Go.iload 64 at_62 rfl rfl ?_
    refine Go.iconst 65 (2 : Int32) at_64 rfl rfl ?_
    refine Go.iadd 66 at_65 rfl ?_
    refine Go.irem 67 at_66 rfl (fun q => H.gyn q.symm) ?_
    obtain ⟨p, e_p⟩ : ∃ y_ : Int32, y_ = ((p2 &&& (2147483647 : Int32)) % (vc + (2 : Int32))) := ⟨_, rfl⟩
    have b_p : 0 ≤ p.toInt ∧ p.toInt < (vc + (2 : Int32)).toInt := by rw [e_p]; exact (fun q => ⟨q.1, q.2.1⟩) ((c_iremV (p2 &&& (2147483647 : Int32)) (vc + (2 : Int32))).1 (c_and p2 2147483647 (by decide)).1 H.hp)
    rw [← e_p]
    show G_law l Z n0 17 46 [x_70, x_61] hc 67 #[.val (.int p0), .val (.int p1), .val (.int p2), .val (.int (0 : Int32)), .val (.int n), .val (.int vc), .val (.ref x_61), .val (.ref x_70), .val (.int (0 : Int32)), .unset, .unset, .unset, .unset] [(.int p)]
    refine Go.istore 69 #[.val (.int p0), .val (.int p1), .val (.int p2), .val (.int (0 : Int32)), .val (.int n), .val (.int vc), .val (.ref x_61), .val (.ref x_70), .val (.int (0 : Int32)), .val (.int p), .unset, .unset, .unset] at_67 rfl rfl ?_
    refine Go.iloadN 70 at_69 rfl rfl ?_
    refine Go.ifY 84 at_70 (by decide) (by decide) (teq (by decide)).1 ?_
    refine Go.iconst 85 (0 : Int32) at_84 rfl rfl ?_
    refine Go.istore 87 #[.val (.int p0), .val (.int p1), .val (.int p2), .val (.int (0 : Int32)), .val (.int n), .val (.int vc), .val (.ref x_61), .val (.ref x_70), .val (.int (0 : Int32)), .val (.int p), .val (.int (0 : Int32)), .unset, .unset] at_85 rfl rfl ?_
    refine Go.aload 89 at_87 rfl rfl rfl ?_
    refine Go.aload 91 at_89 rfl rfl rfl ?_
    have X_78 : Ext ht hc := extK E_73 Kc (allS (Nat.le_of_eq g_71) all0)
    have f_79 := Ft.ext X_78
    refine Go.callV (S := []) (a := x_70) 94 [(.ref x_61)] at_91 rfl rfl (w75 hw) (w76 hw) (w78 hw) (w77 hw) (fun _ q => notFace_of_selects (args := #[]) (mvT q (w78 hw))) (by decide) Ec (call_of_go (R := _) (len := 3) (W := 0) (plainFor_of_name pn_4) (fun mid => ef_tab10 mid x_70 x_61 vc ) (c_tab10 hw x_70 x_61 vc Fc f_79 H.hy H.hyn H.he H.hm SA) (w79 hw) (w62 hw) (by decide) (by decide)) (lenOf pd_12 rfl) (Nat.le_of_ble_eq_true rfl) rfl (Nat.le_of_ble_eq_true rfl) (Nat.le_of_ble_eq_true rfl) (fun _ q => nomatch q) (fun v h_80 sf_93 hq => ?_)
    obtain ⟨x_81, b_82, rfl, E_83, le_84, le_85, n_86, n_87, ne_88, A_89, G_90, G_91, A_92⟩ := hq
    refine Go.more (sf' := [x_70, x_61]) ?_ (Nat.le_refl _) (Nat.le_refl _) (fun _ q => List.mem_append_right _ q)
    show G_law l Z n0 19 51 [x_70, x_61] h_80 94 #[.val (.int p0), .val (.int p1), .val (.int p2), .val (.int (0 : Int32)), .val (.int n), .val (.int vc), .val (.ref x_61), .val (.ref x_70), .val (.int (0 : Int32)), .val (.int p), .val (.int (0 : Int32)), .unset, .unset] [(.ref x_81)]
    refine Go.astore 96 #[.val (.int p0), .val (.int p1), .val (.int p2), .val (.int (0 : Int32)), .val (.int n), .val (.int vc), .val (.ref x_61), .val (.ref x_70), .val (.int (0 : Int32)), .val (.int p), .val (.int (0 : Int32)), .val (.ref x_81), .unset] at_94 rfl rfl rfl ?_
    refine Go.aload 98 at_96 rfl rfl rfl ?_
    refine Go.iload 100 at_98 rfl rfl ?_
    refine Go.iload 102 at_100 rfl rfl ?_
    refine Go.iload 104 at_102 rfl rfl ?_
    refine Go.callS (S := []) 107 [(.ref x_81), (.int (0 : Int32)), (.int p), (.int (0 : Int32))] at_104 rfl rfl (w96 hw) (w97 hw) (w98 hw) (w99 hw) (by decide) (call_of_go (R := _) (len := 3) (W := 0) (plainFor_of_name pn_5) (fun mid => ef_exact0 mid x_81 (0 : Int32) p (0 : Int32) ) (c_exact0 hw x_81 (0 : Int32) p (0 : Int32) G_91 A_89 (not_neg b_p.1) (H.hs p b_p.1 b_p.2) SA rfl rfl rfl) (w99 hw) (w98 hw) (by decide) (by decide)) (lenOf pd_13 rfl) (Nat.le_of_ble_eq_true rfl) rfl (Nat.le_of_ble_eq_true rfl) (Nat.le_of_ble_eq_true rfl) (fun _ q => nomatch q) (fun v h_94 sf_95 hq => ?_)
    obtain ⟨rfl, rfl⟩ := hq
    refine Go.more (sf' := [x_70, x_61]) ?_ (Nat.le_refl _) (Nat.le_refl _) (fun _ q => List.mem_append_right _ q)
    show G_law l Z n0 19 51 [x_70, x_61] h_80 107 #[.val (.int p0), .val (.int p1), .val (.int p2), .val (.int (0 : Int32)), .val (.int n), .val (.int vc), .val (.ref x_61), .val (.ref x_70), .val (.int (0 : Int32)), .val (.int p), .val (.int (0 : Int32)), .val (.ref x_81), .unset] [(.int (1 : Int32))]
    refine Go.ifY 112 at_107 (by decide) (by decide) (feq (by decide)).2 ?_
    refine Go.aload 114 at_112 rfl rfl rfl ?_
    refine Go.iconst 115 (0 : Int32) at_114 rfl rfl ?_
    refine Go.iload 117 at_115 rfl rfl ?_
    refine Go.iconst 118 (2 : Int32) at_117 rfl rfl ?_
    refine Go.iadd 119 at_118 rfl ?_
    refine Go.sfN [x_81, b_82, x_70, x_61] ?_
    refine Go.callV (S := []) (a := x_81) 122 [(.int (0 : Int32)), (.int (vc + (2 : Int32)))] at_119 rfl rfl (w115 hw) (w116 hw) (w118 hw) (w117 hw) (fun _ q => notFace_of_selects (args := #[]) (mvT q (w118 hw))) (by decide) A_89 (call_of_go (R := _) (len := 3) (W := 0) (plainFor_of_name pn_0) (fun mid => ef_flip11 mid x_81 b_82 (0 : Int32) (vc + (2 : Int32)) (0 : Int64) ) (c_flip11 hw x_81 b_82 (0 : Int32) (vc + (2 : Int32)) (0 : Int64) A_89 n_86 ne_88 G_90 G_91 A_92 n_87 (by decide) H.gy H.gyn H.ge SA) (w119 hw) (w16 hw) (by decide) (by decide)) (lenOf pd_3 rfl) (Nat.le_of_ble_eq_true rfl) rfl (Nat.le_of_ble_eq_true rfl) (Nat.le_of_ble_eq_true rfl) (allS (List.mem_of_getElem? (i := 0) rfl) (allS (List.mem_of_getElem? (i := 1) rfl) all0)) (fun v h_96 sf_98 hq => ?_)
    obtain ⟨rfl, K_97⟩ := hq
    refine Go.more (sf' := [x_81, b_82, x_70, x_61]) ?_ (Nat.le_refl _) (Nat.le_refl _) (fun _ q => List.mem_append_right _ q)
    show G_law l Z n0 20 53 [x_81, b_82, x_70, x_61] h_96 122 #[.val (.int p0), .val (.int p1), .val (.int p2), .val (.int (0 : Int32)), .val (.int n), .val (.int vc), .val (.ref x_61), .val (.ref x_70), .val (.int (0 : Int32)), .val (.int p), .val (.int (0 : Int32)), .val (.ref x_81), .unset] []
    refine Go.aload 124 at_122 rfl rfl rfl ?_
    refine Go.aload 126 at_124 rfl rfl rfl ?_
    have X_99 : Ext hc h_96 := extK E_83 K_97 (allS le_84 (allS le_85 all0))
    have f_100 := Fc.ext X_99
    have f_101 := f_79.ext X_99
    have f_116 := Ec.ext X_99
    refine Go.callV (S := []) (a := x_70) 129 [(.ref x_61)] at_126 rfl rfl (w75 hw) (w76 hw) (w78 hw) (w77 hw) (fun _ q => notFace_of_selects (args := #[]) (mvT q (w78 hw))) (by decide) f_116 (call_of_go (R := _) (len := 3) (W := 0) (plainFor_of_name pn_4) (fun mid => ef_tab10 mid x_70 x_61 vc ) (c_tab10 hw x_70 x_61 vc f_100 f_101 H.hy H.hyn H.he H.hm SA) (w79 hw) (w62 hw) (by decide) (by decide)) (lenOf pd_12 rfl) (Nat.le_of_ble_eq_true rfl) rfl (Nat.le_of_ble_eq_true rfl) (Nat.le_of_ble_eq_true rfl) (fun _ q => nomatch q) (fun v h_102 sf_115 hq => ?_)
    obtain ⟨x_103, b_104, rfl, E_105, le_106, le_107, n_108, n_109, ne_110, A_111, G_112, G_113, A_114⟩ := hq
    refine Go.more (sf' := [x_81, b_82, x_70, x_61]) ?_ (Nat.le_refl _) (Nat.le_refl _) (fun _ q => List.mem_append_right _ q)
    show G_law l Z n0 22 58 [x_81, b_82, x_70, x_61] h_102 129 #[.val (.int p0), .val (.int p1), .val (.int p2), .val (.int (0 : Int32)), .val (.int n), .val (.int vc), .val (.ref x_61), .val (.ref x_70), .val (.int (0 : Int32)), .val (.int p), .val (.int (0 : Int32)), .val (.ref x_81), .unset] [(.ref x_103)]
    refine Go.astore 131 #[.val (.int p0), .val (.int p1), .val (.int p2), .val (.int (0 : Int32)), .val (.int n), .val (.int vc), .val (.ref x_61), .val (.ref x_70), .val (.int (0 : Int32)), .val (.int p), .val (.int (0 : Int32)), .val (.ref x_81), .val (.ref x_103)] at_129 rfl rfl rfl ?_
    refine Go.aload 133 at_131 rfl rfl rfl ?_
    refine Go.iload 135 at_133 rfl rfl ?_
    refine Go.iload 137 at_135 rfl rfl ?_
    refine Go.iload 139 at_137 rfl rfl ?_
    refine Go.callS (S := []) 142 [(.ref x_103), (.int (0 : Int32)), (.int p), (.int (0 : Int32))] at_139 rfl rfl (w96 hw) (w97 hw) (w98 hw) (w99 hw) (by decide) (call_of_go (R := _) (len := 3) (W := 0) (plainFor_of_name pn_5) (fun mid => ef_exact0 mid x_103 (0 : Int32) p (0 : Int32) ) (c_exact0 hw x_103 (0 : Int32) p (0 : Int32) G_113 A_111 (not_neg b_p.1) (H.hs p b_p.1 b_p.2) SA rfl rfl rfl) (w99 hw) (w98 hw) (by decide) (by decide)) (lenOf pd_13 rfl) (Nat.le_of_ble_eq_true rfl) rfl (Nat.le_of_ble_eq_true rfl) (Nat.le_of_ble_eq_true rfl) (fun _ q => nomatch q) (fun v h_117 sf_118 hq => ?_)
    obtain ⟨rfl, rfl⟩ := hq
    refine Go.more (sf' := [x_81, b_82, x_70, x_61]) ?_ (Nat.le_refl _) (Nat.le_refl _) (fun _ q => List.mem_append_right _ q)
    show G_law l Z n0 22 58 [x_81, b_82, x_70, x_61] h_102 142 #[.val (.int p0), .val (.int p1), .val (.int p2), .val (.int (0 : Int32)), .val (.int n), .val (.int vc), .val (.ref x_61), .val (.ref x_70), .val (.int (0 : Int32)), .val (.int p), .val (.int (0 : Int32)), .val (.ref x_81), .val (.ref x_103)] [(.int (1 : Int32))]
    exact Go.retN (1 : Int32) at_142 rfl (t := .boolean) (by simp) rfl (sf' := []) (rfl) (fun _ q => nomatch q) (Nat.le_of_ble_eq_true rfl) (Nat.le_of_ble_eq_true rfl)
  have tl022 : ∀ (n vc : Int32) (nn : Nat) (H : VC2 (2 : Int32) n vc nn), G_law l Z n0 0 0 [] h0 24 #[.val (.int p0), .val (.int p1), .val (.int p2), .val (.int (0 : Int32)), .val (.int n), .val (.int vc), .unset, .unset, .unset, .unset, .unset, .unset, .unset] [] := by
    intro n vc nn H
    refine Go.new 27 at_24 rfl (w0 hw) (w1 hw) (w2 hw) (Nat.le_of_ble_eq_true rfl) (Nat.le_of_ble_eq_true rfl) (fun h_119 x_120 g_121 q_122 E_123 lt_124 A_125 D_126 => ?_)
    show G_law l Z n0 1 3 [x_120] h_119 27 #[.val (.int p0), .val (.int p1), .val (.int p2), .val (.int (0 : Int32)), .val (.int n), .val (.int vc), .unset, .unset, .unset, .unset, .unset, .unset, .unset] [(.ref x_120)]
    refine Go.dup 28 at_27 rfl rfl ?_
    refine Go.iload 30 at_28 rfl rfl ?_
    refine Go.aconstNull 31 at_30 rfl ?_
    refine Go.callC (S := [(.ref x_120)]) (a := x_120) 34 [(.int n), .null] at_31 rfl rfl rfl (w3 hw) (w4 hw) (w5 hw) (by decide) (call_of_go (R := _) (len := 3) (W := 1) (plainFor_of_name pn_3) (fun mid => ef_tabinit mid x_120 n vc nn 2 ) (c_tabinit hw x_120 n vc nn 2 A_125 q_122 (D_126 (Or.inr (w10 hw)) (ty := .int) (by decide)) H.hn H.hn7 H.hvc H.hv0 H.hv1 H.hm (by decide) H.hj SA) (w5 hw) (w2 hw) (by decide) (by decide)) (lenOf pd_10 rfl) (Nat.le_of_ble_eq_true rfl) rfl (Nat.le_of_ble_eq_true rfl) (Nat.le_of_ble_eq_true rfl) (fun _ q => q) (fun v ht sf_127 hq => ?_)
    obtain ⟨rfl, Kt, Et, Ft⟩ := hq
    refine Go.more (sf' := [x_120]) ?_ (Nat.le_refl _) (Nat.le_refl _) (fun _ q => List.mem_append_right _ q)
    show G_law l Z n0 16 45 [x_120] ht 34 #[.val (.int p0), .val (.int p1), .val (.int p2), .val (.int (0 : Int32)), .val (.int n), .val (.int vc), .unset, .unset, .unset, .unset, .unset, .unset, .unset] [(.ref x_120)]
    refine Go.astore 36 #[.val (.int p0), .val (.int p1), .val (.int p2), .val (.int (0 : Int32)), .val (.int n), .val (.int vc), .val (.ref x_120), .unset, .unset, .unset, .unset, .unset, .unset] at_34 rfl rfl rfl ?_
    refine Go.new 39 at_36 rfl (w60 hw) (w61 hw) (w62 hw) (Nat.le_of_ble_eq_true rfl) (Nat.le_of_ble_eq_true rfl) (fun h_128 x_129 g_130 q_131 E_132 lt_133 A_134 D_135 => ?_)
    show G_law l Z n0 17 46 [x_129, x_120] h_128 39 #[.val (.int p0), .val (.int p1), .val (.int p2), .val (.int (0 : Int32)), .val (.int n), .val (.int vc), .val (.ref x_120), .unset, .unset, .unset, .unset, .unset, .unset] [(.ref x_129)]
    refine Go.dup 40 at_39 rfl rfl ?_
    refine Go.iloadN 41 at_40 rfl rfl ?_
    refine Go.callC (S := [(.ref x_129)]) (a := x_129) 44 [(.int (0 : Int32))] at_41 rfl rfl rfl (w63 hw) (w64 hw) (w65 hw) (by decide) (call_of_go (R := _) (len := 3) (W := 1) (plainFor_of_name pn_4) (fun mid => ef_con0 mid x_129 ) (c_con0 hw x_129 A_134 q_131 (D_135 (Or.inr (w73 hw)) (ty := .boolean) (by decide))) (w65 hw) (w62 hw) (by decide) (by decide)) (lenOf pd_11 rfl) (Nat.le_of_ble_eq_true rfl) rfl (Nat.le_of_ble_eq_true rfl) (Nat.le_of_ble_eq_true rfl) (sub1 (List.mem_of_getElem? (i := 0) rfl)) (fun v hc sf_136 hq => ?_)
    obtain ⟨rfl, Kc, Ec, Fc⟩ := hq
    refine Go.more (sf' := [x_129, x_120]) ?_ (Nat.le_refl _) (Nat.le_refl _) (fun _ q => List.mem_append_right _ q)
    show G_law l Z n0 17 46 [x_129, x_120] hc 44 #[.val (.int p0), .val (.int p1), .val (.int p2), .val (.int (0 : Int32)), .val (.int n), .val (.int vc), .val (.ref x_120), .unset, .unset, .unset, .unset, .unset, .unset] [(.ref x_129)]
    refine Go.astore 46 #[.val (.int p0), .val (.int p1), .val (.int p2), .val (.int (0 : Int32)), .val (.int n), .val (.int vc), .val (.ref x_120), .val (.ref x_129), .unset, .unset, .unset, .unset, .unset] at_44 rfl rfl rfl ?_
    refine Go.iloadN 47 at_46 rfl rfl ?_
    refine Go.ifY 55 at_47 (by decide) (by decide) (teq (by decide)).1 ?_
    refine Go.iconst 56 (0 : Int32) at_55 rfl rfl ?_
    refine Go.istore 58 #[.val (.int p0), .val (.int p1), .val (.int p2), .val (.int (0 : Int32)), .val (.int n), .val (.int vc), .val (.ref x_120), .val (.ref x_129), .val (.int (0 : Int32)), .unset, .unset, .unset, .unset] at_56 rfl rfl ?_
    refine Go.iloadN 59 at_58 rfl rfl ?_
    refine Go.ldcI 61 at_59 rfl (w74 hw) ?_
    refine Go.iand 62 at_61 rfl ?_
    refine Go.iload 64 at_62 rfl rfl ?_
    refine Go.iconst 65 (2 : Int32) at_64 rfl rfl ?_
    refine Go.iadd 66 at_65 rfl ?_
    refine Go.irem 67 at_66 rfl (fun q => H.gyn q.symm) ?_
    obtain ⟨p, e_p⟩ : ∃ y_ : Int32, y_ = ((p2 &&& (2147483647 : Int32)) % (vc + (2 : Int32))) := ⟨_, rfl⟩
    have b_p : 0 ≤ p.toInt ∧ p.toInt < (vc + (2 : Int32)).toInt := by rw [e_p]; exact (fun q => ⟨q.1, q.2.1⟩) ((c_iremV (p2 &&& (2147483647 : Int32)) (vc + (2 : Int32))).1 (c_and p2 2147483647 (by decide)).1 H.hp)
    rw [← e_p]
    show G_law l Z n0 17 46 [x_129, x_120] hc 67 #[.val (.int p0), .val (.int p1), .val (.int p2), .val (.int (0 : Int32)), .val (.int n), .val (.int vc), .val (.ref x_120), .val (.ref x_129), .val (.int (0 : Int32)), .unset, .unset, .unset, .unset] [(.int p)]
    refine Go.istore 69 #[.val (.int p0), .val (.int p1), .val (.int p2), .val (.int (0 : Int32)), .val (.int n), .val (.int vc), .val (.ref x_120), .val (.ref x_129), .val (.int (0 : Int32)), .val (.int p), .unset, .unset, .unset] at_67 rfl rfl ?_
    refine Go.iloadN 70 at_69 rfl rfl ?_
    refine Go.ifY 84 at_70 (by decide) (by decide) (teq (by decide)).1 ?_
    refine Go.iconst 85 (0 : Int32) at_84 rfl rfl ?_
    refine Go.istore 87 #[.val (.int p0), .val (.int p1), .val (.int p2), .val (.int (0 : Int32)), .val (.int n), .val (.int vc), .val (.ref x_120), .val (.ref x_129), .val (.int (0 : Int32)), .val (.int p), .val (.int (0 : Int32)), .unset, .unset] at_85 rfl rfl ?_
    refine Go.aload 89 at_87 rfl rfl rfl ?_
    refine Go.aload 91 at_89 rfl rfl rfl ?_
    have X_137 : Ext ht hc := extK E_132 Kc (allS (Nat.le_of_eq g_130) all0)
    have f_138 := Ft.ext X_137
    refine Go.callV (S := []) (a := x_129) 94 [(.ref x_120)] at_91 rfl rfl (w75 hw) (w76 hw) (w78 hw) (w77 hw) (fun _ q => notFace_of_selects (args := #[]) (mvT q (w78 hw))) (by decide) Ec (call_of_go (R := _) (len := 3) (W := 0) (plainFor_of_name pn_4) (fun mid => ef_tab20 mid x_129 x_120 vc ) (c_tab20 hw x_129 x_120 vc Fc f_138 H.hy H.hyn H.he H.hm SA) (w79 hw) (w62 hw) (by decide) (by decide)) (lenOf pd_12 rfl) (Nat.le_of_ble_eq_true rfl) rfl (Nat.le_of_ble_eq_true rfl) (Nat.le_of_ble_eq_true rfl) (fun _ q => nomatch q) (fun v h_139 sf_152 hq => ?_)
    obtain ⟨x_140, b_141, rfl, E_142, le_143, le_144, n_145, n_146, ne_147, A_148, G_149, G_150, A_151⟩ := hq
    refine Go.more (sf' := [x_129, x_120]) ?_ (Nat.le_refl _) (Nat.le_refl _) (fun _ q => List.mem_append_right _ q)
    show G_law l Z n0 19 51 [x_129, x_120] h_139 94 #[.val (.int p0), .val (.int p1), .val (.int p2), .val (.int (0 : Int32)), .val (.int n), .val (.int vc), .val (.ref x_120), .val (.ref x_129), .val (.int (0 : Int32)), .val (.int p), .val (.int (0 : Int32)), .unset, .unset] [(.ref x_140)]
    refine Go.astore 96 #[.val (.int p0), .val (.int p1), .val (.int p2), .val (.int (0 : Int32)), .val (.int n), .val (.int vc), .val (.ref x_120), .val (.ref x_129), .val (.int (0 : Int32)), .val (.int p), .val (.int (0 : Int32)), .val (.ref x_140), .unset] at_94 rfl rfl rfl ?_
    refine Go.aload 98 at_96 rfl rfl rfl ?_
    refine Go.iload 100 at_98 rfl rfl ?_
    refine Go.iload 102 at_100 rfl rfl ?_
    refine Go.iload 104 at_102 rfl rfl ?_
    refine Go.callS (S := []) 107 [(.ref x_140), (.int (0 : Int32)), (.int p), (.int (0 : Int32))] at_104 rfl rfl (w96 hw) (w97 hw) (w98 hw) (w99 hw) (by decide) (call_of_go (R := _) (len := 3) (W := 0) (plainFor_of_name pn_5) (fun mid => ef_exact0 mid x_140 (0 : Int32) p (0 : Int32) ) (c_exact0 hw x_140 (0 : Int32) p (0 : Int32) G_150 A_148 (not_neg b_p.1) (H.hs p b_p.1 b_p.2) SA rfl rfl rfl) (w99 hw) (w98 hw) (by decide) (by decide)) (lenOf pd_13 rfl) (Nat.le_of_ble_eq_true rfl) rfl (Nat.le_of_ble_eq_true rfl) (Nat.le_of_ble_eq_true rfl) (fun _ q => nomatch q) (fun v h_153 sf_154 hq => ?_)
    obtain ⟨rfl, rfl⟩ := hq
    refine Go.more (sf' := [x_129, x_120]) ?_ (Nat.le_refl _) (Nat.le_refl _) (fun _ q => List.mem_append_right _ q)
    show G_law l Z n0 19 51 [x_129, x_120] h_139 107 #[.val (.int p0), .val (.int p1), .val (.int p2), .val (.int (0 : Int32)), .val (.int n), .val (.int vc), .val (.ref x_120), .val (.ref x_129), .val (.int (0 : Int32)), .val (.int p), .val (.int (0 : Int32)), .val (.ref x_140), .unset] [(.int (1 : Int32))]
    refine Go.ifY 112 at_107 (by decide) (by decide) (feq (by decide)).2 ?_
    refine Go.aload 114 at_112 rfl rfl rfl ?_
    refine Go.iconst 115 (0 : Int32) at_114 rfl rfl ?_
    refine Go.iload 117 at_115 rfl rfl ?_
    refine Go.iconst 118 (2 : Int32) at_117 rfl rfl ?_
    refine Go.iadd 119 at_118 rfl ?_
    refine Go.sfN [x_140, b_141, x_129, x_120] ?_
    refine Go.callV (S := []) (a := x_140) 122 [(.int (0 : Int32)), (.int (vc + (2 : Int32)))] at_119 rfl rfl (w115 hw) (w116 hw) (w118 hw) (w117 hw) (fun _ q => notFace_of_selects (args := #[]) (mvT q (w118 hw))) (by decide) A_148 (call_of_go (R := _) (len := 3) (W := 0) (plainFor_of_name pn_0) (fun mid => ef_flip22 mid x_140 b_141 (0 : Int32) (vc + (2 : Int32)) (0 : Int64) (0 : Int64) ) (c_flip22 hw x_140 b_141 (0 : Int32) (vc + (2 : Int32)) (0 : Int64) (0 : Int64) A_148 n_145 ne_147 G_149 G_150 A_151 n_146 (by decide) H.gy H.gyn H.ge SA) (w119 hw) (w16 hw) (by decide) (by decide)) (lenOf pd_3 rfl) (Nat.le_of_ble_eq_true rfl) rfl (Nat.le_of_ble_eq_true rfl) (Nat.le_of_ble_eq_true rfl) (allS (List.mem_of_getElem? (i := 0) rfl) (allS (List.mem_of_getElem? (i := 1) rfl) all0)) (fun v h_155 sf_157 hq => ?_)
    obtain ⟨rfl, K_156⟩ := hq
    refine Go.more (sf' := [x_140, b_141, x_129, x_120]) ?_ (Nat.le_refl _) (Nat.le_refl _) (fun _ q => List.mem_append_right _ q)
    show G_law l Z n0 20 55 [x_140, b_141, x_129, x_120] h_155 122 #[.val (.int p0), .val (.int p1), .val (.int p2), .val (.int (0 : Int32)), .val (.int n), .val (.int vc), .val (.ref x_120), .val (.ref x_129), .val (.int (0 : Int32)), .val (.int p), .val (.int (0 : Int32)), .val (.ref x_140), .unset] []
    refine Go.aload 124 at_122 rfl rfl rfl ?_
    refine Go.aload 126 at_124 rfl rfl rfl ?_
    have X_158 : Ext hc h_155 := extK E_142 K_156 (allS le_143 (allS le_144 all0))
    have f_159 := Fc.ext X_158
    have f_160 := f_138.ext X_158
    have f_175 := Ec.ext X_158
    refine Go.callV (S := []) (a := x_129) 129 [(.ref x_120)] at_126 rfl rfl (w75 hw) (w76 hw) (w78 hw) (w77 hw) (fun _ q => notFace_of_selects (args := #[]) (mvT q (w78 hw))) (by decide) f_175 (call_of_go (R := _) (len := 3) (W := 0) (plainFor_of_name pn_4) (fun mid => ef_tab20 mid x_129 x_120 vc ) (c_tab20 hw x_129 x_120 vc f_159 f_160 H.hy H.hyn H.he H.hm SA) (w79 hw) (w62 hw) (by decide) (by decide)) (lenOf pd_12 rfl) (Nat.le_of_ble_eq_true rfl) rfl (Nat.le_of_ble_eq_true rfl) (Nat.le_of_ble_eq_true rfl) (fun _ q => nomatch q) (fun v h_161 sf_174 hq => ?_)
    obtain ⟨x_162, b_163, rfl, E_164, le_165, le_166, n_167, n_168, ne_169, A_170, G_171, G_172, A_173⟩ := hq
    refine Go.more (sf' := [x_140, b_141, x_129, x_120]) ?_ (Nat.le_refl _) (Nat.le_refl _) (fun _ q => List.mem_append_right _ q)
    show G_law l Z n0 22 60 [x_140, b_141, x_129, x_120] h_161 129 #[.val (.int p0), .val (.int p1), .val (.int p2), .val (.int (0 : Int32)), .val (.int n), .val (.int vc), .val (.ref x_120), .val (.ref x_129), .val (.int (0 : Int32)), .val (.int p), .val (.int (0 : Int32)), .val (.ref x_140), .unset] [(.ref x_162)]
    refine Go.astore 131 #[.val (.int p0), .val (.int p1), .val (.int p2), .val (.int (0 : Int32)), .val (.int n), .val (.int vc), .val (.ref x_120), .val (.ref x_129), .val (.int (0 : Int32)), .val (.int p), .val (.int (0 : Int32)), .val (.ref x_140), .val (.ref x_162)] at_129 rfl rfl rfl ?_
    refine Go.aload 133 at_131 rfl rfl rfl ?_
    refine Go.iload 135 at_133 rfl rfl ?_
    refine Go.iload 137 at_135 rfl rfl ?_
    refine Go.iload 139 at_137 rfl rfl ?_
    refine Go.callS (S := []) 142 [(.ref x_162), (.int (0 : Int32)), (.int p), (.int (0 : Int32))] at_139 rfl rfl (w96 hw) (w97 hw) (w98 hw) (w99 hw) (by decide) (call_of_go (R := _) (len := 3) (W := 0) (plainFor_of_name pn_5) (fun mid => ef_exact0 mid x_162 (0 : Int32) p (0 : Int32) ) (c_exact0 hw x_162 (0 : Int32) p (0 : Int32) G_172 A_170 (not_neg b_p.1) (H.hs p b_p.1 b_p.2) SA rfl rfl rfl) (w99 hw) (w98 hw) (by decide) (by decide)) (lenOf pd_13 rfl) (Nat.le_of_ble_eq_true rfl) rfl (Nat.le_of_ble_eq_true rfl) (Nat.le_of_ble_eq_true rfl) (fun _ q => nomatch q) (fun v h_176 sf_177 hq => ?_)
    obtain ⟨rfl, rfl⟩ := hq
    refine Go.more (sf' := [x_140, b_141, x_129, x_120]) ?_ (Nat.le_refl _) (Nat.le_refl _) (fun _ q => List.mem_append_right _ q)
    show G_law l Z n0 22 60 [x_140, b_141, x_129, x_120] h_161 142 #[.val (.int p0), .val (.int p1), .val (.int p2), .val (.int (0 : Int32)), .val (.int n), .val (.int vc), .val (.ref x_120), .val (.ref x_129), .val (.int (0 : Int32)), .val (.int p), .val (.int (0 : Int32)), .val (.ref x_140), .val (.ref x_162)] [(.int (1 : Int32))]
    exact Go.retN (1 : Int32) at_142 rfl (t := .boolean) (by simp) rfl (sf' := []) (rfl) (fun _ q => nomatch q) (Nat.le_of_ble_eq_true rfl) (Nat.le_of_ble_eq_true rfl)
  have tl110 : ∀ (n vc : Int32) (nn : Nat) (H : VC1 (0 : Int32) n vc nn), G_law l Z n0 0 0 [] h0 24 #[.val (.int p0), .val (.int p1), .val (.int p2), .val (.int (1 : Int32)), .val (.int n), .val (.int vc), .unset, .unset, .unset, .unset, .unset, .unset, .unset] [] := by
    intro n vc nn H
    refine Go.new 27 at_24 rfl (w0 hw) (w1 hw) (w2 hw) (Nat.le_of_ble_eq_true rfl) (Nat.le_of_ble_eq_true rfl) (fun h_178 x_179 g_180 q_181 E_182 lt_183 A_184 D_185 => ?_)
    show G_law l Z n0 1 3 [x_179] h_178 27 #[.val (.int p0), .val (.int p1), .val (.int p2), .val (.int (1 : Int32)), .val (.int n), .val (.int vc), .unset, .unset, .unset, .unset, .unset, .unset, .unset] [(.ref x_179)]
    refine Go.dup 28 at_27 rfl rfl ?_
    refine Go.iload 30 at_28 rfl rfl ?_
    refine Go.aconstNull 31 at_30 rfl ?_
    refine Go.callC (S := [(.ref x_179)]) (a := x_179) 34 [(.int n), .null] at_31 rfl rfl rfl (w3 hw) (w4 hw) (w5 hw) (by decide) (call_of_go (R := _) (len := 3) (W := 1) (plainFor_of_name pn_3) (fun mid => ef_tabinit mid x_179 n vc nn 1 ) (c_tabinit hw x_179 n vc nn 1 A_184 q_181 (D_185 (Or.inr (w10 hw)) (ty := .int) (by decide)) H.hn H.hn7 H.hvc H.hv0 H.hv1 H.hm (by decide) H.hj SA) (w5 hw) (w2 hw) (by decide) (by decide)) (lenOf pd_10 rfl) (Nat.le_of_ble_eq_true rfl) rfl (Nat.le_of_ble_eq_true rfl) (Nat.le_of_ble_eq_true rfl) (fun _ q => q) (fun v ht sf_186 hq => ?_)
    obtain ⟨rfl, Kt, Et, Ft⟩ := hq
    refine Go.more (sf' := [x_179]) ?_ (Nat.le_refl _) (Nat.le_refl _) (fun _ q => List.mem_append_right _ q)
    show G_law l Z n0 16 45 [x_179] ht 34 #[.val (.int p0), .val (.int p1), .val (.int p2), .val (.int (1 : Int32)), .val (.int n), .val (.int vc), .unset, .unset, .unset, .unset, .unset, .unset, .unset] [(.ref x_179)]
    refine Go.astore 36 #[.val (.int p0), .val (.int p1), .val (.int p2), .val (.int (1 : Int32)), .val (.int n), .val (.int vc), .val (.ref x_179), .unset, .unset, .unset, .unset, .unset, .unset] at_34 rfl rfl rfl ?_
    refine Go.new 39 at_36 rfl (w60 hw) (w61 hw) (w62 hw) (Nat.le_of_ble_eq_true rfl) (Nat.le_of_ble_eq_true rfl) (fun h_187 x_188 g_189 q_190 E_191 lt_192 A_193 D_194 => ?_)
    show G_law l Z n0 17 46 [x_188, x_179] h_187 39 #[.val (.int p0), .val (.int p1), .val (.int p2), .val (.int (1 : Int32)), .val (.int n), .val (.int vc), .val (.ref x_179), .unset, .unset, .unset, .unset, .unset, .unset] [(.ref x_188)]
    refine Go.dup 40 at_39 rfl rfl ?_
    refine Go.iloadN 41 at_40 rfl rfl ?_
    refine Go.callC (S := [(.ref x_188)]) (a := x_188) 44 [(.int (1 : Int32))] at_41 rfl rfl rfl (w63 hw) (w64 hw) (w65 hw) (by decide) (call_of_go (R := _) (len := 3) (W := 1) (plainFor_of_name pn_4) (fun mid => ef_con1 mid x_188 ) (c_con1 hw x_188 A_193 q_190 (D_194 (Or.inr (w73 hw)) (ty := .boolean) (by decide))) (w65 hw) (w62 hw) (by decide) (by decide)) (lenOf pd_11 rfl) (Nat.le_of_ble_eq_true rfl) rfl (Nat.le_of_ble_eq_true rfl) (Nat.le_of_ble_eq_true rfl) (sub1 (List.mem_of_getElem? (i := 0) rfl)) (fun v hc sf_195 hq => ?_)
    obtain ⟨rfl, Kc, Ec, Fc⟩ := hq
    refine Go.more (sf' := [x_188, x_179]) ?_ (Nat.le_refl _) (Nat.le_refl _) (fun _ q => List.mem_append_right _ q)
    show G_law l Z n0 17 46 [x_188, x_179] hc 44 #[.val (.int p0), .val (.int p1), .val (.int p2), .val (.int (1 : Int32)), .val (.int n), .val (.int vc), .val (.ref x_179), .unset, .unset, .unset, .unset, .unset, .unset] [(.ref x_188)]
    refine Go.astore 46 #[.val (.int p0), .val (.int p1), .val (.int p2), .val (.int (1 : Int32)), .val (.int n), .val (.int vc), .val (.ref x_179), .val (.ref x_188), .unset, .unset, .unset, .unset, .unset] at_44 rfl rfl rfl ?_
    refine Go.iloadN 47 at_46 rfl rfl ?_
    refine Go.ifN 50 at_47 rfl (feq (by decide)).1 ?_
    refine Go.iload 52 at_50 rfl rfl ?_
    refine Go.goto 56 at_52 (by decide) (by decide) ?_
    refine Go.istore 58 #[.val (.int p0), .val (.int p1), .val (.int p2), .val (.int (1 : Int32)), .val (.int n), .val (.int vc), .val (.ref x_179), .val (.ref x_188), .val (.int vc), .unset, .unset, .unset, .unset] at_56 rfl rfl ?_
    refine Go.iloadN 59 at_58 rfl rfl ?_
    refine Go.ldcI 61 at_59 rfl (w74 hw) ?_
    refine Go.iand 62 at_61 rfl ?_
    refine Go.iload 64 at_62 rfl rfl ?_
    refine Go.iconst 65 (2 : Int32) at_64 rfl rfl ?_
    refine Go.iadd 66 at_65 rfl ?_
    refine Go.irem 67 at_66 rfl (fun q => H.gyn q.symm) ?_
    obtain ⟨p, e_p⟩ : ∃ y_ : Int32, y_ = ((p2 &&& (2147483647 : Int32)) % (vc + (2 : Int32))) := ⟨_, rfl⟩
    have b_p : 0 ≤ p.toInt ∧ p.toInt < (vc + (2 : Int32)).toInt := by rw [e_p]; exact (fun q => ⟨q.1, q.2.1⟩) ((c_iremV (p2 &&& (2147483647 : Int32)) (vc + (2 : Int32))).1 (c_and p2 2147483647 (by decide)).1 H.hp)
    rw [← e_p]
    show G_law l Z n0 17 46 [x_188, x_179] hc 67 #[.val (.int p0), .val (.int p1), .val (.int p2), .val (.int (1 : Int32)), .val (.int n), .val (.int vc), .val (.ref x_179), .val (.ref x_188), .val (.int vc), .unset, .unset, .unset, .unset] [(.int p)]
    refine Go.istore 69 #[.val (.int p0), .val (.int p1), .val (.int p2), .val (.int (1 : Int32)), .val (.int n), .val (.int vc), .val (.ref x_179), .val (.ref x_188), .val (.int vc), .val (.int p), .unset, .unset, .unset] at_67 rfl rfl ?_
    refine Go.iloadN 70 at_69 rfl rfl ?_
    refine Go.ifN 73 at_70 rfl (feq (by decide)).1 ?_
    refine Go.iload 75 at_73 rfl rfl ?_
    refine Go.iload 77 at_75 rfl rfl ?_
    by_cases hc77 : p < vc
    · skip
      refine Go.icmpN 80 at_77 rfl (tlt hc77).2.1 ?_
      refine Go.iconst 81 (1 : Int32) at_80 rfl rfl ?_
      refine Go.goto 85 at_81 (by decide) (by decide) ?_
      refine Go.istore 87 #[.val (.int p0), .val (.int p1), .val (.int p2), .val (.int (1 : Int32)), .val (.int n), .val (.int vc), .val (.ref x_179), .val (.ref x_188), .val (.int vc), .val (.int p), .val (.int (1 : Int32)), .unset, .unset] at_85 rfl rfl ?_
      refine Go.aload 89 at_87 rfl rfl rfl ?_
      refine Go.aload 91 at_89 rfl rfl rfl ?_
      have X_196 : Ext ht hc := extK E_191 Kc (allS (Nat.le_of_eq g_189) all0)
      have f_197 := Ft.ext X_196
      refine Go.callV (S := []) (a := x_188) 94 [(.ref x_179)] at_91 rfl rfl (w75 hw) (w76 hw) (w78 hw) (w77 hw) (fun _ q => notFace_of_selects (args := #[]) (mvT q (w78 hw))) (by decide) Ec (call_of_go (R := _) (len := 3) (W := 0) (plainFor_of_name pn_4) (fun mid => ef_tab11 mid x_188 x_179 vc ) (c_tab11 hw x_188 x_179 vc Fc f_197 H.hy H.hyn H.he H.hm SA) (w79 hw) (w62 hw) (by decide) (by decide)) (lenOf pd_12 rfl) (Nat.le_of_ble_eq_true rfl) rfl (Nat.le_of_ble_eq_true rfl) (Nat.le_of_ble_eq_true rfl) (fun _ q => nomatch q) (fun v h_198 sf_211 hq => ?_)
      obtain ⟨x_199, b_200, rfl, E_201, le_202, le_203, n_204, n_205, ne_206, A_207, G_208, G_209, A_210⟩ := hq
      refine Go.more (sf' := [x_188, x_179]) ?_ (Nat.le_refl _) (Nat.le_refl _) (fun _ q => List.mem_append_right _ q)
      show G_law l Z n0 19 51 [x_188, x_179] h_198 94 #[.val (.int p0), .val (.int p1), .val (.int p2), .val (.int (1 : Int32)), .val (.int n), .val (.int vc), .val (.ref x_179), .val (.ref x_188), .val (.int vc), .val (.int p), .val (.int (1 : Int32)), .unset, .unset] [(.ref x_199)]
      refine Go.astore 96 #[.val (.int p0), .val (.int p1), .val (.int p2), .val (.int (1 : Int32)), .val (.int n), .val (.int vc), .val (.ref x_179), .val (.ref x_188), .val (.int vc), .val (.int p), .val (.int (1 : Int32)), .val (.ref x_199), .unset] at_94 rfl rfl rfl ?_
      refine Go.aload 98 at_96 rfl rfl rfl ?_
      refine Go.iload 100 at_98 rfl rfl ?_
      refine Go.iload 102 at_100 rfl rfl ?_
      refine Go.iload 104 at_102 rfl rfl ?_
      refine Go.callS (S := []) 107 [(.ref x_199), (.int vc), (.int p), (.int (1 : Int32))] at_104 rfl rfl (w96 hw) (w97 hw) (w98 hw) (w99 hw) (by decide) (call_of_go (R := _) (len := 3) (W := 0) (plainFor_of_name pn_5) (fun mid => ef_exact1 mid x_199 b_200 ((0 : Int64) ||| (((-1 : Int64) <<< ((0 : Int32) &&& 0x3f).toInt64) &&& (ushrL (-1 : Int64) (-vc)))) vc p (1 : Int32) ) (c_exact1 hw x_199 b_200 ((0 : Int64) ||| (((-1 : Int64) <<< ((0 : Int32) &&& 0x3f).toInt64) &&& (ushrL (-1 : Int64) (-vc)))) vc p (1 : Int32) G_209 G_208 A_210 A_207 (not_neg b_p.1) (H.hs p b_p.1 b_p.2) SA H.h1 H.h2 ((H.h3 p b_p.1 b_p.2).trans (if_pos hc77))) (w99 hw) (w98 hw) (by decide) (by decide)) (lenOf pd_13 rfl) (Nat.le_of_ble_eq_true rfl) rfl (Nat.le_of_ble_eq_true rfl) (Nat.le_of_ble_eq_true rfl) (fun _ q => nomatch q) (fun v h_212 sf_213 hq => ?_)
      obtain ⟨rfl, rfl⟩ := hq
      refine Go.more (sf' := [x_188, x_179]) ?_ (Nat.le_refl _) (Nat.le_refl _) (fun _ q => List.mem_append_right _ q)
      show G_law l Z n0 19 51 [x_188, x_179] h_198 107 #[.val (.int p0), .val (.int p1), .val (.int p2), .val (.int (1 : Int32)), .val (.int n), .val (.int vc), .val (.ref x_179), .val (.ref x_188), .val (.int vc), .val (.int p), .val (.int (1 : Int32)), .val (.ref x_199), .unset] [(.int (1 : Int32))]
      refine Go.ifY 112 at_107 (by decide) (by decide) (feq (by decide)).2 ?_
      refine Go.aload 114 at_112 rfl rfl rfl ?_
      refine Go.iconst 115 (0 : Int32) at_114 rfl rfl ?_
      refine Go.iload 117 at_115 rfl rfl ?_
      refine Go.iconst 118 (2 : Int32) at_117 rfl rfl ?_
      refine Go.iadd 119 at_118 rfl ?_
      refine Go.sfN [x_199, b_200, x_188, x_179] ?_
      refine Go.callV (S := []) (a := x_199) 122 [(.int (0 : Int32)), (.int (vc + (2 : Int32)))] at_119 rfl rfl (w115 hw) (w116 hw) (w118 hw) (w117 hw) (fun _ q => notFace_of_selects (args := #[]) (mvT q (w118 hw))) (by decide) A_207 (call_of_go (R := _) (len := 3) (W := 0) (plainFor_of_name pn_0) (fun mid => ef_flip10 mid x_199 b_200 (1 : Int32) (vc + (2 : Int32)) ((0 : Int64) ||| (((-1 : Int64) <<< ((0 : Int32) &&& 0x3f).toInt64) &&& (ushrL (-1 : Int64) (-vc)))) ) (c_flip10 hw x_199 b_200 (1 : Int32) (vc + (2 : Int32)) ((0 : Int64) ||| (((-1 : Int64) <<< ((0 : Int32) &&& 0x3f).toInt64) &&& (ushrL (-1 : Int64) (-vc)))) A_207 n_204 ne_206 G_208 G_209 A_210 n_205 (by decide) H.gy H.gyn H.ge SA) (w119 hw) (w16 hw) (by decide) (by decide)) (lenOf pd_3 rfl) (Nat.le_of_ble_eq_true rfl) rfl (Nat.le_of_ble_eq_true rfl) (Nat.le_of_ble_eq_true rfl) (allS (List.mem_of_getElem? (i := 0) rfl) (allS (List.mem_of_getElem? (i := 1) rfl) all0)) (fun v h_214 sf_216 hq => ?_)
      obtain ⟨rfl, K_215⟩ := hq
      refine Go.more (sf' := [x_199, b_200, x_188, x_179]) ?_ (Nat.le_refl _) (Nat.le_refl _) (fun _ q => List.mem_append_right _ q)
      show G_law l Z n0 19 51 [x_199, b_200, x_188, x_179] h_214 122 #[.val (.int p0), .val (.int p1), .val (.int p2), .val (.int (1 : Int32)), .val (.int n), .val (.int vc), .val (.ref x_179), .val (.ref x_188), .val (.int vc), .val (.int p), .val (.int (1 : Int32)), .val (.ref x_199), .unset] []
      refine Go.aload 124 at_122 rfl rfl rfl ?_
      refine Go.aload 126 at_124 rfl rfl rfl ?_
      have X_217 : Ext hc h_214 := extK E_201 K_215 (allS le_202 (allS le_203 all0))
      have f_218 := Fc.ext X_217
      have f_219 := f_197.ext X_217
      have f_234 := Ec.ext X_217
      refine Go.callV (S := []) (a := x_188) 129 [(.ref x_179)] at_126 rfl rfl (w75 hw) (w76 hw) (w78 hw) (w77 hw) (fun _ q => notFace_of_selects (args := #[]) (mvT q (w78 hw))) (by decide) f_234 (call_of_go (R := _) (len := 3) (W := 0) (plainFor_of_name pn_4) (fun mid => ef_tab11 mid x_188 x_179 vc ) (c_tab11 hw x_188 x_179 vc f_218 f_219 H.hy H.hyn H.he H.hm SA) (w79 hw) (w62 hw) (by decide) (by decide)) (lenOf pd_12 rfl) (Nat.le_of_ble_eq_true rfl) rfl (Nat.le_of_ble_eq_true rfl) (Nat.le_of_ble_eq_true rfl) (fun _ q => nomatch q) (fun v h_220 sf_233 hq => ?_)
      obtain ⟨x_221, b_222, rfl, E_223, le_224, le_225, n_226, n_227, ne_228, A_229, G_230, G_231, A_232⟩ := hq
      refine Go.more (sf' := [x_199, b_200, x_188, x_179]) ?_ (Nat.le_refl _) (Nat.le_refl _) (fun _ q => List.mem_append_right _ q)
      show G_law l Z n0 21 56 [x_199, b_200, x_188, x_179] h_220 129 #[.val (.int p0), .val (.int p1), .val (.int p2), .val (.int (1 : Int32)), .val (.int n), .val (.int vc), .val (.ref x_179), .val (.ref x_188), .val (.int vc), .val (.int p), .val (.int (1 : Int32)), .val (.ref x_199), .unset] [(.ref x_221)]
      refine Go.astore 131 #[.val (.int p0), .val (.int p1), .val (.int p2), .val (.int (1 : Int32)), .val (.int n), .val (.int vc), .val (.ref x_179), .val (.ref x_188), .val (.int vc), .val (.int p), .val (.int (1 : Int32)), .val (.ref x_199), .val (.ref x_221)] at_129 rfl rfl rfl ?_
      refine Go.aload 133 at_131 rfl rfl rfl ?_
      refine Go.iload 135 at_133 rfl rfl ?_
      refine Go.iload 137 at_135 rfl rfl ?_
      refine Go.iload 139 at_137 rfl rfl ?_
      refine Go.callS (S := []) 142 [(.ref x_221), (.int vc), (.int p), (.int (1 : Int32))] at_139 rfl rfl (w96 hw) (w97 hw) (w98 hw) (w99 hw) (by decide) (call_of_go (R := _) (len := 3) (W := 0) (plainFor_of_name pn_5) (fun mid => ef_exact1 mid x_221 b_222 ((0 : Int64) ||| (((-1 : Int64) <<< ((0 : Int32) &&& 0x3f).toInt64) &&& (ushrL (-1 : Int64) (-vc)))) vc p (1 : Int32) ) (c_exact1 hw x_221 b_222 ((0 : Int64) ||| (((-1 : Int64) <<< ((0 : Int32) &&& 0x3f).toInt64) &&& (ushrL (-1 : Int64) (-vc)))) vc p (1 : Int32) G_231 G_230 A_232 A_229 (not_neg b_p.1) (H.hs p b_p.1 b_p.2) SA H.h1 H.h2 ((H.h3 p b_p.1 b_p.2).trans (if_pos hc77))) (w99 hw) (w98 hw) (by decide) (by decide)) (lenOf pd_13 rfl) (Nat.le_of_ble_eq_true rfl) rfl (Nat.le_of_ble_eq_true rfl) (Nat.le_of_ble_eq_true rfl) (fun _ q => nomatch q) (fun v h_235 sf_236 hq => ?_)
      obtain ⟨rfl, rfl⟩ := hq
      refine Go.more (sf' := [x_199, b_200, x_188, x_179]) ?_ (Nat.le_refl _) (Nat.le_refl _) (fun _ q => List.mem_append_right _ q)
      show G_law l Z n0 21 56 [x_199, b_200, x_188, x_179] h_220 142 #[.val (.int p0), .val (.int p1), .val (.int p2), .val (.int (1 : Int32)), .val (.int n), .val (.int vc), .val (.ref x_179), .val (.ref x_188), .val (.int vc), .val (.int p), .val (.int (1 : Int32)), .val (.ref x_199), .val (.ref x_221)] [(.int (1 : Int32))]
      exact Go.retN (1 : Int32) at_142 rfl (t := .boolean) (by simp) rfl (sf' := []) (rfl) (fun _ q => nomatch q) (Nat.le_of_ble_eq_true rfl) (Nat.le_of_ble_eq_true rfl)
    · skip
      refine Go.icmpY 84 at_77 (by decide) (by decide) (flt hc77).2.1 ?_
      refine Go.iconst 85 (0 : Int32) at_84 rfl rfl ?_
      refine Go.istore 87 #[.val (.int p0), .val (.int p1), .val (.int p2), .val (.int (1 : Int32)), .val (.int n), .val (.int vc), .val (.ref x_179), .val (.ref x_188), .val (.int vc), .val (.int p), .val (.int (0 : Int32)), .unset, .unset] at_85 rfl rfl ?_
      refine Go.aload 89 at_87 rfl rfl rfl ?_
      refine Go.aload 91 at_89 rfl rfl rfl ?_
      have X_237 : Ext ht hc := extK E_191 Kc (allS (Nat.le_of_eq g_189) all0)
      have f_238 := Ft.ext X_237
      refine Go.callV (S := []) (a := x_188) 94 [(.ref x_179)] at_91 rfl rfl (w75 hw) (w76 hw) (w78 hw) (w77 hw) (fun _ q => notFace_of_selects (args := #[]) (mvT q (w78 hw))) (by decide) Ec (call_of_go (R := _) (len := 3) (W := 0) (plainFor_of_name pn_4) (fun mid => ef_tab11 mid x_188 x_179 vc ) (c_tab11 hw x_188 x_179 vc Fc f_238 H.hy H.hyn H.he H.hm SA) (w79 hw) (w62 hw) (by decide) (by decide)) (lenOf pd_12 rfl) (Nat.le_of_ble_eq_true rfl) rfl (Nat.le_of_ble_eq_true rfl) (Nat.le_of_ble_eq_true rfl) (fun _ q => nomatch q) (fun v h_239 sf_252 hq => ?_)
      obtain ⟨x_240, b_241, rfl, E_242, le_243, le_244, n_245, n_246, ne_247, A_248, G_249, G_250, A_251⟩ := hq
      refine Go.more (sf' := [x_188, x_179]) ?_ (Nat.le_refl _) (Nat.le_refl _) (fun _ q => List.mem_append_right _ q)
      show G_law l Z n0 19 51 [x_188, x_179] h_239 94 #[.val (.int p0), .val (.int p1), .val (.int p2), .val (.int (1 : Int32)), .val (.int n), .val (.int vc), .val (.ref x_179), .val (.ref x_188), .val (.int vc), .val (.int p), .val (.int (0 : Int32)), .unset, .unset] [(.ref x_240)]
      refine Go.astore 96 #[.val (.int p0), .val (.int p1), .val (.int p2), .val (.int (1 : Int32)), .val (.int n), .val (.int vc), .val (.ref x_179), .val (.ref x_188), .val (.int vc), .val (.int p), .val (.int (0 : Int32)), .val (.ref x_240), .unset] at_94 rfl rfl rfl ?_
      refine Go.aload 98 at_96 rfl rfl rfl ?_
      refine Go.iload 100 at_98 rfl rfl ?_
      refine Go.iload 102 at_100 rfl rfl ?_
      refine Go.iload 104 at_102 rfl rfl ?_
      refine Go.callS (S := []) 107 [(.ref x_240), (.int vc), (.int p), (.int (0 : Int32))] at_104 rfl rfl (w96 hw) (w97 hw) (w98 hw) (w99 hw) (by decide) (call_of_go (R := _) (len := 3) (W := 0) (plainFor_of_name pn_5) (fun mid => ef_exact1 mid x_240 b_241 ((0 : Int64) ||| (((-1 : Int64) <<< ((0 : Int32) &&& 0x3f).toInt64) &&& (ushrL (-1 : Int64) (-vc)))) vc p (0 : Int32) ) (c_exact1 hw x_240 b_241 ((0 : Int64) ||| (((-1 : Int64) <<< ((0 : Int32) &&& 0x3f).toInt64) &&& (ushrL (-1 : Int64) (-vc)))) vc p (0 : Int32) G_250 G_249 A_251 A_248 (not_neg b_p.1) (H.hs p b_p.1 b_p.2) SA H.h1 H.h2 ((H.h3 p b_p.1 b_p.2).trans (if_neg hc77))) (w99 hw) (w98 hw) (by decide) (by decide)) (lenOf pd_13 rfl) (Nat.le_of_ble_eq_true rfl) rfl (Nat.le_of_ble_eq_true rfl) (Nat.le_of_ble_eq_true rfl) (fun _ q => nomatch q) (fun v h_253 sf_254 hq => ?_)
      obtain ⟨rfl, rfl⟩ := hq
      refine Go.more (sf' := [x_188, x_179]) ?_ (Nat.le_refl _) (Nat.le_refl _) (fun _ q => List.mem_append_right _ q)
      show G_law l Z n0 19 51 [x_188, x_179] h_239 107 #[.val (.int p0), .val (.int p1), .val (.int p2), .val (.int (1 : Int32)), .val (.int n), .val (.int vc), .val (.ref x_179), .val (.ref x_188), .val (.int vc), .val (.int p), .val (.int (0 : Int32)), .val (.ref x_240), .unset] [(.int (1 : Int32))]
      refine Go.ifY 112 at_107 (by decide) (by decide) (feq (by decide)).2 ?_
      refine Go.aload 114 at_112 rfl rfl rfl ?_
      refine Go.iconst 115 (0 : Int32) at_114 rfl rfl ?_
      refine Go.iload 117 at_115 rfl rfl ?_
      refine Go.iconst 118 (2 : Int32) at_117 rfl rfl ?_
      refine Go.iadd 119 at_118 rfl ?_
      refine Go.sfN [x_240, b_241, x_188, x_179] ?_
      refine Go.callV (S := []) (a := x_240) 122 [(.int (0 : Int32)), (.int (vc + (2 : Int32)))] at_119 rfl rfl (w115 hw) (w116 hw) (w118 hw) (w117 hw) (fun _ q => notFace_of_selects (args := #[]) (mvT q (w118 hw))) (by decide) A_248 (call_of_go (R := _) (len := 3) (W := 0) (plainFor_of_name pn_0) (fun mid => ef_flip10 mid x_240 b_241 (1 : Int32) (vc + (2 : Int32)) ((0 : Int64) ||| (((-1 : Int64) <<< ((0 : Int32) &&& 0x3f).toInt64) &&& (ushrL (-1 : Int64) (-vc)))) ) (c_flip10 hw x_240 b_241 (1 : Int32) (vc + (2 : Int32)) ((0 : Int64) ||| (((-1 : Int64) <<< ((0 : Int32) &&& 0x3f).toInt64) &&& (ushrL (-1 : Int64) (-vc)))) A_248 n_245 ne_247 G_249 G_250 A_251 n_246 (by decide) H.gy H.gyn H.ge SA) (w119 hw) (w16 hw) (by decide) (by decide)) (lenOf pd_3 rfl) (Nat.le_of_ble_eq_true rfl) rfl (Nat.le_of_ble_eq_true rfl) (Nat.le_of_ble_eq_true rfl) (allS (List.mem_of_getElem? (i := 0) rfl) (allS (List.mem_of_getElem? (i := 1) rfl) all0)) (fun v h_255 sf_257 hq => ?_)
      obtain ⟨rfl, K_256⟩ := hq
      refine Go.more (sf' := [x_240, b_241, x_188, x_179]) ?_ (Nat.le_refl _) (Nat.le_refl _) (fun _ q => List.mem_append_right _ q)
      show G_law l Z n0 19 51 [x_240, b_241, x_188, x_179] h_255 122 #[.val (.int p0), .val (.int p1), .val (.int p2), .val (.int (1 : Int32)), .val (.int n), .val (.int vc), .val (.ref x_179), .val (.ref x_188), .val (.int vc), .val (.int p), .val (.int (0 : Int32)), .val (.ref x_240), .unset] []
      refine Go.aload 124 at_122 rfl rfl rfl ?_
      refine Go.aload 126 at_124 rfl rfl rfl ?_
      have X_258 : Ext hc h_255 := extK E_242 K_256 (allS le_243 (allS le_244 all0))
      have f_259 := Fc.ext X_258
      have f_260 := f_238.ext X_258
      have f_275 := Ec.ext X_258
      refine Go.callV (S := []) (a := x_188) 129 [(.ref x_179)] at_126 rfl rfl (w75 hw) (w76 hw) (w78 hw) (w77 hw) (fun _ q => notFace_of_selects (args := #[]) (mvT q (w78 hw))) (by decide) f_275 (call_of_go (R := _) (len := 3) (W := 0) (plainFor_of_name pn_4) (fun mid => ef_tab11 mid x_188 x_179 vc ) (c_tab11 hw x_188 x_179 vc f_259 f_260 H.hy H.hyn H.he H.hm SA) (w79 hw) (w62 hw) (by decide) (by decide)) (lenOf pd_12 rfl) (Nat.le_of_ble_eq_true rfl) rfl (Nat.le_of_ble_eq_true rfl) (Nat.le_of_ble_eq_true rfl) (fun _ q => nomatch q) (fun v h_261 sf_274 hq => ?_)
      obtain ⟨x_262, b_263, rfl, E_264, le_265, le_266, n_267, n_268, ne_269, A_270, G_271, G_272, A_273⟩ := hq
      refine Go.more (sf' := [x_240, b_241, x_188, x_179]) ?_ (Nat.le_refl _) (Nat.le_refl _) (fun _ q => List.mem_append_right _ q)
      show G_law l Z n0 21 56 [x_240, b_241, x_188, x_179] h_261 129 #[.val (.int p0), .val (.int p1), .val (.int p2), .val (.int (1 : Int32)), .val (.int n), .val (.int vc), .val (.ref x_179), .val (.ref x_188), .val (.int vc), .val (.int p), .val (.int (0 : Int32)), .val (.ref x_240), .unset] [(.ref x_262)]
      refine Go.astore 131 #[.val (.int p0), .val (.int p1), .val (.int p2), .val (.int (1 : Int32)), .val (.int n), .val (.int vc), .val (.ref x_179), .val (.ref x_188), .val (.int vc), .val (.int p), .val (.int (0 : Int32)), .val (.ref x_240), .val (.ref x_262)] at_129 rfl rfl rfl ?_
      refine Go.aload 133 at_131 rfl rfl rfl ?_
      refine Go.iload 135 at_133 rfl rfl ?_
      refine Go.iload 137 at_135 rfl rfl ?_
      refine Go.iload 139 at_137 rfl rfl ?_
      refine Go.callS (S := []) 142 [(.ref x_262), (.int vc), (.int p), (.int (0 : Int32))] at_139 rfl rfl (w96 hw) (w97 hw) (w98 hw) (w99 hw) (by decide) (call_of_go (R := _) (len := 3) (W := 0) (plainFor_of_name pn_5) (fun mid => ef_exact1 mid x_262 b_263 ((0 : Int64) ||| (((-1 : Int64) <<< ((0 : Int32) &&& 0x3f).toInt64) &&& (ushrL (-1 : Int64) (-vc)))) vc p (0 : Int32) ) (c_exact1 hw x_262 b_263 ((0 : Int64) ||| (((-1 : Int64) <<< ((0 : Int32) &&& 0x3f).toInt64) &&& (ushrL (-1 : Int64) (-vc)))) vc p (0 : Int32) G_272 G_271 A_273 A_270 (not_neg b_p.1) (H.hs p b_p.1 b_p.2) SA H.h1 H.h2 ((H.h3 p b_p.1 b_p.2).trans (if_neg hc77))) (w99 hw) (w98 hw) (by decide) (by decide)) (lenOf pd_13 rfl) (Nat.le_of_ble_eq_true rfl) rfl (Nat.le_of_ble_eq_true rfl) (Nat.le_of_ble_eq_true rfl) (fun _ q => nomatch q) (fun v h_276 sf_277 hq => ?_)
      obtain ⟨rfl, rfl⟩ := hq
      refine Go.more (sf' := [x_240, b_241, x_188, x_179]) ?_ (Nat.le_refl _) (Nat.le_refl _) (fun _ q => List.mem_append_right _ q)
      show G_law l Z n0 21 56 [x_240, b_241, x_188, x_179] h_261 142 #[.val (.int p0), .val (.int p1), .val (.int p2), .val (.int (1 : Int32)), .val (.int n), .val (.int vc), .val (.ref x_179), .val (.ref x_188), .val (.int vc), .val (.int p), .val (.int (0 : Int32)), .val (.ref x_240), .val (.ref x_262)] [(.int (1 : Int32))]
      exact Go.retN (1 : Int32) at_142 rfl (t := .boolean) (by simp) rfl (sf' := []) (rfl) (fun _ q => nomatch q) (Nat.le_of_ble_eq_true rfl) (Nat.le_of_ble_eq_true rfl)
  have tl111 : ∀ (n vc : Int32) (nn : Nat) (H : VC1 (1 : Int32) n vc nn), G_law l Z n0 0 0 [] h0 24 #[.val (.int p0), .val (.int p1), .val (.int p2), .val (.int (1 : Int32)), .val (.int n), .val (.int vc), .unset, .unset, .unset, .unset, .unset, .unset, .unset] [] := by
    intro n vc nn H
    refine Go.new 27 at_24 rfl (w0 hw) (w1 hw) (w2 hw) (Nat.le_of_ble_eq_true rfl) (Nat.le_of_ble_eq_true rfl) (fun h_278 x_279 g_280 q_281 E_282 lt_283 A_284 D_285 => ?_)
    show G_law l Z n0 1 3 [x_279] h_278 27 #[.val (.int p0), .val (.int p1), .val (.int p2), .val (.int (1 : Int32)), .val (.int n), .val (.int vc), .unset, .unset, .unset, .unset, .unset, .unset, .unset] [(.ref x_279)]
    refine Go.dup 28 at_27 rfl rfl ?_
    refine Go.iload 30 at_28 rfl rfl ?_
    refine Go.aconstNull 31 at_30 rfl ?_
    refine Go.callC (S := [(.ref x_279)]) (a := x_279) 34 [(.int n), .null] at_31 rfl rfl rfl (w3 hw) (w4 hw) (w5 hw) (by decide) (call_of_go (R := _) (len := 3) (W := 1) (plainFor_of_name pn_3) (fun mid => ef_tabinit mid x_279 n vc nn 1 ) (c_tabinit hw x_279 n vc nn 1 A_284 q_281 (D_285 (Or.inr (w10 hw)) (ty := .int) (by decide)) H.hn H.hn7 H.hvc H.hv0 H.hv1 H.hm (by decide) H.hj SA) (w5 hw) (w2 hw) (by decide) (by decide)) (lenOf pd_10 rfl) (Nat.le_of_ble_eq_true rfl) rfl (Nat.le_of_ble_eq_true rfl) (Nat.le_of_ble_eq_true rfl) (fun _ q => q) (fun v ht sf_286 hq => ?_)
    obtain ⟨rfl, Kt, Et, Ft⟩ := hq
    refine Go.more (sf' := [x_279]) ?_ (Nat.le_refl _) (Nat.le_refl _) (fun _ q => List.mem_append_right _ q)
    show G_law l Z n0 16 45 [x_279] ht 34 #[.val (.int p0), .val (.int p1), .val (.int p2), .val (.int (1 : Int32)), .val (.int n), .val (.int vc), .unset, .unset, .unset, .unset, .unset, .unset, .unset] [(.ref x_279)]
    refine Go.astore 36 #[.val (.int p0), .val (.int p1), .val (.int p2), .val (.int (1 : Int32)), .val (.int n), .val (.int vc), .val (.ref x_279), .unset, .unset, .unset, .unset, .unset, .unset] at_34 rfl rfl rfl ?_
    refine Go.new 39 at_36 rfl (w60 hw) (w61 hw) (w62 hw) (Nat.le_of_ble_eq_true rfl) (Nat.le_of_ble_eq_true rfl) (fun h_287 x_288 g_289 q_290 E_291 lt_292 A_293 D_294 => ?_)
    show G_law l Z n0 17 46 [x_288, x_279] h_287 39 #[.val (.int p0), .val (.int p1), .val (.int p2), .val (.int (1 : Int32)), .val (.int n), .val (.int vc), .val (.ref x_279), .unset, .unset, .unset, .unset, .unset, .unset] [(.ref x_288)]
    refine Go.dup 40 at_39 rfl rfl ?_
    refine Go.iloadN 41 at_40 rfl rfl ?_
    refine Go.callC (S := [(.ref x_288)]) (a := x_288) 44 [(.int (1 : Int32))] at_41 rfl rfl rfl (w63 hw) (w64 hw) (w65 hw) (by decide) (call_of_go (R := _) (len := 3) (W := 1) (plainFor_of_name pn_4) (fun mid => ef_con1 mid x_288 ) (c_con1 hw x_288 A_293 q_290 (D_294 (Or.inr (w73 hw)) (ty := .boolean) (by decide))) (w65 hw) (w62 hw) (by decide) (by decide)) (lenOf pd_11 rfl) (Nat.le_of_ble_eq_true rfl) rfl (Nat.le_of_ble_eq_true rfl) (Nat.le_of_ble_eq_true rfl) (sub1 (List.mem_of_getElem? (i := 0) rfl)) (fun v hc sf_295 hq => ?_)
    obtain ⟨rfl, Kc, Ec, Fc⟩ := hq
    refine Go.more (sf' := [x_288, x_279]) ?_ (Nat.le_refl _) (Nat.le_refl _) (fun _ q => List.mem_append_right _ q)
    show G_law l Z n0 17 46 [x_288, x_279] hc 44 #[.val (.int p0), .val (.int p1), .val (.int p2), .val (.int (1 : Int32)), .val (.int n), .val (.int vc), .val (.ref x_279), .unset, .unset, .unset, .unset, .unset, .unset] [(.ref x_288)]
    refine Go.astore 46 #[.val (.int p0), .val (.int p1), .val (.int p2), .val (.int (1 : Int32)), .val (.int n), .val (.int vc), .val (.ref x_279), .val (.ref x_288), .unset, .unset, .unset, .unset, .unset] at_44 rfl rfl rfl ?_
    refine Go.iloadN 47 at_46 rfl rfl ?_
    refine Go.ifN 50 at_47 rfl (feq (by decide)).1 ?_
    refine Go.iload 52 at_50 rfl rfl ?_
    refine Go.goto 56 at_52 (by decide) (by decide) ?_
    refine Go.istore 58 #[.val (.int p0), .val (.int p1), .val (.int p2), .val (.int (1 : Int32)), .val (.int n), .val (.int vc), .val (.ref x_279), .val (.ref x_288), .val (.int vc), .unset, .unset, .unset, .unset] at_56 rfl rfl ?_
    refine Go.iloadN 59 at_58 rfl rfl ?_
    refine Go.ldcI 61 at_59 rfl (w74 hw) ?_
    refine Go.iand 62 at_61 rfl ?_
    refine Go.iload 64 at_62 rfl rfl ?_
    refine Go.iconst 65 (2 : Int32) at_64 rfl rfl ?_
    refine Go.iadd 66 at_65 rfl ?_
    refine Go.irem 67 at_66 rfl (fun q => H.gyn q.symm) ?_
    obtain ⟨p, e_p⟩ : ∃ y_ : Int32, y_ = ((p2 &&& (2147483647 : Int32)) % (vc + (2 : Int32))) := ⟨_, rfl⟩
    have b_p : 0 ≤ p.toInt ∧ p.toInt < (vc + (2 : Int32)).toInt := by rw [e_p]; exact (fun q => ⟨q.1, q.2.1⟩) ((c_iremV (p2 &&& (2147483647 : Int32)) (vc + (2 : Int32))).1 (c_and p2 2147483647 (by decide)).1 H.hp)
    rw [← e_p]
    show G_law l Z n0 17 46 [x_288, x_279] hc 67 #[.val (.int p0), .val (.int p1), .val (.int p2), .val (.int (1 : Int32)), .val (.int n), .val (.int vc), .val (.ref x_279), .val (.ref x_288), .val (.int vc), .unset, .unset, .unset, .unset] [(.int p)]
    refine Go.istore 69 #[.val (.int p0), .val (.int p1), .val (.int p2), .val (.int (1 : Int32)), .val (.int n), .val (.int vc), .val (.ref x_279), .val (.ref x_288), .val (.int vc), .val (.int p), .unset, .unset, .unset] at_67 rfl rfl ?_
    refine Go.iloadN 70 at_69 rfl rfl ?_
    refine Go.ifN 73 at_70 rfl (feq (by decide)).1 ?_
    refine Go.iload 75 at_73 rfl rfl ?_
    refine Go.iload 77 at_75 rfl rfl ?_
    by_cases hc77 : p < vc
    · skip
      refine Go.icmpN 80 at_77 rfl (tlt hc77).2.1 ?_
      refine Go.iconst 81 (1 : Int32) at_80 rfl rfl ?_
      refine Go.goto 85 at_81 (by decide) (by decide) ?_
      refine Go.istore 87 #[.val (.int p0), .val (.int p1), .val (.int p2), .val (.int (1 : Int32)), .val (.int n), .val (.int vc), .val (.ref x_279), .val (.ref x_288), .val (.int vc), .val (.int p), .val (.int (1 : Int32)), .unset, .unset] at_85 rfl rfl ?_
      refine Go.aload 89 at_87 rfl rfl rfl ?_
      refine Go.aload 91 at_89 rfl rfl rfl ?_
      have X_296 : Ext ht hc := extK E_291 Kc (allS (Nat.le_of_eq g_289) all0)
      have f_297 := Ft.ext X_296
      refine Go.callV (S := []) (a := x_288) 94 [(.ref x_279)] at_91 rfl rfl (w75 hw) (w76 hw) (w78 hw) (w77 hw) (fun _ q => notFace_of_selects (args := #[]) (mvT q (w78 hw))) (by decide) Ec (call_of_go (R := _) (len := 3) (W := 0) (plainFor_of_name pn_4) (fun mid => ef_tab11 mid x_288 x_279 vc ) (c_tab11 hw x_288 x_279 vc Fc f_297 H.hy H.hyn H.he H.hm SA) (w79 hw) (w62 hw) (by decide) (by decide)) (lenOf pd_12 rfl) (Nat.le_of_ble_eq_true rfl) rfl (Nat.le_of_ble_eq_true rfl) (Nat.le_of_ble_eq_true rfl) (fun _ q => nomatch q) (fun v h_298 sf_311 hq => ?_)
      obtain ⟨x_299, b_300, rfl, E_301, le_302, le_303, n_304, n_305, ne_306, A_307, G_308, G_309, A_310⟩ := hq
      refine Go.more (sf' := [x_288, x_279]) ?_ (Nat.le_refl _) (Nat.le_refl _) (fun _ q => List.mem_append_right _ q)
      show G_law l Z n0 19 51 [x_288, x_279] h_298 94 #[.val (.int p0), .val (.int p1), .val (.int p2), .val (.int (1 : Int32)), .val (.int n), .val (.int vc), .val (.ref x_279), .val (.ref x_288), .val (.int vc), .val (.int p), .val (.int (1 : Int32)), .unset, .unset] [(.ref x_299)]
      refine Go.astore 96 #[.val (.int p0), .val (.int p1), .val (.int p2), .val (.int (1 : Int32)), .val (.int n), .val (.int vc), .val (.ref x_279), .val (.ref x_288), .val (.int vc), .val (.int p), .val (.int (1 : Int32)), .val (.ref x_299), .unset] at_94 rfl rfl rfl ?_
      refine Go.aload 98 at_96 rfl rfl rfl ?_
      refine Go.iload 100 at_98 rfl rfl ?_
      refine Go.iload 102 at_100 rfl rfl ?_
      refine Go.iload 104 at_102 rfl rfl ?_
      refine Go.callS (S := []) 107 [(.ref x_299), (.int vc), (.int p), (.int (1 : Int32))] at_104 rfl rfl (w96 hw) (w97 hw) (w98 hw) (w99 hw) (by decide) (call_of_go (R := _) (len := 3) (W := 0) (plainFor_of_name pn_5) (fun mid => ef_exact1 mid x_299 b_300 ((0 : Int64) ||| (((-1 : Int64) <<< ((0 : Int32) &&& 0x3f).toInt64) &&& (ushrL (-1 : Int64) (-vc)))) vc p (1 : Int32) ) (c_exact1 hw x_299 b_300 ((0 : Int64) ||| (((-1 : Int64) <<< ((0 : Int32) &&& 0x3f).toInt64) &&& (ushrL (-1 : Int64) (-vc)))) vc p (1 : Int32) G_309 G_308 A_310 A_307 (not_neg b_p.1) (H.hs p b_p.1 b_p.2) SA H.h1 H.h2 ((H.h3 p b_p.1 b_p.2).trans (if_pos hc77))) (w99 hw) (w98 hw) (by decide) (by decide)) (lenOf pd_13 rfl) (Nat.le_of_ble_eq_true rfl) rfl (Nat.le_of_ble_eq_true rfl) (Nat.le_of_ble_eq_true rfl) (fun _ q => nomatch q) (fun v h_312 sf_313 hq => ?_)
      obtain ⟨rfl, rfl⟩ := hq
      refine Go.more (sf' := [x_288, x_279]) ?_ (Nat.le_refl _) (Nat.le_refl _) (fun _ q => List.mem_append_right _ q)
      show G_law l Z n0 19 51 [x_288, x_279] h_298 107 #[.val (.int p0), .val (.int p1), .val (.int p2), .val (.int (1 : Int32)), .val (.int n), .val (.int vc), .val (.ref x_279), .val (.ref x_288), .val (.int vc), .val (.int p), .val (.int (1 : Int32)), .val (.ref x_299), .unset] [(.int (1 : Int32))]
      refine Go.ifY 112 at_107 (by decide) (by decide) (feq (by decide)).2 ?_
      refine Go.aload 114 at_112 rfl rfl rfl ?_
      refine Go.iconst 115 (0 : Int32) at_114 rfl rfl ?_
      refine Go.iload 117 at_115 rfl rfl ?_
      refine Go.iconst 118 (2 : Int32) at_117 rfl rfl ?_
      refine Go.iadd 119 at_118 rfl ?_
      refine Go.sfN [x_299, b_300, x_288, x_279] ?_
      refine Go.callV (S := []) (a := x_299) 122 [(.int (0 : Int32)), (.int (vc + (2 : Int32)))] at_119 rfl rfl (w115 hw) (w116 hw) (w118 hw) (w117 hw) (fun _ q => notFace_of_selects (args := #[]) (mvT q (w118 hw))) (by decide) A_307 (call_of_go (R := _) (len := 3) (W := 0) (plainFor_of_name pn_0) (fun mid => ef_flip11 mid x_299 b_300 (1 : Int32) (vc + (2 : Int32)) ((0 : Int64) ||| (((-1 : Int64) <<< ((0 : Int32) &&& 0x3f).toInt64) &&& (ushrL (-1 : Int64) (-vc)))) ) (c_flip11 hw x_299 b_300 (1 : Int32) (vc + (2 : Int32)) ((0 : Int64) ||| (((-1 : Int64) <<< ((0 : Int32) &&& 0x3f).toInt64) &&& (ushrL (-1 : Int64) (-vc)))) A_307 n_304 ne_306 G_308 G_309 A_310 n_305 (by decide) H.gy H.gyn H.ge SA) (w119 hw) (w16 hw) (by decide) (by decide)) (lenOf pd_3 rfl) (Nat.le_of_ble_eq_true rfl) rfl (Nat.le_of_ble_eq_true rfl) (Nat.le_of_ble_eq_true rfl) (allS (List.mem_of_getElem? (i := 0) rfl) (allS (List.mem_of_getElem? (i := 1) rfl) all0)) (fun v h_314 sf_316 hq => ?_)
      obtain ⟨rfl, K_315⟩ := hq
      refine Go.more (sf' := [x_299, b_300, x_288, x_279]) ?_ (Nat.le_refl _) (Nat.le_refl _) (fun _ q => List.mem_append_right _ q)
      show G_law l Z n0 20 53 [x_299, b_300, x_288, x_279] h_314 122 #[.val (.int p0), .val (.int p1), .val (.int p2), .val (.int (1 : Int32)), .val (.int n), .val (.int vc), .val (.ref x_279), .val (.ref x_288), .val (.int vc), .val (.int p), .val (.int (1 : Int32)), .val (.ref x_299), .unset] []
      refine Go.aload 124 at_122 rfl rfl rfl ?_
      refine Go.aload 126 at_124 rfl rfl rfl ?_
      have X_317 : Ext hc h_314 := extK E_301 K_315 (allS le_302 (allS le_303 all0))
      have f_318 := Fc.ext X_317
      have f_319 := f_297.ext X_317
      have f_334 := Ec.ext X_317
      refine Go.callV (S := []) (a := x_288) 129 [(.ref x_279)] at_126 rfl rfl (w75 hw) (w76 hw) (w78 hw) (w77 hw) (fun _ q => notFace_of_selects (args := #[]) (mvT q (w78 hw))) (by decide) f_334 (call_of_go (R := _) (len := 3) (W := 0) (plainFor_of_name pn_4) (fun mid => ef_tab11 mid x_288 x_279 vc ) (c_tab11 hw x_288 x_279 vc f_318 f_319 H.hy H.hyn H.he H.hm SA) (w79 hw) (w62 hw) (by decide) (by decide)) (lenOf pd_12 rfl) (Nat.le_of_ble_eq_true rfl) rfl (Nat.le_of_ble_eq_true rfl) (Nat.le_of_ble_eq_true rfl) (fun _ q => nomatch q) (fun v h_320 sf_333 hq => ?_)
      obtain ⟨x_321, b_322, rfl, E_323, le_324, le_325, n_326, n_327, ne_328, A_329, G_330, G_331, A_332⟩ := hq
      refine Go.more (sf' := [x_299, b_300, x_288, x_279]) ?_ (Nat.le_refl _) (Nat.le_refl _) (fun _ q => List.mem_append_right _ q)
      show G_law l Z n0 22 58 [x_299, b_300, x_288, x_279] h_320 129 #[.val (.int p0), .val (.int p1), .val (.int p2), .val (.int (1 : Int32)), .val (.int n), .val (.int vc), .val (.ref x_279), .val (.ref x_288), .val (.int vc), .val (.int p), .val (.int (1 : Int32)), .val (.ref x_299), .unset] [(.ref x_321)]
      refine Go.astore 131 #[.val (.int p0), .val (.int p1), .val (.int p2), .val (.int (1 : Int32)), .val (.int n), .val (.int vc), .val (.ref x_279), .val (.ref x_288), .val (.int vc), .val (.int p), .val (.int (1 : Int32)), .val (.ref x_299), .val (.ref x_321)] at_129 rfl rfl rfl ?_
      refine Go.aload 133 at_131 rfl rfl rfl ?_
      refine Go.iload 135 at_133 rfl rfl ?_
      refine Go.iload 137 at_135 rfl rfl ?_
      refine Go.iload 139 at_137 rfl rfl ?_
      refine Go.callS (S := []) 142 [(.ref x_321), (.int vc), (.int p), (.int (1 : Int32))] at_139 rfl rfl (w96 hw) (w97 hw) (w98 hw) (w99 hw) (by decide) (call_of_go (R := _) (len := 3) (W := 0) (plainFor_of_name pn_5) (fun mid => ef_exact1 mid x_321 b_322 ((0 : Int64) ||| (((-1 : Int64) <<< ((0 : Int32) &&& 0x3f).toInt64) &&& (ushrL (-1 : Int64) (-vc)))) vc p (1 : Int32) ) (c_exact1 hw x_321 b_322 ((0 : Int64) ||| (((-1 : Int64) <<< ((0 : Int32) &&& 0x3f).toInt64) &&& (ushrL (-1 : Int64) (-vc)))) vc p (1 : Int32) G_331 G_330 A_332 A_329 (not_neg b_p.1) (H.hs p b_p.1 b_p.2) SA H.h1 H.h2 ((H.h3 p b_p.1 b_p.2).trans (if_pos hc77))) (w99 hw) (w98 hw) (by decide) (by decide)) (lenOf pd_13 rfl) (Nat.le_of_ble_eq_true rfl) rfl (Nat.le_of_ble_eq_true rfl) (Nat.le_of_ble_eq_true rfl) (fun _ q => nomatch q) (fun v h_335 sf_336 hq => ?_)
      obtain ⟨rfl, rfl⟩ := hq
      refine Go.more (sf' := [x_299, b_300, x_288, x_279]) ?_ (Nat.le_refl _) (Nat.le_refl _) (fun _ q => List.mem_append_right _ q)
      show G_law l Z n0 22 58 [x_299, b_300, x_288, x_279] h_320 142 #[.val (.int p0), .val (.int p1), .val (.int p2), .val (.int (1 : Int32)), .val (.int n), .val (.int vc), .val (.ref x_279), .val (.ref x_288), .val (.int vc), .val (.int p), .val (.int (1 : Int32)), .val (.ref x_299), .val (.ref x_321)] [(.int (1 : Int32))]
      exact Go.retN (1 : Int32) at_142 rfl (t := .boolean) (by simp) rfl (sf' := []) (rfl) (fun _ q => nomatch q) (Nat.le_of_ble_eq_true rfl) (Nat.le_of_ble_eq_true rfl)
    · skip
      refine Go.icmpY 84 at_77 (by decide) (by decide) (flt hc77).2.1 ?_
      refine Go.iconst 85 (0 : Int32) at_84 rfl rfl ?_
      refine Go.istore 87 #[.val (.int p0), .val (.int p1), .val (.int p2), .val (.int (1 : Int32)), .val (.int n), .val (.int vc), .val (.ref x_279), .val (.ref x_288), .val (.int vc), .val (.int p), .val (.int (0 : Int32)), .unset, .unset] at_85 rfl rfl ?_
      refine Go.aload 89 at_87 rfl rfl rfl ?_
      refine Go.aload 91 at_89 rfl rfl rfl ?_
      have X_337 : Ext ht hc := extK E_291 Kc (allS (Nat.le_of_eq g_289) all0)
      have f_338 := Ft.ext X_337
      refine Go.callV (S := []) (a := x_288) 94 [(.ref x_279)] at_91 rfl rfl (w75 hw) (w76 hw) (w78 hw) (w77 hw) (fun _ q => notFace_of_selects (args := #[]) (mvT q (w78 hw))) (by decide) Ec (call_of_go (R := _) (len := 3) (W := 0) (plainFor_of_name pn_4) (fun mid => ef_tab11 mid x_288 x_279 vc ) (c_tab11 hw x_288 x_279 vc Fc f_338 H.hy H.hyn H.he H.hm SA) (w79 hw) (w62 hw) (by decide) (by decide)) (lenOf pd_12 rfl) (Nat.le_of_ble_eq_true rfl) rfl (Nat.le_of_ble_eq_true rfl) (Nat.le_of_ble_eq_true rfl) (fun _ q => nomatch q) (fun v h_339 sf_352 hq => ?_)
      obtain ⟨x_340, b_341, rfl, E_342, le_343, le_344, n_345, n_346, ne_347, A_348, G_349, G_350, A_351⟩ := hq
      refine Go.more (sf' := [x_288, x_279]) ?_ (Nat.le_refl _) (Nat.le_refl _) (fun _ q => List.mem_append_right _ q)
      show G_law l Z n0 19 51 [x_288, x_279] h_339 94 #[.val (.int p0), .val (.int p1), .val (.int p2), .val (.int (1 : Int32)), .val (.int n), .val (.int vc), .val (.ref x_279), .val (.ref x_288), .val (.int vc), .val (.int p), .val (.int (0 : Int32)), .unset, .unset] [(.ref x_340)]
      refine Go.astore 96 #[.val (.int p0), .val (.int p1), .val (.int p2), .val (.int (1 : Int32)), .val (.int n), .val (.int vc), .val (.ref x_279), .val (.ref x_288), .val (.int vc), .val (.int p), .val (.int (0 : Int32)), .val (.ref x_340), .unset] at_94 rfl rfl rfl ?_
      refine Go.aload 98 at_96 rfl rfl rfl ?_
      refine Go.iload 100 at_98 rfl rfl ?_
      refine Go.iload 102 at_100 rfl rfl ?_
      refine Go.iload 104 at_102 rfl rfl ?_
      refine Go.callS (S := []) 107 [(.ref x_340), (.int vc), (.int p), (.int (0 : Int32))] at_104 rfl rfl (w96 hw) (w97 hw) (w98 hw) (w99 hw) (by decide) (call_of_go (R := _) (len := 3) (W := 0) (plainFor_of_name pn_5) (fun mid => ef_exact1 mid x_340 b_341 ((0 : Int64) ||| (((-1 : Int64) <<< ((0 : Int32) &&& 0x3f).toInt64) &&& (ushrL (-1 : Int64) (-vc)))) vc p (0 : Int32) ) (c_exact1 hw x_340 b_341 ((0 : Int64) ||| (((-1 : Int64) <<< ((0 : Int32) &&& 0x3f).toInt64) &&& (ushrL (-1 : Int64) (-vc)))) vc p (0 : Int32) G_350 G_349 A_351 A_348 (not_neg b_p.1) (H.hs p b_p.1 b_p.2) SA H.h1 H.h2 ((H.h3 p b_p.1 b_p.2).trans (if_neg hc77))) (w99 hw) (w98 hw) (by decide) (by decide)) (lenOf pd_13 rfl) (Nat.le_of_ble_eq_true rfl) rfl (Nat.le_of_ble_eq_true rfl) (Nat.le_of_ble_eq_true rfl) (fun _ q => nomatch q) (fun v h_353 sf_354 hq => ?_)
      obtain ⟨rfl, rfl⟩ := hq
      refine Go.more (sf' := [x_288, x_279]) ?_ (Nat.le_refl _) (Nat.le_refl _) (fun _ q => List.mem_append_right _ q)
      show G_law l Z n0 19 51 [x_288, x_279] h_339 107 #[.val (.int p0), .val (.int p1), .val (.int p2), .val (.int (1 : Int32)), .val (.int n), .val (.int vc), .val (.ref x_279), .val (.ref x_288), .val (.int vc), .val (.int p), .val (.int (0 : Int32)), .val (.ref x_340), .unset] [(.int (1 : Int32))]
      refine Go.ifY 112 at_107 (by decide) (by decide) (feq (by decide)).2 ?_
      refine Go.aload 114 at_112 rfl rfl rfl ?_
      refine Go.iconst 115 (0 : Int32) at_114 rfl rfl ?_
      refine Go.iload 117 at_115 rfl rfl ?_
      refine Go.iconst 118 (2 : Int32) at_117 rfl rfl ?_
      refine Go.iadd 119 at_118 rfl ?_
      refine Go.sfN [x_340, b_341, x_288, x_279] ?_
      refine Go.callV (S := []) (a := x_340) 122 [(.int (0 : Int32)), (.int (vc + (2 : Int32)))] at_119 rfl rfl (w115 hw) (w116 hw) (w118 hw) (w117 hw) (fun _ q => notFace_of_selects (args := #[]) (mvT q (w118 hw))) (by decide) A_348 (call_of_go (R := _) (len := 3) (W := 0) (plainFor_of_name pn_0) (fun mid => ef_flip11 mid x_340 b_341 (1 : Int32) (vc + (2 : Int32)) ((0 : Int64) ||| (((-1 : Int64) <<< ((0 : Int32) &&& 0x3f).toInt64) &&& (ushrL (-1 : Int64) (-vc)))) ) (c_flip11 hw x_340 b_341 (1 : Int32) (vc + (2 : Int32)) ((0 : Int64) ||| (((-1 : Int64) <<< ((0 : Int32) &&& 0x3f).toInt64) &&& (ushrL (-1 : Int64) (-vc)))) A_348 n_345 ne_347 G_349 G_350 A_351 n_346 (by decide) H.gy H.gyn H.ge SA) (w119 hw) (w16 hw) (by decide) (by decide)) (lenOf pd_3 rfl) (Nat.le_of_ble_eq_true rfl) rfl (Nat.le_of_ble_eq_true rfl) (Nat.le_of_ble_eq_true rfl) (allS (List.mem_of_getElem? (i := 0) rfl) (allS (List.mem_of_getElem? (i := 1) rfl) all0)) (fun v h_355 sf_357 hq => ?_)
      obtain ⟨rfl, K_356⟩ := hq
      refine Go.more (sf' := [x_340, b_341, x_288, x_279]) ?_ (Nat.le_refl _) (Nat.le_refl _) (fun _ q => List.mem_append_right _ q)
      show G_law l Z n0 20 53 [x_340, b_341, x_288, x_279] h_355 122 #[.val (.int p0), .val (.int p1), .val (.int p2), .val (.int (1 : Int32)), .val (.int n), .val (.int vc), .val (.ref x_279), .val (.ref x_288), .val (.int vc), .val (.int p), .val (.int (0 : Int32)), .val (.ref x_340), .unset] []
      refine Go.aload 124 at_122 rfl rfl rfl ?_
      refine Go.aload 126 at_124 rfl rfl rfl ?_
      have X_358 : Ext hc h_355 := extK E_342 K_356 (allS le_343 (allS le_344 all0))
      have f_359 := Fc.ext X_358
      have f_360 := f_338.ext X_358
      have f_375 := Ec.ext X_358
      refine Go.callV (S := []) (a := x_288) 129 [(.ref x_279)] at_126 rfl rfl (w75 hw) (w76 hw) (w78 hw) (w77 hw) (fun _ q => notFace_of_selects (args := #[]) (mvT q (w78 hw))) (by decide) f_375 (call_of_go (R := _) (len := 3) (W := 0) (plainFor_of_name pn_4) (fun mid => ef_tab11 mid x_288 x_279 vc ) (c_tab11 hw x_288 x_279 vc f_359 f_360 H.hy H.hyn H.he H.hm SA) (w79 hw) (w62 hw) (by decide) (by decide)) (lenOf pd_12 rfl) (Nat.le_of_ble_eq_true rfl) rfl (Nat.le_of_ble_eq_true rfl) (Nat.le_of_ble_eq_true rfl) (fun _ q => nomatch q) (fun v h_361 sf_374 hq => ?_)
      obtain ⟨x_362, b_363, rfl, E_364, le_365, le_366, n_367, n_368, ne_369, A_370, G_371, G_372, A_373⟩ := hq
      refine Go.more (sf' := [x_340, b_341, x_288, x_279]) ?_ (Nat.le_refl _) (Nat.le_refl _) (fun _ q => List.mem_append_right _ q)
      show G_law l Z n0 22 58 [x_340, b_341, x_288, x_279] h_361 129 #[.val (.int p0), .val (.int p1), .val (.int p2), .val (.int (1 : Int32)), .val (.int n), .val (.int vc), .val (.ref x_279), .val (.ref x_288), .val (.int vc), .val (.int p), .val (.int (0 : Int32)), .val (.ref x_340), .unset] [(.ref x_362)]
      refine Go.astore 131 #[.val (.int p0), .val (.int p1), .val (.int p2), .val (.int (1 : Int32)), .val (.int n), .val (.int vc), .val (.ref x_279), .val (.ref x_288), .val (.int vc), .val (.int p), .val (.int (0 : Int32)), .val (.ref x_340), .val (.ref x_362)] at_129 rfl rfl rfl ?_
      refine Go.aload 133 at_131 rfl rfl rfl ?_
      refine Go.iload 135 at_133 rfl rfl ?_
      refine Go.iload 137 at_135 rfl rfl ?_
      refine Go.iload 139 at_137 rfl rfl ?_
      refine Go.callS (S := []) 142 [(.ref x_362), (.int vc), (.int p), (.int (0 : Int32))] at_139 rfl rfl (w96 hw) (w97 hw) (w98 hw) (w99 hw) (by decide) (call_of_go (R := _) (len := 3) (W := 0) (plainFor_of_name pn_5) (fun mid => ef_exact1 mid x_362 b_363 ((0 : Int64) ||| (((-1 : Int64) <<< ((0 : Int32) &&& 0x3f).toInt64) &&& (ushrL (-1 : Int64) (-vc)))) vc p (0 : Int32) ) (c_exact1 hw x_362 b_363 ((0 : Int64) ||| (((-1 : Int64) <<< ((0 : Int32) &&& 0x3f).toInt64) &&& (ushrL (-1 : Int64) (-vc)))) vc p (0 : Int32) G_372 G_371 A_373 A_370 (not_neg b_p.1) (H.hs p b_p.1 b_p.2) SA H.h1 H.h2 ((H.h3 p b_p.1 b_p.2).trans (if_neg hc77))) (w99 hw) (w98 hw) (by decide) (by decide)) (lenOf pd_13 rfl) (Nat.le_of_ble_eq_true rfl) rfl (Nat.le_of_ble_eq_true rfl) (Nat.le_of_ble_eq_true rfl) (fun _ q => nomatch q) (fun v h_376 sf_377 hq => ?_)
      obtain ⟨rfl, rfl⟩ := hq
      refine Go.more (sf' := [x_340, b_341, x_288, x_279]) ?_ (Nat.le_refl _) (Nat.le_refl _) (fun _ q => List.mem_append_right _ q)
      show G_law l Z n0 22 58 [x_340, b_341, x_288, x_279] h_361 142 #[.val (.int p0), .val (.int p1), .val (.int p2), .val (.int (1 : Int32)), .val (.int n), .val (.int vc), .val (.ref x_279), .val (.ref x_288), .val (.int vc), .val (.int p), .val (.int (0 : Int32)), .val (.ref x_340), .val (.ref x_362)] [(.int (1 : Int32))]
      exact Go.retN (1 : Int32) at_142 rfl (t := .boolean) (by simp) rfl (sf' := []) (rfl) (fun _ q => nomatch q) (Nat.le_of_ble_eq_true rfl) (Nat.le_of_ble_eq_true rfl)
  have tl122 : ∀ (n vc : Int32) (nn : Nat) (H : VC2 (2 : Int32) n vc nn), G_law l Z n0 0 0 [] h0 24 #[.val (.int p0), .val (.int p1), .val (.int p2), .val (.int (1 : Int32)), .val (.int n), .val (.int vc), .unset, .unset, .unset, .unset, .unset, .unset, .unset] [] := by
    intro n vc nn H
    refine Go.new 27 at_24 rfl (w0 hw) (w1 hw) (w2 hw) (Nat.le_of_ble_eq_true rfl) (Nat.le_of_ble_eq_true rfl) (fun h_378 x_379 g_380 q_381 E_382 lt_383 A_384 D_385 => ?_)
    show G_law l Z n0 1 3 [x_379] h_378 27 #[.val (.int p0), .val (.int p1), .val (.int p2), .val (.int (1 : Int32)), .val (.int n), .val (.int vc), .unset, .unset, .unset, .unset, .unset, .unset, .unset] [(.ref x_379)]
    refine Go.dup 28 at_27 rfl rfl ?_
    refine Go.iload 30 at_28 rfl rfl ?_
    refine Go.aconstNull 31 at_30 rfl ?_
    refine Go.callC (S := [(.ref x_379)]) (a := x_379) 34 [(.int n), .null] at_31 rfl rfl rfl (w3 hw) (w4 hw) (w5 hw) (by decide) (call_of_go (R := _) (len := 3) (W := 1) (plainFor_of_name pn_3) (fun mid => ef_tabinit mid x_379 n vc nn 2 ) (c_tabinit hw x_379 n vc nn 2 A_384 q_381 (D_385 (Or.inr (w10 hw)) (ty := .int) (by decide)) H.hn H.hn7 H.hvc H.hv0 H.hv1 H.hm (by decide) H.hj SA) (w5 hw) (w2 hw) (by decide) (by decide)) (lenOf pd_10 rfl) (Nat.le_of_ble_eq_true rfl) rfl (Nat.le_of_ble_eq_true rfl) (Nat.le_of_ble_eq_true rfl) (fun _ q => q) (fun v ht sf_386 hq => ?_)
    obtain ⟨rfl, Kt, Et, Ft⟩ := hq
    refine Go.more (sf' := [x_379]) ?_ (Nat.le_refl _) (Nat.le_refl _) (fun _ q => List.mem_append_right _ q)
    show G_law l Z n0 16 45 [x_379] ht 34 #[.val (.int p0), .val (.int p1), .val (.int p2), .val (.int (1 : Int32)), .val (.int n), .val (.int vc), .unset, .unset, .unset, .unset, .unset, .unset, .unset] [(.ref x_379)]
    refine Go.astore 36 #[.val (.int p0), .val (.int p1), .val (.int p2), .val (.int (1 : Int32)), .val (.int n), .val (.int vc), .val (.ref x_379), .unset, .unset, .unset, .unset, .unset, .unset] at_34 rfl rfl rfl ?_
    refine Go.new 39 at_36 rfl (w60 hw) (w61 hw) (w62 hw) (Nat.le_of_ble_eq_true rfl) (Nat.le_of_ble_eq_true rfl) (fun h_387 x_388 g_389 q_390 E_391 lt_392 A_393 D_394 => ?_)
    show G_law l Z n0 17 46 [x_388, x_379] h_387 39 #[.val (.int p0), .val (.int p1), .val (.int p2), .val (.int (1 : Int32)), .val (.int n), .val (.int vc), .val (.ref x_379), .unset, .unset, .unset, .unset, .unset, .unset] [(.ref x_388)]
    refine Go.dup 40 at_39 rfl rfl ?_
    refine Go.iloadN 41 at_40 rfl rfl ?_
    refine Go.callC (S := [(.ref x_388)]) (a := x_388) 44 [(.int (1 : Int32))] at_41 rfl rfl rfl (w63 hw) (w64 hw) (w65 hw) (by decide) (call_of_go (R := _) (len := 3) (W := 1) (plainFor_of_name pn_4) (fun mid => ef_con1 mid x_388 ) (c_con1 hw x_388 A_393 q_390 (D_394 (Or.inr (w73 hw)) (ty := .boolean) (by decide))) (w65 hw) (w62 hw) (by decide) (by decide)) (lenOf pd_11 rfl) (Nat.le_of_ble_eq_true rfl) rfl (Nat.le_of_ble_eq_true rfl) (Nat.le_of_ble_eq_true rfl) (sub1 (List.mem_of_getElem? (i := 0) rfl)) (fun v hc sf_395 hq => ?_)
    obtain ⟨rfl, Kc, Ec, Fc⟩ := hq
    refine Go.more (sf' := [x_388, x_379]) ?_ (Nat.le_refl _) (Nat.le_refl _) (fun _ q => List.mem_append_right _ q)
    show G_law l Z n0 17 46 [x_388, x_379] hc 44 #[.val (.int p0), .val (.int p1), .val (.int p2), .val (.int (1 : Int32)), .val (.int n), .val (.int vc), .val (.ref x_379), .unset, .unset, .unset, .unset, .unset, .unset] [(.ref x_388)]
    refine Go.astore 46 #[.val (.int p0), .val (.int p1), .val (.int p2), .val (.int (1 : Int32)), .val (.int n), .val (.int vc), .val (.ref x_379), .val (.ref x_388), .unset, .unset, .unset, .unset, .unset] at_44 rfl rfl rfl ?_
    refine Go.iloadN 47 at_46 rfl rfl ?_
    refine Go.ifN 50 at_47 rfl (feq (by decide)).1 ?_
    refine Go.iload 52 at_50 rfl rfl ?_
    refine Go.goto 56 at_52 (by decide) (by decide) ?_
    refine Go.istore 58 #[.val (.int p0), .val (.int p1), .val (.int p2), .val (.int (1 : Int32)), .val (.int n), .val (.int vc), .val (.ref x_379), .val (.ref x_388), .val (.int vc), .unset, .unset, .unset, .unset] at_56 rfl rfl ?_
    refine Go.iloadN 59 at_58 rfl rfl ?_
    refine Go.ldcI 61 at_59 rfl (w74 hw) ?_
    refine Go.iand 62 at_61 rfl ?_
    refine Go.iload 64 at_62 rfl rfl ?_
    refine Go.iconst 65 (2 : Int32) at_64 rfl rfl ?_
    refine Go.iadd 66 at_65 rfl ?_
    refine Go.irem 67 at_66 rfl (fun q => H.gyn q.symm) ?_
    obtain ⟨p, e_p⟩ : ∃ y_ : Int32, y_ = ((p2 &&& (2147483647 : Int32)) % (vc + (2 : Int32))) := ⟨_, rfl⟩
    have b_p : 0 ≤ p.toInt ∧ p.toInt < (vc + (2 : Int32)).toInt := by rw [e_p]; exact (fun q => ⟨q.1, q.2.1⟩) ((c_iremV (p2 &&& (2147483647 : Int32)) (vc + (2 : Int32))).1 (c_and p2 2147483647 (by decide)).1 H.hp)
    rw [← e_p]
    show G_law l Z n0 17 46 [x_388, x_379] hc 67 #[.val (.int p0), .val (.int p1), .val (.int p2), .val (.int (1 : Int32)), .val (.int n), .val (.int vc), .val (.ref x_379), .val (.ref x_388), .val (.int vc), .unset, .unset, .unset, .unset] [(.int p)]
    refine Go.istore 69 #[.val (.int p0), .val (.int p1), .val (.int p2), .val (.int (1 : Int32)), .val (.int n), .val (.int vc), .val (.ref x_379), .val (.ref x_388), .val (.int vc), .val (.int p), .unset, .unset, .unset] at_67 rfl rfl ?_
    refine Go.iloadN 70 at_69 rfl rfl ?_
    refine Go.ifN 73 at_70 rfl (feq (by decide)).1 ?_
    refine Go.iload 75 at_73 rfl rfl ?_
    refine Go.iload 77 at_75 rfl rfl ?_
    by_cases hc77 : p < vc
    · skip
      refine Go.icmpN 80 at_77 rfl (tlt hc77).2.1 ?_
      refine Go.iconst 81 (1 : Int32) at_80 rfl rfl ?_
      refine Go.goto 85 at_81 (by decide) (by decide) ?_
      refine Go.istore 87 #[.val (.int p0), .val (.int p1), .val (.int p2), .val (.int (1 : Int32)), .val (.int n), .val (.int vc), .val (.ref x_379), .val (.ref x_388), .val (.int vc), .val (.int p), .val (.int (1 : Int32)), .unset, .unset] at_85 rfl rfl ?_
      refine Go.aload 89 at_87 rfl rfl rfl ?_
      refine Go.aload 91 at_89 rfl rfl rfl ?_
      have X_396 : Ext ht hc := extK E_391 Kc (allS (Nat.le_of_eq g_389) all0)
      have f_397 := Ft.ext X_396
      refine Go.callV (S := []) (a := x_388) 94 [(.ref x_379)] at_91 rfl rfl (w75 hw) (w76 hw) (w78 hw) (w77 hw) (fun _ q => notFace_of_selects (args := #[]) (mvT q (w78 hw))) (by decide) Ec (call_of_go (R := _) (len := 3) (W := 0) (plainFor_of_name pn_4) (fun mid => ef_tab21 mid x_388 x_379 vc ) (c_tab21 hw x_388 x_379 vc Fc f_397 H.hy H.hyn H.he H.hm SA) (w79 hw) (w62 hw) (by decide) (by decide)) (lenOf pd_12 rfl) (Nat.le_of_ble_eq_true rfl) rfl (Nat.le_of_ble_eq_true rfl) (Nat.le_of_ble_eq_true rfl) (fun _ q => nomatch q) (fun v h_398 sf_411 hq => ?_)
      obtain ⟨x_399, b_400, rfl, E_401, le_402, le_403, n_404, n_405, ne_406, A_407, G_408, G_409, A_410⟩ := hq
      refine Go.more (sf' := [x_388, x_379]) ?_ (Nat.le_refl _) (Nat.le_refl _) (fun _ q => List.mem_append_right _ q)
      show G_law l Z n0 19 51 [x_388, x_379] h_398 94 #[.val (.int p0), .val (.int p1), .val (.int p2), .val (.int (1 : Int32)), .val (.int n), .val (.int vc), .val (.ref x_379), .val (.ref x_388), .val (.int vc), .val (.int p), .val (.int (1 : Int32)), .unset, .unset] [(.ref x_399)]
      refine Go.astore 96 #[.val (.int p0), .val (.int p1), .val (.int p2), .val (.int (1 : Int32)), .val (.int n), .val (.int vc), .val (.ref x_379), .val (.ref x_388), .val (.int vc), .val (.int p), .val (.int (1 : Int32)), .val (.ref x_399), .unset] at_94 rfl rfl rfl ?_
      refine Go.aload 98 at_96 rfl rfl rfl ?_
      refine Go.iload 100 at_98 rfl rfl ?_
      refine Go.iload 102 at_100 rfl rfl ?_
      refine Go.iload 104 at_102 rfl rfl ?_
      refine Go.callS (S := []) 107 [(.ref x_399), (.int vc), (.int p), (.int (1 : Int32))] at_104 rfl rfl (w96 hw) (w97 hw) (w98 hw) (w99 hw) (by decide) (call_of_go (R := _) (len := 3) (W := 0) (plainFor_of_name pn_5) (fun mid => ef_exact2 mid x_399 b_400 ((0 : Int64) ||| ((-1 : Int64) <<< ((0 : Int32) &&& 0x3f).toInt64)) ((0 : Int64) ||| (ushrL (-1 : Int64) (-vc))) vc p (1 : Int32) ) (c_exact2 hw x_399 b_400 ((0 : Int64) ||| ((-1 : Int64) <<< ((0 : Int32) &&& 0x3f).toInt64)) ((0 : Int64) ||| (ushrL (-1 : Int64) (-vc))) vc p (1 : Int32) G_409 G_408 A_410 A_407 (not_neg b_p.1) (H.hs p b_p.1 b_p.2) SA H.h1 H.h2 ((H.h3 p b_p.1 b_p.2).trans (if_pos hc77))) (w99 hw) (w98 hw) (by decide) (by decide)) (lenOf pd_13 rfl) (Nat.le_of_ble_eq_true rfl) rfl (Nat.le_of_ble_eq_true rfl) (Nat.le_of_ble_eq_true rfl) (fun _ q => nomatch q) (fun v h_412 sf_413 hq => ?_)
      obtain ⟨rfl, rfl⟩ := hq
      refine Go.more (sf' := [x_388, x_379]) ?_ (Nat.le_refl _) (Nat.le_refl _) (fun _ q => List.mem_append_right _ q)
      show G_law l Z n0 19 51 [x_388, x_379] h_398 107 #[.val (.int p0), .val (.int p1), .val (.int p2), .val (.int (1 : Int32)), .val (.int n), .val (.int vc), .val (.ref x_379), .val (.ref x_388), .val (.int vc), .val (.int p), .val (.int (1 : Int32)), .val (.ref x_399), .unset] [(.int (1 : Int32))]
      refine Go.ifY 112 at_107 (by decide) (by decide) (feq (by decide)).2 ?_
      refine Go.aload 114 at_112 rfl rfl rfl ?_
      refine Go.iconst 115 (0 : Int32) at_114 rfl rfl ?_
      refine Go.iload 117 at_115 rfl rfl ?_
      refine Go.iconst 118 (2 : Int32) at_117 rfl rfl ?_
      refine Go.iadd 119 at_118 rfl ?_
      refine Go.sfN [x_399, b_400, x_388, x_379] ?_
      refine Go.callV (S := []) (a := x_399) 122 [(.int (0 : Int32)), (.int (vc + (2 : Int32)))] at_119 rfl rfl (w115 hw) (w116 hw) (w118 hw) (w117 hw) (fun _ q => notFace_of_selects (args := #[]) (mvT q (w118 hw))) (by decide) A_407 (call_of_go (R := _) (len := 3) (W := 0) (plainFor_of_name pn_0) (fun mid => ef_flip22 mid x_399 b_400 (2 : Int32) (vc + (2 : Int32)) ((0 : Int64) ||| ((-1 : Int64) <<< ((0 : Int32) &&& 0x3f).toInt64)) ((0 : Int64) ||| (ushrL (-1 : Int64) (-vc))) ) (c_flip22 hw x_399 b_400 (2 : Int32) (vc + (2 : Int32)) ((0 : Int64) ||| ((-1 : Int64) <<< ((0 : Int32) &&& 0x3f).toInt64)) ((0 : Int64) ||| (ushrL (-1 : Int64) (-vc))) A_407 n_404 ne_406 G_408 G_409 A_410 n_405 (by decide) H.gy H.gyn H.ge SA) (w119 hw) (w16 hw) (by decide) (by decide)) (lenOf pd_3 rfl) (Nat.le_of_ble_eq_true rfl) rfl (Nat.le_of_ble_eq_true rfl) (Nat.le_of_ble_eq_true rfl) (allS (List.mem_of_getElem? (i := 0) rfl) (allS (List.mem_of_getElem? (i := 1) rfl) all0)) (fun v h_414 sf_416 hq => ?_)
      obtain ⟨rfl, K_415⟩ := hq
      refine Go.more (sf' := [x_399, b_400, x_388, x_379]) ?_ (Nat.le_refl _) (Nat.le_refl _) (fun _ q => List.mem_append_right _ q)
      show G_law l Z n0 20 55 [x_399, b_400, x_388, x_379] h_414 122 #[.val (.int p0), .val (.int p1), .val (.int p2), .val (.int (1 : Int32)), .val (.int n), .val (.int vc), .val (.ref x_379), .val (.ref x_388), .val (.int vc), .val (.int p), .val (.int (1 : Int32)), .val (.ref x_399), .unset] []
      refine Go.aload 124 at_122 rfl rfl rfl ?_
      refine Go.aload 126 at_124 rfl rfl rfl ?_
      have X_417 : Ext hc h_414 := extK E_401 K_415 (allS le_402 (allS le_403 all0))
      have f_418 := Fc.ext X_417
      have f_419 := f_397.ext X_417
      have f_434 := Ec.ext X_417
      refine Go.callV (S := []) (a := x_388) 129 [(.ref x_379)] at_126 rfl rfl (w75 hw) (w76 hw) (w78 hw) (w77 hw) (fun _ q => notFace_of_selects (args := #[]) (mvT q (w78 hw))) (by decide) f_434 (call_of_go (R := _) (len := 3) (W := 0) (plainFor_of_name pn_4) (fun mid => ef_tab21 mid x_388 x_379 vc ) (c_tab21 hw x_388 x_379 vc f_418 f_419 H.hy H.hyn H.he H.hm SA) (w79 hw) (w62 hw) (by decide) (by decide)) (lenOf pd_12 rfl) (Nat.le_of_ble_eq_true rfl) rfl (Nat.le_of_ble_eq_true rfl) (Nat.le_of_ble_eq_true rfl) (fun _ q => nomatch q) (fun v h_420 sf_433 hq => ?_)
      obtain ⟨x_421, b_422, rfl, E_423, le_424, le_425, n_426, n_427, ne_428, A_429, G_430, G_431, A_432⟩ := hq
      refine Go.more (sf' := [x_399, b_400, x_388, x_379]) ?_ (Nat.le_refl _) (Nat.le_refl _) (fun _ q => List.mem_append_right _ q)
      show G_law l Z n0 22 60 [x_399, b_400, x_388, x_379] h_420 129 #[.val (.int p0), .val (.int p1), .val (.int p2), .val (.int (1 : Int32)), .val (.int n), .val (.int vc), .val (.ref x_379), .val (.ref x_388), .val (.int vc), .val (.int p), .val (.int (1 : Int32)), .val (.ref x_399), .unset] [(.ref x_421)]
      refine Go.astore 131 #[.val (.int p0), .val (.int p1), .val (.int p2), .val (.int (1 : Int32)), .val (.int n), .val (.int vc), .val (.ref x_379), .val (.ref x_388), .val (.int vc), .val (.int p), .val (.int (1 : Int32)), .val (.ref x_399), .val (.ref x_421)] at_129 rfl rfl rfl ?_
      refine Go.aload 133 at_131 rfl rfl rfl ?_
      refine Go.iload 135 at_133 rfl rfl ?_
      refine Go.iload 137 at_135 rfl rfl ?_
      refine Go.iload 139 at_137 rfl rfl ?_
      refine Go.callS (S := []) 142 [(.ref x_421), (.int vc), (.int p), (.int (1 : Int32))] at_139 rfl rfl (w96 hw) (w97 hw) (w98 hw) (w99 hw) (by decide) (call_of_go (R := _) (len := 3) (W := 0) (plainFor_of_name pn_5) (fun mid => ef_exact2 mid x_421 b_422 ((0 : Int64) ||| ((-1 : Int64) <<< ((0 : Int32) &&& 0x3f).toInt64)) ((0 : Int64) ||| (ushrL (-1 : Int64) (-vc))) vc p (1 : Int32) ) (c_exact2 hw x_421 b_422 ((0 : Int64) ||| ((-1 : Int64) <<< ((0 : Int32) &&& 0x3f).toInt64)) ((0 : Int64) ||| (ushrL (-1 : Int64) (-vc))) vc p (1 : Int32) G_431 G_430 A_432 A_429 (not_neg b_p.1) (H.hs p b_p.1 b_p.2) SA H.h1 H.h2 ((H.h3 p b_p.1 b_p.2).trans (if_pos hc77))) (w99 hw) (w98 hw) (by decide) (by decide)) (lenOf pd_13 rfl) (Nat.le_of_ble_eq_true rfl) rfl (Nat.le_of_ble_eq_true rfl) (Nat.le_of_ble_eq_true rfl) (fun _ q => nomatch q) (fun v h_435 sf_436 hq => ?_)
      obtain ⟨rfl, rfl⟩ := hq
      refine Go.more (sf' := [x_399, b_400, x_388, x_379]) ?_ (Nat.le_refl _) (Nat.le_refl _) (fun _ q => List.mem_append_right _ q)
      show G_law l Z n0 22 60 [x_399, b_400, x_388, x_379] h_420 142 #[.val (.int p0), .val (.int p1), .val (.int p2), .val (.int (1 : Int32)), .val (.int n), .val (.int vc), .val (.ref x_379), .val (.ref x_388), .val (.int vc), .val (.int p), .val (.int (1 : Int32)), .val (.ref x_399), .val (.ref x_421)] [(.int (1 : Int32))]
      exact Go.retN (1 : Int32) at_142 rfl (t := .boolean) (by simp) rfl (sf' := []) (rfl) (fun _ q => nomatch q) (Nat.le_of_ble_eq_true rfl) (Nat.le_of_ble_eq_true rfl)
    · skip
      refine Go.icmpY 84 at_77 (by decide) (by decide) (flt hc77).2.1 ?_
      refine Go.iconst 85 (0 : Int32) at_84 rfl rfl ?_
      refine Go.istore 87 #[.val (.int p0), .val (.int p1), .val (.int p2), .val (.int (1 : Int32)), .val (.int n), .val (.int vc), .val (.ref x_379), .val (.ref x_388), .val (.int vc), .val (.int p), .val (.int (0 : Int32)), .unset, .unset] at_85 rfl rfl ?_
      refine Go.aload 89 at_87 rfl rfl rfl ?_
      refine Go.aload 91 at_89 rfl rfl rfl ?_
      have X_437 : Ext ht hc := extK E_391 Kc (allS (Nat.le_of_eq g_389) all0)
      have f_438 := Ft.ext X_437
      refine Go.callV (S := []) (a := x_388) 94 [(.ref x_379)] at_91 rfl rfl (w75 hw) (w76 hw) (w78 hw) (w77 hw) (fun _ q => notFace_of_selects (args := #[]) (mvT q (w78 hw))) (by decide) Ec (call_of_go (R := _) (len := 3) (W := 0) (plainFor_of_name pn_4) (fun mid => ef_tab21 mid x_388 x_379 vc ) (c_tab21 hw x_388 x_379 vc Fc f_438 H.hy H.hyn H.he H.hm SA) (w79 hw) (w62 hw) (by decide) (by decide)) (lenOf pd_12 rfl) (Nat.le_of_ble_eq_true rfl) rfl (Nat.le_of_ble_eq_true rfl) (Nat.le_of_ble_eq_true rfl) (fun _ q => nomatch q) (fun v h_439 sf_452 hq => ?_)
      obtain ⟨x_440, b_441, rfl, E_442, le_443, le_444, n_445, n_446, ne_447, A_448, G_449, G_450, A_451⟩ := hq
      refine Go.more (sf' := [x_388, x_379]) ?_ (Nat.le_refl _) (Nat.le_refl _) (fun _ q => List.mem_append_right _ q)
      show G_law l Z n0 19 51 [x_388, x_379] h_439 94 #[.val (.int p0), .val (.int p1), .val (.int p2), .val (.int (1 : Int32)), .val (.int n), .val (.int vc), .val (.ref x_379), .val (.ref x_388), .val (.int vc), .val (.int p), .val (.int (0 : Int32)), .unset, .unset] [(.ref x_440)]
      refine Go.astore 96 #[.val (.int p0), .val (.int p1), .val (.int p2), .val (.int (1 : Int32)), .val (.int n), .val (.int vc), .val (.ref x_379), .val (.ref x_388), .val (.int vc), .val (.int p), .val (.int (0 : Int32)), .val (.ref x_440), .unset] at_94 rfl rfl rfl ?_
      refine Go.aload 98 at_96 rfl rfl rfl ?_
      refine Go.iload 100 at_98 rfl rfl ?_
      refine Go.iload 102 at_100 rfl rfl ?_
      refine Go.iload 104 at_102 rfl rfl ?_
      refine Go.callS (S := []) 107 [(.ref x_440), (.int vc), (.int p), (.int (0 : Int32))] at_104 rfl rfl (w96 hw) (w97 hw) (w98 hw) (w99 hw) (by decide) (call_of_go (R := _) (len := 3) (W := 0) (plainFor_of_name pn_5) (fun mid => ef_exact2 mid x_440 b_441 ((0 : Int64) ||| ((-1 : Int64) <<< ((0 : Int32) &&& 0x3f).toInt64)) ((0 : Int64) ||| (ushrL (-1 : Int64) (-vc))) vc p (0 : Int32) ) (c_exact2 hw x_440 b_441 ((0 : Int64) ||| ((-1 : Int64) <<< ((0 : Int32) &&& 0x3f).toInt64)) ((0 : Int64) ||| (ushrL (-1 : Int64) (-vc))) vc p (0 : Int32) G_450 G_449 A_451 A_448 (not_neg b_p.1) (H.hs p b_p.1 b_p.2) SA H.h1 H.h2 ((H.h3 p b_p.1 b_p.2).trans (if_neg hc77))) (w99 hw) (w98 hw) (by decide) (by decide)) (lenOf pd_13 rfl) (Nat.le_of_ble_eq_true rfl) rfl (Nat.le_of_ble_eq_true rfl) (Nat.le_of_ble_eq_true rfl) (fun _ q => nomatch q) (fun v h_453 sf_454 hq => ?_)
      obtain ⟨rfl, rfl⟩ := hq
      refine Go.more (sf' := [x_388, x_379]) ?_ (Nat.le_refl _) (Nat.le_refl _) (fun _ q => List.mem_append_right _ q)
      show G_law l Z n0 19 51 [x_388, x_379] h_439 107 #[.val (.int p0), .val (.int p1), .val (.int p2), .val (.int (1 : Int32)), .val (.int n), .val (.int vc), .val (.ref x_379), .val (.ref x_388), .val (.int vc), .val (.int p), .val (.int (0 : Int32)), .val (.ref x_440), .unset] [(.int (1 : Int32))]
      refine Go.ifY 112 at_107 (by decide) (by decide) (feq (by decide)).2 ?_
      refine Go.aload 114 at_112 rfl rfl rfl ?_
      refine Go.iconst 115 (0 : Int32) at_114 rfl rfl ?_
      refine Go.iload 117 at_115 rfl rfl ?_
      refine Go.iconst 118 (2 : Int32) at_117 rfl rfl ?_
      refine Go.iadd 119 at_118 rfl ?_
      refine Go.sfN [x_440, b_441, x_388, x_379] ?_
      refine Go.callV (S := []) (a := x_440) 122 [(.int (0 : Int32)), (.int (vc + (2 : Int32)))] at_119 rfl rfl (w115 hw) (w116 hw) (w118 hw) (w117 hw) (fun _ q => notFace_of_selects (args := #[]) (mvT q (w118 hw))) (by decide) A_448 (call_of_go (R := _) (len := 3) (W := 0) (plainFor_of_name pn_0) (fun mid => ef_flip22 mid x_440 b_441 (2 : Int32) (vc + (2 : Int32)) ((0 : Int64) ||| ((-1 : Int64) <<< ((0 : Int32) &&& 0x3f).toInt64)) ((0 : Int64) ||| (ushrL (-1 : Int64) (-vc))) ) (c_flip22 hw x_440 b_441 (2 : Int32) (vc + (2 : Int32)) ((0 : Int64) ||| ((-1 : Int64) <<< ((0 : Int32) &&& 0x3f).toInt64)) ((0 : Int64) ||| (ushrL (-1 : Int64) (-vc))) A_448 n_445 ne_447 G_449 G_450 A_451 n_446 (by decide) H.gy H.gyn H.ge SA) (w119 hw) (w16 hw) (by decide) (by decide)) (lenOf pd_3 rfl) (Nat.le_of_ble_eq_true rfl) rfl (Nat.le_of_ble_eq_true rfl) (Nat.le_of_ble_eq_true rfl) (allS (List.mem_of_getElem? (i := 0) rfl) (allS (List.mem_of_getElem? (i := 1) rfl) all0)) (fun v h_455 sf_457 hq => ?_)
      obtain ⟨rfl, K_456⟩ := hq
      refine Go.more (sf' := [x_440, b_441, x_388, x_379]) ?_ (Nat.le_refl _) (Nat.le_refl _) (fun _ q => List.mem_append_right _ q)
      show G_law l Z n0 20 55 [x_440, b_441, x_388, x_379] h_455 122 #[.val (.int p0), .val (.int p1), .val (.int p2), .val (.int (1 : Int32)), .val (.int n), .val (.int vc), .val (.ref x_379), .val (.ref x_388), .val (.int vc), .val (.int p), .val (.int (0 : Int32)), .val (.ref x_440), .unset] []
      refine Go.aload 124 at_122 rfl rfl rfl ?_
      refine Go.aload 126 at_124 rfl rfl rfl ?_
      have X_458 : Ext hc h_455 := extK E_442 K_456 (allS le_443 (allS le_444 all0))
      have f_459 := Fc.ext X_458
      have f_460 := f_438.ext X_458
      have f_475 := Ec.ext X_458
      refine Go.callV (S := []) (a := x_388) 129 [(.ref x_379)] at_126 rfl rfl (w75 hw) (w76 hw) (w78 hw) (w77 hw) (fun _ q => notFace_of_selects (args := #[]) (mvT q (w78 hw))) (by decide) f_475 (call_of_go (R := _) (len := 3) (W := 0) (plainFor_of_name pn_4) (fun mid => ef_tab21 mid x_388 x_379 vc ) (c_tab21 hw x_388 x_379 vc f_459 f_460 H.hy H.hyn H.he H.hm SA) (w79 hw) (w62 hw) (by decide) (by decide)) (lenOf pd_12 rfl) (Nat.le_of_ble_eq_true rfl) rfl (Nat.le_of_ble_eq_true rfl) (Nat.le_of_ble_eq_true rfl) (fun _ q => nomatch q) (fun v h_461 sf_474 hq => ?_)
      obtain ⟨x_462, b_463, rfl, E_464, le_465, le_466, n_467, n_468, ne_469, A_470, G_471, G_472, A_473⟩ := hq
      refine Go.more (sf' := [x_440, b_441, x_388, x_379]) ?_ (Nat.le_refl _) (Nat.le_refl _) (fun _ q => List.mem_append_right _ q)
      show G_law l Z n0 22 60 [x_440, b_441, x_388, x_379] h_461 129 #[.val (.int p0), .val (.int p1), .val (.int p2), .val (.int (1 : Int32)), .val (.int n), .val (.int vc), .val (.ref x_379), .val (.ref x_388), .val (.int vc), .val (.int p), .val (.int (0 : Int32)), .val (.ref x_440), .unset] [(.ref x_462)]
      refine Go.astore 131 #[.val (.int p0), .val (.int p1), .val (.int p2), .val (.int (1 : Int32)), .val (.int n), .val (.int vc), .val (.ref x_379), .val (.ref x_388), .val (.int vc), .val (.int p), .val (.int (0 : Int32)), .val (.ref x_440), .val (.ref x_462)] at_129 rfl rfl rfl ?_
      refine Go.aload 133 at_131 rfl rfl rfl ?_
      refine Go.iload 135 at_133 rfl rfl ?_
      refine Go.iload 137 at_135 rfl rfl ?_
      refine Go.iload 139 at_137 rfl rfl ?_
      refine Go.callS (S := []) 142 [(.ref x_462), (.int vc), (.int p), (.int (0 : Int32))] at_139 rfl rfl (w96 hw) (w97 hw) (w98 hw) (w99 hw) (by decide) (call_of_go (R := _) (len := 3) (W := 0) (plainFor_of_name pn_5) (fun mid => ef_exact2 mid x_462 b_463 ((0 : Int64) ||| ((-1 : Int64) <<< ((0 : Int32) &&& 0x3f).toInt64)) ((0 : Int64) ||| (ushrL (-1 : Int64) (-vc))) vc p (0 : Int32) ) (c_exact2 hw x_462 b_463 ((0 : Int64) ||| ((-1 : Int64) <<< ((0 : Int32) &&& 0x3f).toInt64)) ((0 : Int64) ||| (ushrL (-1 : Int64) (-vc))) vc p (0 : Int32) G_472 G_471 A_473 A_470 (not_neg b_p.1) (H.hs p b_p.1 b_p.2) SA H.h1 H.h2 ((H.h3 p b_p.1 b_p.2).trans (if_neg hc77))) (w99 hw) (w98 hw) (by decide) (by decide)) (lenOf pd_13 rfl) (Nat.le_of_ble_eq_true rfl) rfl (Nat.le_of_ble_eq_true rfl) (Nat.le_of_ble_eq_true rfl) (fun _ q => nomatch q) (fun v h_476 sf_477 hq => ?_)
      obtain ⟨rfl, rfl⟩ := hq
      refine Go.more (sf' := [x_440, b_441, x_388, x_379]) ?_ (Nat.le_refl _) (Nat.le_refl _) (fun _ q => List.mem_append_right _ q)
      show G_law l Z n0 22 60 [x_440, b_441, x_388, x_379] h_461 142 #[.val (.int p0), .val (.int p1), .val (.int p2), .val (.int (1 : Int32)), .val (.int n), .val (.int vc), .val (.ref x_379), .val (.ref x_388), .val (.int vc), .val (.int p), .val (.int (0 : Int32)), .val (.ref x_440), .val (.ref x_462)] [(.int (1 : Int32))]
      exact Go.retN (1 : Int32) at_142 rfl (t := .boolean) (by simp) rfl (sf' := []) (rfl) (fun _ q => nomatch q) (Nat.le_of_ble_eq_true rfl) (Nat.le_of_ble_eq_true rfl)
  refine Go.iloadN 1 at_0 rfl rfl ?_
  refine Go.iconst 2 (1 : Int32) at_1 rfl rfl ?_
  refine Go.iand 3 at_2 rfl ?_
  by_cases hc3 : (p0 &&& (1 : Int32)) = (0 : Int32)
  · skip
    refine Go.ifY 10 at_3 (by decide) (by decide) (teq hc3).1 ?_
    refine Go.iconst 11 (0 : Int32) at_10 rfl rfl ?_
    refine Go.istoreN 12 #[.val (.int p0), .val (.int p1), .val (.int p2), .val (.int (0 : Int32)), .unset, .unset, .unset, .unset, .unset, .unset, .unset, .unset, .unset] at_11 rfl rfl ?_
    refine Go.iloadN 13 at_12 rfl rfl ?_
    refine Go.bipush 15 (7 : Int32) at_13 rfl rfl ?_
    refine Go.iand 16 at_15 rfl ?_
    refine Go.istore 18 #[.val (.int p0), .val (.int p1), .val (.int p2), .val (.int (0 : Int32)), .val (.int (p1 &&& (7 : Int32))), .unset, .unset, .unset, .unset, .unset, .unset, .unset, .unset] at_16 rfl rfl ?_
    rcases and7 p1 with en | en | en | en | en | en | en | en
    · rw [en]
      show G_law l Z n0 0 0 [] h0 18 #[.val (.int p0), .val (.int p1), .val (.int p2), .val (.int (0 : Int32)), .val (.int (0 : Int32)), .unset, .unset, .unset, .unset, .unset, .unset, .unset, .unset] []
      refine Go.iconst 19 (1 : Int32) at_18 rfl rfl ?_
      refine Go.iload 21 at_19 rfl rfl ?_
      refine Go.ishl 22 at_21 rfl ?_
      rw [show ((1 : Int32) <<< ((0 : Int32) &&& 31)) = (1 : Int32) from by decide]
      refine Go.istore 24 #[.val (.int p0), .val (.int p1), .val (.int p2), .val (.int (0 : Int32)), .val (.int (0 : Int32)), .val (.int (1 : Int32)), .unset, .unset, .unset, .unset, .unset, .unset, .unset] at_22 rfl rfl ?_
      exact tl010 _ _ _ vc_0
    · rw [en]
      show G_law l Z n0 0 0 [] h0 18 #[.val (.int p0), .val (.int p1), .val (.int p2), .val (.int (0 : Int32)), .val (.int (1 : Int32)), .unset, .unset, .unset, .unset, .unset, .unset, .unset, .unset] []
      refine Go.iconst 19 (1 : Int32) at_18 rfl rfl ?_
      refine Go.iload 21 at_19 rfl rfl ?_
      refine Go.ishl 22 at_21 rfl ?_
      rw [show ((1 : Int32) <<< ((1 : Int32) &&& 31)) = (2 : Int32) from by decide]
      refine Go.istore 24 #[.val (.int p0), .val (.int p1), .val (.int p2), .val (.int (0 : Int32)), .val (.int (1 : Int32)), .val (.int (2 : Int32)), .unset, .unset, .unset, .unset, .unset, .unset, .unset] at_22 rfl rfl ?_
      exact tl010 _ _ _ vc_1
    · rw [en]
      show G_law l Z n0 0 0 [] h0 18 #[.val (.int p0), .val (.int p1), .val (.int p2), .val (.int (0 : Int32)), .val (.int (2 : Int32)), .unset, .unset, .unset, .unset, .unset, .unset, .unset, .unset] []
      refine Go.iconst 19 (1 : Int32) at_18 rfl rfl ?_
      refine Go.iload 21 at_19 rfl rfl ?_
      refine Go.ishl 22 at_21 rfl ?_
      rw [show ((1 : Int32) <<< ((2 : Int32) &&& 31)) = (4 : Int32) from by decide]
      refine Go.istore 24 #[.val (.int p0), .val (.int p1), .val (.int p2), .val (.int (0 : Int32)), .val (.int (2 : Int32)), .val (.int (4 : Int32)), .unset, .unset, .unset, .unset, .unset, .unset, .unset] at_22 rfl rfl ?_
      exact tl010 _ _ _ vc_2
    · rw [en]
      show G_law l Z n0 0 0 [] h0 18 #[.val (.int p0), .val (.int p1), .val (.int p2), .val (.int (0 : Int32)), .val (.int (3 : Int32)), .unset, .unset, .unset, .unset, .unset, .unset, .unset, .unset] []
      refine Go.iconst 19 (1 : Int32) at_18 rfl rfl ?_
      refine Go.iload 21 at_19 rfl rfl ?_
      refine Go.ishl 22 at_21 rfl ?_
      rw [show ((1 : Int32) <<< ((3 : Int32) &&& 31)) = (8 : Int32) from by decide]
      refine Go.istore 24 #[.val (.int p0), .val (.int p1), .val (.int p2), .val (.int (0 : Int32)), .val (.int (3 : Int32)), .val (.int (8 : Int32)), .unset, .unset, .unset, .unset, .unset, .unset, .unset] at_22 rfl rfl ?_
      exact tl010 _ _ _ vc_3
    · rw [en]
      show G_law l Z n0 0 0 [] h0 18 #[.val (.int p0), .val (.int p1), .val (.int p2), .val (.int (0 : Int32)), .val (.int (4 : Int32)), .unset, .unset, .unset, .unset, .unset, .unset, .unset, .unset] []
      refine Go.iconst 19 (1 : Int32) at_18 rfl rfl ?_
      refine Go.iload 21 at_19 rfl rfl ?_
      refine Go.ishl 22 at_21 rfl ?_
      rw [show ((1 : Int32) <<< ((4 : Int32) &&& 31)) = (16 : Int32) from by decide]
      refine Go.istore 24 #[.val (.int p0), .val (.int p1), .val (.int p2), .val (.int (0 : Int32)), .val (.int (4 : Int32)), .val (.int (16 : Int32)), .unset, .unset, .unset, .unset, .unset, .unset, .unset] at_22 rfl rfl ?_
      exact tl010 _ _ _ vc_4
    · rw [en]
      show G_law l Z n0 0 0 [] h0 18 #[.val (.int p0), .val (.int p1), .val (.int p2), .val (.int (0 : Int32)), .val (.int (5 : Int32)), .unset, .unset, .unset, .unset, .unset, .unset, .unset, .unset] []
      refine Go.iconst 19 (1 : Int32) at_18 rfl rfl ?_
      refine Go.iload 21 at_19 rfl rfl ?_
      refine Go.ishl 22 at_21 rfl ?_
      rw [show ((1 : Int32) <<< ((5 : Int32) &&& 31)) = (32 : Int32) from by decide]
      refine Go.istore 24 #[.val (.int p0), .val (.int p1), .val (.int p2), .val (.int (0 : Int32)), .val (.int (5 : Int32)), .val (.int (32 : Int32)), .unset, .unset, .unset, .unset, .unset, .unset, .unset] at_22 rfl rfl ?_
      exact tl010 _ _ _ vc_5
    · rw [en]
      show G_law l Z n0 0 0 [] h0 18 #[.val (.int p0), .val (.int p1), .val (.int p2), .val (.int (0 : Int32)), .val (.int (6 : Int32)), .unset, .unset, .unset, .unset, .unset, .unset, .unset, .unset] []
      refine Go.iconst 19 (1 : Int32) at_18 rfl rfl ?_
      refine Go.iload 21 at_19 rfl rfl ?_
      refine Go.ishl 22 at_21 rfl ?_
      rw [show ((1 : Int32) <<< ((6 : Int32) &&& 31)) = (64 : Int32) from by decide]
      refine Go.istore 24 #[.val (.int p0), .val (.int p1), .val (.int p2), .val (.int (0 : Int32)), .val (.int (6 : Int32)), .val (.int (64 : Int32)), .unset, .unset, .unset, .unset, .unset, .unset, .unset] at_22 rfl rfl ?_
      exact tl011 _ _ _ vc_6
    · rw [en]
      show G_law l Z n0 0 0 [] h0 18 #[.val (.int p0), .val (.int p1), .val (.int p2), .val (.int (0 : Int32)), .val (.int (7 : Int32)), .unset, .unset, .unset, .unset, .unset, .unset, .unset, .unset] []
      refine Go.iconst 19 (1 : Int32) at_18 rfl rfl ?_
      refine Go.iload 21 at_19 rfl rfl ?_
      refine Go.ishl 22 at_21 rfl ?_
      rw [show ((1 : Int32) <<< ((7 : Int32) &&& 31)) = (128 : Int32) from by decide]
      refine Go.istore 24 #[.val (.int p0), .val (.int p1), .val (.int p2), .val (.int (0 : Int32)), .val (.int (7 : Int32)), .val (.int (128 : Int32)), .unset, .unset, .unset, .unset, .unset, .unset, .unset] at_22 rfl rfl ?_
      exact tl022 _ _ _ vc_7
  · skip
    refine Go.ifN 6 at_3 rfl (feq hc3).1 ?_
    refine Go.iconst 7 (1 : Int32) at_6 rfl rfl ?_
    refine Go.goto 11 at_7 (by decide) (by decide) ?_
    refine Go.istoreN 12 #[.val (.int p0), .val (.int p1), .val (.int p2), .val (.int (1 : Int32)), .unset, .unset, .unset, .unset, .unset, .unset, .unset, .unset, .unset] at_11 rfl rfl ?_
    refine Go.iloadN 13 at_12 rfl rfl ?_
    refine Go.bipush 15 (7 : Int32) at_13 rfl rfl ?_
    refine Go.iand 16 at_15 rfl ?_
    refine Go.istore 18 #[.val (.int p0), .val (.int p1), .val (.int p2), .val (.int (1 : Int32)), .val (.int (p1 &&& (7 : Int32))), .unset, .unset, .unset, .unset, .unset, .unset, .unset, .unset] at_16 rfl rfl ?_
    rcases and7 p1 with en | en | en | en | en | en | en | en
    · rw [en]
      show G_law l Z n0 0 0 [] h0 18 #[.val (.int p0), .val (.int p1), .val (.int p2), .val (.int (1 : Int32)), .val (.int (0 : Int32)), .unset, .unset, .unset, .unset, .unset, .unset, .unset, .unset] []
      refine Go.iconst 19 (1 : Int32) at_18 rfl rfl ?_
      refine Go.iload 21 at_19 rfl rfl ?_
      refine Go.ishl 22 at_21 rfl ?_
      rw [show ((1 : Int32) <<< ((0 : Int32) &&& 31)) = (1 : Int32) from by decide]
      refine Go.istore 24 #[.val (.int p0), .val (.int p1), .val (.int p2), .val (.int (1 : Int32)), .val (.int (0 : Int32)), .val (.int (1 : Int32)), .unset, .unset, .unset, .unset, .unset, .unset, .unset] at_22 rfl rfl ?_
      exact tl110 _ _ _ vc_0
    · rw [en]
      show G_law l Z n0 0 0 [] h0 18 #[.val (.int p0), .val (.int p1), .val (.int p2), .val (.int (1 : Int32)), .val (.int (1 : Int32)), .unset, .unset, .unset, .unset, .unset, .unset, .unset, .unset] []
      refine Go.iconst 19 (1 : Int32) at_18 rfl rfl ?_
      refine Go.iload 21 at_19 rfl rfl ?_
      refine Go.ishl 22 at_21 rfl ?_
      rw [show ((1 : Int32) <<< ((1 : Int32) &&& 31)) = (2 : Int32) from by decide]
      refine Go.istore 24 #[.val (.int p0), .val (.int p1), .val (.int p2), .val (.int (1 : Int32)), .val (.int (1 : Int32)), .val (.int (2 : Int32)), .unset, .unset, .unset, .unset, .unset, .unset, .unset] at_22 rfl rfl ?_
      exact tl110 _ _ _ vc_1
    · rw [en]
      show G_law l Z n0 0 0 [] h0 18 #[.val (.int p0), .val (.int p1), .val (.int p2), .val (.int (1 : Int32)), .val (.int (2 : Int32)), .unset, .unset, .unset, .unset, .unset, .unset, .unset, .unset] []
      refine Go.iconst 19 (1 : Int32) at_18 rfl rfl ?_
      refine Go.iload 21 at_19 rfl rfl ?_
      refine Go.ishl 22 at_21 rfl ?_
      rw [show ((1 : Int32) <<< ((2 : Int32) &&& 31)) = (4 : Int32) from by decide]
      refine Go.istore 24 #[.val (.int p0), .val (.int p1), .val (.int p2), .val (.int (1 : Int32)), .val (.int (2 : Int32)), .val (.int (4 : Int32)), .unset, .unset, .unset, .unset, .unset, .unset, .unset] at_22 rfl rfl ?_
      exact tl110 _ _ _ vc_2
    · rw [en]
      show G_law l Z n0 0 0 [] h0 18 #[.val (.int p0), .val (.int p1), .val (.int p2), .val (.int (1 : Int32)), .val (.int (3 : Int32)), .unset, .unset, .unset, .unset, .unset, .unset, .unset, .unset] []
      refine Go.iconst 19 (1 : Int32) at_18 rfl rfl ?_
      refine Go.iload 21 at_19 rfl rfl ?_
      refine Go.ishl 22 at_21 rfl ?_
      rw [show ((1 : Int32) <<< ((3 : Int32) &&& 31)) = (8 : Int32) from by decide]
      refine Go.istore 24 #[.val (.int p0), .val (.int p1), .val (.int p2), .val (.int (1 : Int32)), .val (.int (3 : Int32)), .val (.int (8 : Int32)), .unset, .unset, .unset, .unset, .unset, .unset, .unset] at_22 rfl rfl ?_
      exact tl110 _ _ _ vc_3
    · rw [en]
      show G_law l Z n0 0 0 [] h0 18 #[.val (.int p0), .val (.int p1), .val (.int p2), .val (.int (1 : Int32)), .val (.int (4 : Int32)), .unset, .unset, .unset, .unset, .unset, .unset, .unset, .unset] []
      refine Go.iconst 19 (1 : Int32) at_18 rfl rfl ?_
      refine Go.iload 21 at_19 rfl rfl ?_
      refine Go.ishl 22 at_21 rfl ?_
      rw [show ((1 : Int32) <<< ((4 : Int32) &&& 31)) = (16 : Int32) from by decide]
      refine Go.istore 24 #[.val (.int p0), .val (.int p1), .val (.int p2), .val (.int (1 : Int32)), .val (.int (4 : Int32)), .val (.int (16 : Int32)), .unset, .unset, .unset, .unset, .unset, .unset, .unset] at_22 rfl rfl ?_
      exact tl110 _ _ _ vc_4
    · rw [en]
      show G_law l Z n0 0 0 [] h0 18 #[.val (.int p0), .val (.int p1), .val (.int p2), .val (.int (1 : Int32)), .val (.int (5 : Int32)), .unset, .unset, .unset, .unset, .unset, .unset, .unset, .unset] []
      refine Go.iconst 19 (1 : Int32) at_18 rfl rfl ?_
      refine Go.iload 21 at_19 rfl rfl ?_
      refine Go.ishl 22 at_21 rfl ?_
      rw [show ((1 : Int32) <<< ((5 : Int32) &&& 31)) = (32 : Int32) from by decide]
      refine Go.istore 24 #[.val (.int p0), .val (.int p1), .val (.int p2), .val (.int (1 : Int32)), .val (.int (5 : Int32)), .val (.int (32 : Int32)), .unset, .unset, .unset, .unset, .unset, .unset, .unset] at_22 rfl rfl ?_
      exact tl110 _ _ _ vc_5
    · rw [en]
      show G_law l Z n0 0 0 [] h0 18 #[.val (.int p0), .val (.int p1), .val (.int p2), .val (.int (1 : Int32)), .val (.int (6 : Int32)), .unset, .unset, .unset, .unset, .unset, .unset, .unset, .unset] []
      refine Go.iconst 19 (1 : Int32) at_18 rfl rfl ?_
      refine Go.iload 21 at_19 rfl rfl ?_
      refine Go.ishl 22 at_21 rfl ?_
      rw [show ((1 : Int32) <<< ((6 : Int32) &&& 31)) = (64 : Int32) from by decide]
      refine Go.istore 24 #[.val (.int p0), .val (.int p1), .val (.int p2), .val (.int (1 : Int32)), .val (.int (6 : Int32)), .val (.int (64 : Int32)), .unset, .unset, .unset, .unset, .unset, .unset, .unset] at_22 rfl rfl ?_
      exact tl111 _ _ _ vc_6
    · rw [en]
      show G_law l Z n0 0 0 [] h0 18 #[.val (.int p0), .val (.int p1), .val (.int p2), .val (.int (1 : Int32)), .val (.int (7 : Int32)), .unset, .unset, .unset, .unset, .unset, .unset, .unset, .unset] []
      refine Go.iconst 19 (1 : Int32) at_18 rfl rfl ?_
      refine Go.iload 21 at_19 rfl rfl ?_
      refine Go.ishl 22 at_21 rfl ?_
      rw [show ((1 : Int32) <<< ((7 : Int32) &&& 31)) = (128 : Int32) from by decide]
      refine Go.istore 24 #[.val (.int p0), .val (.int p1), .val (.int p2), .val (.int (1 : Int32)), .val (.int (7 : Int32)), .val (.int (128 : Int32)), .unset, .unset, .unset, .unset, .unset, .unset, .unset] at_22 rfl rfl ?_
      exact tl122 _ _ _ vc_7
set_option maxRecDepth 65536 in
set_option maxHeartbeats 40000000 in
theorem comes_1 {Post : Tables → Env → Array Value → State → Outcome → State → Prop} (hpost : ∀ tb e args s v u, (limb_1_1.after args s (.returned v) u = true ∧ limb_1_2.after args s (.returned v) u = true ∧ True) → FrameEnd s (.returned v) u (Jvm.fieldLocs frame_1_writes args s ++ Jvm.arrayLocs frame_1_arrays args s ++ Jvm.staticLocs frame_1_statics s) 56 192 → Post tb e args s (.returned v) u) :
    ArmFor flags0 classFile x code maxLocals ret World_1 tables_1 room_1 Calls_1 rest_1 Pre_1 Post := by
  intro l hfl _ _ p e ha hc hk s m args below hf hA hF happ hP
  obtain ⟨hcalls, hrest, hpre⟩ := hP
  obtain ⟨-, -, -, hnamed, -, -, -, hat⟩ := (Spec.applies_iff hf).mp happ
  obtain ⟨hg, hn⟩ := and_e (Cond.before_iff.mp (show (Jvm.Cond.and given_1 narrow_1).before args s = true from hpre))
  obtain ⟨g0, k1⟩ := and_e hg
  obtain ⟨g1, k2⟩ := and_e k1
  obtain ⟨g2, k3⟩ := and_e k2
  have g3 := k3
  obtain ⟨w0, w1, w2, rfl⟩ : ∃ w0 w1 w2 : Value, args = #[w0, w1, w2] := by
    have hs : args.size = 3 := by simpa [Cond.value, given_1] using g0
    obtain ⟨L⟩ := args
    match L, hs with
    | [w0, w1, w2], _ => exact ⟨w0, w1, w2, rfl⟩
  have hw : HW _ s := fun d (hd : d ∈ tables_1) => atoms_spec (ws := Jvm.Cond.code x code maxLocals ret :: tables_1) hat d (List.mem_cons_of_mem _ hd)
  obtain ⟨hsets, hown0⟩ := atoms_of _ (rest_1_c_eq ▸ (show rest_1_c.before _ s = true from hrest))
  obtain ⟨p0, ea0⟩ := is_v g1
  obtain rfl : w0 = (.int p0) := Option.some.inj ea0
  obtain ⟨p1, ea1⟩ := is_v g2
  obtain rfl : w1 = (.int p1) := Option.some.inj ea1
  obtain ⟨p2, ea2⟩ := is_v g3
  obtain rfl : w2 = (.int p2) := Option.some.inj ea2
  have SA := sta_int (Cond.before_iff.mp (hsets _ (List.mem_of_getElem? (i := 2) rfl))) (hsets _ (List.mem_of_getElem? (i := 1) rfl))

  obtain ⟨n, o, h1, h2, h3, _, L, _, rfl, rfl, -, N, -, hq⟩ := met_of_go (md := none) (desc := "(III)Z") (ws := tables_1) (plainFor_of_name pn_5) (fun m => ef_law m p0 p1 p2) (law_go (l := l) (Z := s) (n0 := s.heap.size) (h0 := s.heap) hw p0 p1 p2 SA) p e ha hc hk s m _ below hf ((Spec.applies_iff_loose hf).mp happ).1 ⟨rfl, State.Warmed39.refl s, rfl, Old.start s, rfl⟩ trivial
  refine ⟨n, _, h1, h2, h3, hpost _ _ _ _ _ _ ⟨Cond.after_iff.mpr rfl, Cond.after_iff.mpr (eq_i res_at (Term.int_eval (1)) rfl), trivial⟩ ⟨hq.1, hq.2.1, (hq.2.2.sift fun y hy => Or.inr (N y hy)).mono (by decide) (by decide)⟩⟩
theorem main_1_1 : Claimed_1_1 := comes_1 fun _ _ _ _ _ _ h hF => ⟨h.1, hF⟩
theorem main_1_2 : Claimed_1_2 := comes_1 fun _ _ _ _ _ _ h hF => ⟨h.2.1, hF⟩
end Jvm.Pilot.@@N@@
namespace Jvm.Pilot.@@N@@
open Jvm Jvm.ClassFile Sem Op Lib Jvm.Free Jvm.Stand Jvm.Pilot.@@N@@.Jvm.D
/-! MADE BY PROGRAM (witnessworld.py) out of the Statement's table words and the real class files: 25 classes; the members and pool entries that the words name. The judged class is class 1, her method 2. -/
namespace start1
open Jvm.ClassFile
def u (s : String) : CpInfo := .utf8 (stringToUtf16 s)
/-- a pool by its gaps: so many unusable entries, then the entry; so many at the end -/
def gap : Nat → List CpInfo → List CpInfo
  | 0, r => r
  | n + 1, r => .unusable :: gap n r
def poolList (es : List (Nat × CpInfo)) (last : Nat) : List CpInfo := es.foldr (fun e r => gap e.1 (e.2 :: r)) (gap last [])
def pool (es : List (Nat × CpInfo)) (last : Nat) : Array CpInfo := ⟨poolList es last⟩
def fileOf (pool : Array CpInfo) (this : Nat) (attrs : Array Attribute := #[]) (ms : Array MethodInfo := #[]) (fl : Nat := 33) (sup : Nat := 0) (ifs : Array Nat := #[]) (fds : Array FieldInfo := #[]) : ClassFile where
  minorVersion := 0
  majorVersion := 65
  constantPool := pool
  accessFlags := fl
  thisClass := this
  superClass := sup
  interfaces := ifs
  fields := fds
  methods := ms
  attributes := attrs
def plain (name : String) (sup : Option ClassId) : Class where
  name := name
  kind := .ordinary
  loader := none
  accessFlags := 33
  super := sup
  interfaces := #[]
  cf := none
  fields := #[]
  methods := #[]
  instanceTypes := #[]
  staticTypes := #[]
  resolved := #[]
  callSites := []
  init := .initialized
  statics := none
  mirror := none

def pool0 : Array CpInfo := pool [(5, u "<init>"), (0, u "()V"), (1, .class_ 10), (1, u "java/lang/Object")] 113

def k0c0 : Code := { maxStack := 0, maxLocals := 1, code := object_method_1_code, exceptionTable := #[], attributes := #[] }
def k0m0 : Method := { name := "<init>", desc := "()V", sig := { parameters := [], returnType := none }, accessFlags := 1, code := some k0c0 }
/-- java/lang/Object -/
def k0 : Class := { plain "java/lang/Object" none with
  accessFlags := 33
  interfaces := #[]
  cf := some (fileOf pool0 8 #[] #[{ accessFlags := 1, nameIndex := 5, descriptorIndex := 6, attributes := #[] }] 33 0 #[] #[])
  fields := #[]
  methods := #[k0m0]
  instanceTypes := #[]
  staticTypes := #[]
  resolved := Array.replicate 124 none
  statics := none }

def pool1 : Array CpInfo := pool [(2, .class_ 4), (1, u "java/lang/Object"), (0, u "<init>"), (0, u "()V"), (0, .methodref 8 9), (0, .class_ 10), (0, .nameAndType 11 12), (0, u "java/util/BitSet"), (0, u "cardinality"), (0, u "()I"), (0, .methodref 8 14), (0, .nameAndType 15 12), (0, u "length"), (0, .methodref 8 17), (0, .nameAndType 18 19), (0, u "get"), (0, u "(I)Z"), (0, .class_ 21), (0, u "com/example/petrel/petrel/HoaLabel$Tables"), (0, .methodref 20 23), (0, .nameAndType 5 24), (0, u "(ILjava/util/Map;)V"), (0, .class_ 26), (0, u "com/example/petrel/petrel/HoaLabel$Constant"), (0, .methodref 25 28), (0, .nameAndType 5 29), (0, u "(Z)V"), (0, .integer 2147483647), (0, .methodref 25 32), (0, .nameAndType 33 34), (0, u "table"), (0, u "(Lcom/example/petrel/petrel/HoaLabel$Tables;)Ljava/util/BitSet;"), (0, .methodref 36 37), (0, .class_ 38), (0, .nameAndType 39 40), (0, u "com/example/petrel/petrel/ConstantTablePinLaw"), (0, u "exact"), (0, u "(Ljava/util/BitSet;IIZ)Z"), (0, .methodref 8 42), (0, .nameAndType 43 44), (0, u "flip"), (0, u "(II)V"), (3, u "law"), (0, u "(III)Z")] 7

def k1m0 : Method := { name := "<init>", desc := "()V", sig := { parameters := [], returnType := none }, accessFlags := 2, code := none }
def k1c1 : Code := { maxStack := 2, maxLocals := 4, code := method_2_code, exceptionTable := #[], attributes := #[] }
def k1m1 : Method := { name := "exact", desc := "(Ljava/util/BitSet;IIZ)Z", sig := { parameters := [(.object "java/util/BitSet"), .int, .int, .boolean], returnType := some .boolean }, accessFlags := 10, code := some k1c1 }
def k1c2 : Code := { maxStack := 4, maxLocals := 13, code := code, exceptionTable := #[], attributes := #[] }
def k1m2 : Method := { name := "law", desc := "(III)Z", sig := { parameters := [.int, .int, .int], returnType := some .boolean }, accessFlags := 9, code := some k1c2 }
/-- com/example/petrel/petrel/ConstantTablePinLaw -/
def k1 : Class := { plain "com/example/petrel/petrel/ConstantTablePinLaw" (some 0) with
  accessFlags := 49
  interfaces := #[]
  cf := some (fileOf pool1 36 #[] #[{ accessFlags := 2, nameIndex := 5, descriptorIndex := 6, attributes := #[] }, { accessFlags := 10, nameIndex := 39, descriptorIndex := 40, attributes := #[] }, { accessFlags := 9, nameIndex := 48, descriptorIndex := 49, attributes := #[] }] 49 2 #[] #[])
  fields := #[]
  methods := #[k1m0, k1m1, k1m2]
  instanceTypes := #[]
  staticTypes := #[]
  resolved := Array.replicate 57 none
  statics := none }

def pool2 : Array CpInfo := pool [(1, .methodref 2 3), (0, .class_ 4), (0, .nameAndType 5 6), (0, u "java/lang/Object"), (0, u "<init>"), (0, u "()V"), (0, .fieldref 8 9), (0, .class_ 10), (0, .nameAndType 11 12), (0, u "com/example/petrel/petrel/HoaLabel$Tables"), (0, u "valuationCount"), (0, u "I"), (0, .class_ 14), (0, u "java/util/BitSet"), (0, .fieldref 8 16), (0, .nameAndType 17 18), (0, u "aps"), (0, u "[Ljava/util/BitSet;"), (0, .methodref 13 20), (0, .nameAndType 5 21), (0, u "(I)V"), (0, .methodref 13 23), (0, .nameAndType 24 21), (0, u "set"), (0, .fieldref 8 26), (0, .nameAndType 27 28), (0, u "aliases"), (0, u "Ljava/util/Map;"), (2, u "(ILjava/util/Map;)V"), (10, .class_ 43), (0, u "com/example/petrel/petrel/HoaLabel")] 2

def k2c0 : Code := { maxStack := 5, maxLocals := 5, code := prog_8_method_1_code, exceptionTable := #[], attributes := #[] }
def k2m0 : Method := { name := "<init>", desc := "(ILjava/util/Map;)V", sig := { parameters := [.int, (.object "java/util/Map")], returnType := none }, accessFlags := 0, code := some k2c0 }
/-- com/example/petrel/petrel/HoaLabel$Tables -/
def k2 : Class := { plain "com/example/petrel/petrel/HoaLabel$Tables" (some 0) with
  accessFlags := 49
  interfaces := #[]
  cf := some (fileOf pool2 8 #[.nestHost 42] #[{ accessFlags := 0, nameIndex := 5, descriptorIndex := 31, attributes := #[] }] 49 2 #[] #[{ accessFlags := 18, nameIndex := 11, descriptorIndex := 12, attributes := #[] }, { accessFlags := 18, nameIndex := 17, descriptorIndex := 18, attributes := #[] }, { accessFlags := 18, nameIndex := 27, descriptorIndex := 28, attributes := #[] }])
  fields := #[{ name := "valuationCount", type := .int, accessFlags := 18, slot := 0, constantValue := 0 }, { name := "aps", type := (.array (.object "java/util/BitSet")), accessFlags := 18, slot := 1, constantValue := 0 }, { name := "aliases", type := (.object "java/util/Map"), accessFlags := 18, slot := 2, constantValue := 0 }]
  methods := #[k2m0]
  instanceTypes := #[.int, (.array (.object "java/util/BitSet")), (.object "java/util/Map")]
  staticTypes := #[]
  resolved := Array.replicate 46 none
  statics := none }

def pool3 : Array CpInfo := pool [(1, .class_ 2), (0, u "java/lang/Cloneable"), (0, .class_ 4), (0, u "java/lang/Object")] 2

/-- java/lang/Cloneable -/
def k3 : Class := { plain "java/lang/Cloneable" (some 0) with
  accessFlags := 1537
  interfaces := #[]
  cf := some (fileOf pool3 1 #[] #[] 1537 3 #[] #[])
  fields := #[]
  methods := #[]
  instanceTypes := #[]
  staticTypes := #[]
  resolved := Array.replicate 7 none
  statics := none }

def pool4 : Array CpInfo := pool [(1, .class_ 2), (0, u "java/io/Serializable"), (0, .class_ 4), (0, u "java/lang/Object")] 2

/-- java/io/Serializable -/
def k4 : Class := { plain "java/io/Serializable" (some 0) with
  accessFlags := 1537
  interfaces := #[]
  cf := some (fileOf pool4 1 #[] #[] 1537 3 #[] #[])
  fields := #[]
  methods := #[]
  instanceTypes := #[]
  staticTypes := #[]
  resolved := Array.replicate 7 none
  statics := none }

def pool5 : Array CpInfo := pool [(1, .class_ 2), (0, u "java/util/BitSet"), (0, .fieldref 1 4), (0, .nameAndType 5 6), (0, u "$assertionsDisabled"), (0, u "Z"), (0, .fieldref 1 8), (0, .nameAndType 9 10), (0, u "wordsInUse"), (0, u "I"), (0, .fieldref 1 12), (0, .nameAndType 13 14), (0, u "words"), (0, u "[J"), (3, .nameAndType 19 20), (0, u "<init>"), (0, u "()V"), (0, .methodref 22 18), (0, .class_ 23), (0, u "java/lang/Object"), (0, .fieldref 1 25), (0, .nameAndType 26 6), (0, u "sizeIsSticky"), (0, .methodref 1 28), (0, .nameAndType 29 30), (0, u "initWords"), (0, u "(I)V"), (21, .methodref 1 53), (0, .nameAndType 54 55), (0, u "wordIndex"), (0, u "(I)I"), (0, .methodref 1 57), (0, .nameAndType 58 20), (0, u "checkInvariants"), (0, .methodref 60 61), (0, .class_ 62), (0, .nameAndType 63 64), (0, u "java/util/Arrays"), (0, u "copyOf"), (0, u "([JI)[J"), (12, u "()I"), (2, u "get"), (52, .methodref 134 135), (0, .class_ 136), (0, .nameAndType 137 138), (0, u "java/lang/Math"), (0, u "max"), (0, u "(II)I"), (0, .methodref 1 140), (0, .nameAndType 141 30), (0, u "ensureCapacity"), (13, .methodref 1 156), (0, .nameAndType 157 30), (0, u "expandTo"), (0, .methodref 1 159), (0, .nameAndType 160 20), (0, u "recalculateWordsInUse"), (0, .methodref 1 162), (0, .nameAndType 163 164), (0, u "checkRange"), (0, u "(II)V"), (0, .long 18446744073709551615), (3, u "set"), (2, u "clear"), (0, .methodref 1 174), (0, .nameAndType 169 164), (0, .methodref 1 176), (0, .nameAndType 172 164), (2, u "length"), (3, .class_ 185), (1, u "java/lang/Long"), (1, u "(J)I"), (2, .methodref 183 191), (0, .nameAndType 192 187), (0, u "numberOfLeadingZeros"), (3, .methodref 183 197), (0, .nameAndType 198 187), (0, u "bitCount"), (56, u "cardinality"), (13, .class_ 270), (0, u "java/util/BitSet$1BitSetSpliterator"), (22, u "serialPersistentFields"), (0, u "[Ljava/io/ObjectStreamField;"), (0, .class_ 296), (0, u "java/lang/Cloneable"), (0, .class_ 298), (0, u "java/io/Serializable"), (0, u "ADDRESS_BITS_PER_WORD"), (2, u "BITS_PER_WORD"), (1, u "BIT_INDEX_MASK"), (1, u "WORD_MASK"), (0, u "J"), (0, u "serialVersionUID"), (34, u "flip"), (6, u "(IIZ)V"), (0, u "(I)Z")] 65

def k5c0 : Code := { maxStack := 2, maxLocals := 1, code := jdk_92_method_1_code, exceptionTable := #[], attributes := #[] }
def k5m0 : Method := { name := "wordIndex", desc := "(I)I", sig := { parameters := [.int], returnType := some .int }, accessFlags := 10, code := some k5c0 }
def k5c1 : Code := { maxStack := 4, maxLocals := 1, code := jdk_92_method_2_code, exceptionTable := #[], attributes := #[] }
def k5m1 : Method := { name := "checkInvariants", desc := "()V", sig := { parameters := [], returnType := none }, accessFlags := 2, code := some k5c1 }
def k5c2 : Code := { maxStack := 4, maxLocals := 2, code := jdk_92_method_3_code, exceptionTable := #[], attributes := #[] }
def k5m2 : Method := { name := "recalculateWordsInUse", desc := "()V", sig := { parameters := [], returnType := none }, accessFlags := 2, code := some k5c2 }
def k5m3 : Method := { name := "<init>", desc := "()V", sig := { parameters := [], returnType := none }, accessFlags := 1, code := none }
def k5c4 : Code := { maxStack := 4, maxLocals := 2, code := jdk_92_method_5_code, exceptionTable := #[], attributes := #[] }
def k5m4 : Method := { name := "<init>", desc := "(I)V", sig := { parameters := [.int], returnType := none }, accessFlags := 1, code := some k5c4 }
def k5c5 : Code := { maxStack := 3, maxLocals := 2, code := jdk_92_method_6_code, exceptionTable := #[], attributes := #[] }
def k5m5 : Method := { name := "initWords", desc := "(I)V", sig := { parameters := [.int], returnType := none }, accessFlags := 2, code := some k5c5 }
def k5c6 : Code := { maxStack := 3, maxLocals := 3, code := jdk_92_method_14_code, exceptionTable := #[], attributes := #[] }
def k5m6 : Method := { name := "ensureCapacity", desc := "(I)V", sig := { parameters := [.int], returnType := none }, accessFlags := 2, code := some k5c6 }
def k5c7 : Code := { maxStack := 2, maxLocals := 3, code := jdk_92_method_15_code, exceptionTable := #[], attributes := #[] }
def k5m7 : Method := { name := "expandTo", desc := "(I)V", sig := { parameters := [.int], returnType := none }, accessFlags := 2, code := some k5c7 }
def k5c8 : Code := { maxStack := 4, maxLocals := 2, code := jdk_92_method_16_code, exceptionTable := #[], attributes := #[] }
def k5m8 : Method := { name := "checkRange", desc := "(II)V", sig := { parameters := [.int, .int], returnType := none }, accessFlags := 10, code := some k5c8 }
def k5c9 : Code := { maxStack := 8, maxLocals := 10, code := jdk_92_method_18_code, exceptionTable := #[], attributes := #[] }
def k5m9 : Method := { name := "flip", desc := "(II)V", sig := { parameters := [.int, .int], returnType := none }, accessFlags := 1, code := some k5c9 }
def k5c10 : Code := { maxStack := 7, maxLocals := 3, code := jdk_92_method_19_code, exceptionTable := #[], attributes := #[] }
def k5m10 : Method := { name := "set", desc := "(I)V", sig := { parameters := [.int], returnType := none }, accessFlags := 1, code := some k5c10 }
def k5c11 : Code := { maxStack := 8, maxLocals := 10, code := jdk_92_method_21_code, exceptionTable := #[], attributes := #[] }
def k5m11 : Method := { name := "set", desc := "(II)V", sig := { parameters := [.int, .int], returnType := none }, accessFlags := 1, code := some k5c11 }
def k5c12 : Code := { maxStack := 3, maxLocals := 4, code := jdk_92_method_22_code, exceptionTable := #[], attributes := #[] }
def k5m12 : Method := { name := "set", desc := "(IIZ)V", sig := { parameters := [.int, .int, .boolean], returnType := none }, accessFlags := 1, code := some k5c12 }
def k5c13 : Code := { maxStack := 8, maxLocals := 10, code := jdk_92_method_24_code, exceptionTable := #[], attributes := #[] }
def k5m13 : Method := { name := "clear", desc := "(II)V", sig := { parameters := [.int, .int], returnType := none }, accessFlags := 1, code := some k5c13 }
def k5c14 : Code := { maxStack := 5, maxLocals := 3, code := jdk_92_method_26_code, exceptionTable := #[], attributes := #[] }
def k5m14 : Method := { name := "get", desc := "(I)Z", sig := { parameters := [.int], returnType := some .boolean }, accessFlags := 1, code := some k5c14 }
def k5c15 : Code := { maxStack := 5, maxLocals := 1, code := jdk_92_method_32_code, exceptionTable := #[], attributes := #[] }
def k5m15 : Method := { name := "length", desc := "()I", sig := { parameters := [], returnType := some .int }, accessFlags := 1, code := some k5c15 }
def k5c16 : Code := { maxStack := 3, maxLocals := 3, code := jdk_92_method_35_code, exceptionTable := #[], attributes := #[] }
def k5m16 : Method := { name := "cardinality", desc := "()I", sig := { parameters := [], returnType := some .int }, accessFlags := 1, code := some k5c16 }
/-- java/util/BitSet -/
def k5 : Class := { plain "java/util/BitSet" (some 0) with
  accessFlags := 33
  interfaces := #[3, 4]
  cf := some (fileOf pool5 1 #[.nestMembers #[269]] #[{ accessFlags := 10, nameIndex := 54, descriptorIndex := 55, attributes := #[] }, { accessFlags := 2, nameIndex := 58, descriptorIndex := 20, attributes := #[] }, { accessFlags := 2, nameIndex := 160, descriptorIndex := 20, attributes := #[] }, { accessFlags := 1, nameIndex := 19, descriptorIndex := 20, attributes := #[] }, { accessFlags := 1, nameIndex := 19, descriptorIndex := 30, attributes := #[] }, { accessFlags := 2, nameIndex := 29, descriptorIndex := 30, attributes := #[] }, { accessFlags := 2, nameIndex := 141, descriptorIndex := 30, attributes := #[] }, { accessFlags := 2, nameIndex := 157, descriptorIndex := 30, attributes := #[] }, { accessFlags := 10, nameIndex := 163, descriptorIndex := 164, attributes := #[] }, { accessFlags := 1, nameIndex := 343, descriptorIndex := 164, attributes := #[] }, { accessFlags := 1, nameIndex := 169, descriptorIndex := 30, attributes := #[] }, { accessFlags := 1, nameIndex := 169, descriptorIndex := 164, attributes := #[] }, { accessFlags := 1, nameIndex := 169, descriptorIndex := 350, attributes := #[] }, { accessFlags := 1, nameIndex := 172, descriptorIndex := 164, attributes := #[] }, { accessFlags := 1, nameIndex := 80, descriptorIndex := 351, attributes := #[] }, { accessFlags := 1, nameIndex := 179, descriptorIndex := 77, attributes := #[] }, { accessFlags := 1, nameIndex := 255, descriptorIndex := 77, attributes := #[] }] 33 22 #[295, 297] #[{ accessFlags := 26, nameIndex := 299, descriptorIndex := 10, attributes := #[] }, { accessFlags := 26, nameIndex := 302, descriptorIndex := 10, attributes := #[] }, { accessFlags := 26, nameIndex := 304, descriptorIndex := 10, attributes := #[] }, { accessFlags := 26, nameIndex := 306, descriptorIndex := 307, attributes := #[] }, { accessFlags := 26, nameIndex := 293, descriptorIndex := 294, attributes := #[] }, { accessFlags := 2, nameIndex := 13, descriptorIndex := 14, attributes := #[] }, { accessFlags := 130, nameIndex := 9, descriptorIndex := 10, attributes := #[] }, { accessFlags := 130, nameIndex := 26, descriptorIndex := 6, attributes := #[] }, { accessFlags := 26, nameIndex := 308, descriptorIndex := 307, attributes := #[] }, { accessFlags := 4120, nameIndex := 5, descriptorIndex := 6, attributes := #[] }])
  fields := #[{ name := "ADDRESS_BITS_PER_WORD", type := .int, accessFlags := 26, slot := 0, constantValue := 0 }, { name := "BITS_PER_WORD", type := .int, accessFlags := 26, slot := 1, constantValue := 0 }, { name := "BIT_INDEX_MASK", type := .int, accessFlags := 26, slot := 2, constantValue := 0 }, { name := "WORD_MASK", type := .long, accessFlags := 26, slot := 3, constantValue := 0 }, { name := "serialPersistentFields", type := (.array (.object "java/io/ObjectStreamField")), accessFlags := 26, slot := 4, constantValue := 0 }, { name := "words", type := (.array .long), accessFlags := 2, slot := 0, constantValue := 0 }, { name := "wordsInUse", type := .int, accessFlags := 130, slot := 1, constantValue := 0 }, { name := "sizeIsSticky", type := .boolean, accessFlags := 130, slot := 2, constantValue := 0 }, { name := "serialVersionUID", type := .long, accessFlags := 26, slot := 5, constantValue := 0 }, { name := "$assertionsDisabled", type := .boolean, accessFlags := 4120, slot := 6, constantValue := 0 }]
  methods := #[k5m0, k5m1, k5m2, k5m3, k5m4, k5m5, k5m6, k5m7, k5m8, k5m9, k5m10, k5m11, k5m12, k5m13, k5m14, k5m15, k5m16]
  instanceTypes := #[(.array .long), .int, .boolean]
  staticTypes := #[.int, .int, .int, .long, (.array (.object "java/io/ObjectStreamField")), .long, .boolean]
  resolved := Array.replicate 417 none
  statics := some 0 }

def pool6 : Array CpInfo := pool [(1, .methodref 2 3), (0, .class_ 4), (0, .nameAndType 5 6), (0, u "java/lang/Object"), (0, u "<init>"), (0, u "()V"), (0, .class_ 8), (0, u "java/lang/Record")] 13

def k6c0 : Code := { maxStack := 1, maxLocals := 1, code := jdk_30_method_1_code, exceptionTable := #[], attributes := #[] }
def k6m0 : Method := { name := "<init>", desc := "()V", sig := { parameters := [], returnType := none }, accessFlags := 4, code := some k6c0 }
/-- java/lang/Record -/
def k6 : Class := { plain "java/lang/Record" (some 0) with
  accessFlags := 1057
  interfaces := #[]
  cf := some (fileOf pool6 7 #[] #[{ accessFlags := 4, nameIndex := 5, descriptorIndex := 6, attributes := #[] }] 1057 2 #[] #[])
  fields := #[]
  methods := #[k6m0]
  instanceTypes := #[]
  staticTypes := #[]
  resolved := Array.replicate 22 none
  statics := none }

def pool7 : Array CpInfo := pool [(1, .class_ 2), (0, u "com/example/petrel/petrel/HoaLabel"), (0, .class_ 4), (0, u "java/lang/Object"), (8, .class_ 14), (0, u "com/example/petrel/petrel/HoaLabel$Junction"), (0, .class_ 16), (0, u "com/example/petrel/petrel/HoaLabel$Not"), (0, .class_ 18), (0, u "com/example/petrel/petrel/HoaLabel$Alias"), (0, .class_ 20), (0, u "com/example/petrel/petrel/HoaLabel$Ap"), (0, .class_ 22), (0, u "com/example/petrel/petrel/HoaLabel$Constant"), (0, .class_ 24), (0, u "com/example/petrel/petrel/HoaLabel$Tables")] 7

/-- com/example/petrel/petrel/HoaLabel -/
def k7 : Class := { plain "com/example/petrel/petrel/HoaLabel" (some 0) with
  accessFlags := 1536
  interfaces := #[]
  cf := some (fileOf pool7 1 #[.nestMembers #[13, 15, 17, 19, 21, 23]] #[] 1536 3 #[] #[])
  fields := #[]
  methods := #[]
  instanceTypes := #[]
  staticTypes := #[]
  resolved := Array.replicate 32 none
  statics := none }

def pool8 : Array CpInfo := pool [(1, .methodref 2 3), (0, .class_ 4), (0, .nameAndType 5 6), (0, u "java/lang/Record"), (0, u "<init>"), (0, u "()V"), (0, .fieldref 8 9), (0, .class_ 10), (0, .nameAndType 11 12), (0, u "com/example/petrel/petrel/HoaLabel$Constant"), (0, u "value"), (0, u "Z"), (0, .class_ 14), (0, u "java/util/BitSet"), (0, .fieldref 16 17), (0, .class_ 18), (0, .nameAndType 19 20), (0, u "com/example/petrel/petrel/HoaLabel$Tables"), (0, u "valuationCount"), (0, u "I"), (0, .methodref 13 22), (0, .nameAndType 5 23), (0, u "(I)V"), (0, .methodref 13 25), (0, .nameAndType 26 27), (0, u "set"), (0, u "(IIZ)V"), (12, .class_ 41), (0, u "com/example/petrel/petrel/HoaLabel"), (0, u "(Z)V"), (3, u "table"), (0, u "(Lcom/example/petrel/petrel/HoaLabel$Tables;)Ljava/util/BitSet;")] 26

def k8c0 : Code := { maxStack := 2, maxLocals := 2, code := prog_5_method_1_code, exceptionTable := #[], attributes := #[] }
def k8m0 : Method := { name := "<init>", desc := "(Z)V", sig := { parameters := [.boolean], returnType := none }, accessFlags := 1, code := some k8c0 }
def k8c1 : Code := { maxStack := 4, maxLocals := 3, code := prog_5_method_2_code, exceptionTable := #[], attributes := #[] }
def k8m1 : Method := { name := "table", desc := "(Lcom/example/petrel/petrel/HoaLabel$Tables;)Ljava/util/BitSet;", sig := { parameters := [(.object "com/example/petrel/petrel/HoaLabel$Tables")], returnType := some (.object "java/util/BitSet") }, accessFlags := 1, code := some k8c1 }
/-- com/example/petrel/petrel/HoaLabel$Constant -/
def k8 : Class := { plain "com/example/petrel/petrel/HoaLabel$Constant" (some 6) with
  accessFlags := 49
  interfaces := #[7]
  cf := some (fileOf pool8 8 #[.nestHost 40] #[{ accessFlags := 1, nameIndex := 5, descriptorIndex := 42, attributes := #[] }, { accessFlags := 1, nameIndex := 46, descriptorIndex := 47, attributes := #[] }] 49 2 #[40] #[{ accessFlags := 18, nameIndex := 11, descriptorIndex := 12, attributes := #[] }])
  fields := #[{ name := "value", type := .boolean, accessFlags := 18, slot := 0, constantValue := 0 }]
  methods := #[k8m0, k8m1]
  instanceTypes := #[.boolean]
  staticTypes := #[]
  resolved := Array.replicate 74 none
  statics := none }

def pool9 : Array CpInfo := pool [(2, .class_ 4), (1, u "java/lang/Object"), (0, u "<init>"), (0, u "()V"), (1, .class_ 10), (1, u "java/lang/Number"), (2, .class_ 14), (0, u "java/io/Serializable"), (0, u "serialVersionUID"), (0, u "J")] 20

def k9m0 : Method := { name := "<init>", desc := "()V", sig := { parameters := [], returnType := none }, accessFlags := 1, code := none }
/-- java/lang/Number -/
def k9 : Class := { plain "java/lang/Number" (some 0) with
  accessFlags := 1057
  interfaces := #[4]
  cf := some (fileOf pool9 8 #[] #[{ accessFlags := 1, nameIndex := 5, descriptorIndex := 6, attributes := #[] }] 1057 2 #[13] #[{ accessFlags := 26, nameIndex := 15, descriptorIndex := 16, attributes := #[] }])
  fields := #[{ name := "serialVersionUID", type := .long, accessFlags := 26, slot := 0, constantValue := 0 }]
  methods := #[k9m0]
  instanceTypes := #[]
  staticTypes := #[.long]
  resolved := Array.replicate 37 none
  statics := none }

def pool10 : Array CpInfo := pool [(1, .class_ 2), (0, u "java/lang/Comparable"), (0, .class_ 4), (0, u "java/lang/Object")] 7

/-- java/lang/Comparable -/
def k10 : Class := { plain "java/lang/Comparable" (some 0) with
  accessFlags := 1537
  interfaces := #[]
  cf := some (fileOf pool10 1 #[] #[] 1537 3 #[] #[])
  fields := #[]
  methods := #[]
  instanceTypes := #[]
  staticTypes := #[]
  resolved := Array.replicate 12 none
  statics := none }

def pool11 : Array CpInfo := pool [(1, .class_ 2), (0, u "java/lang/constant/Constable"), (0, .class_ 4), (0, u "java/lang/Object")] 6

/-- java/lang/constant/Constable -/
def k11 : Class := { plain "java/lang/constant/Constable" (some 0) with
  accessFlags := 1537
  interfaces := #[]
  cf := some (fileOf pool11 1 #[] #[] 1537 3 #[] #[])
  fields := #[]
  methods := #[]
  instanceTypes := #[]
  staticTypes := #[]
  resolved := Array.replicate 11 none
  statics := none }

def pool12 : Array CpInfo := pool [(1, .class_ 2), (0, u "java/lang/constant/ConstantDesc"), (0, .class_ 4), (0, u "java/lang/Object")] 32

/-- java/lang/constant/ConstantDesc -/
def k12 : Class := { plain "java/lang/constant/ConstantDesc" (some 0) with
  accessFlags := 1537
  interfaces := #[]
  cf := some (fileOf pool12 1 #[] #[] 1537 3 #[] #[])
  fields := #[]
  methods := #[]
  instanceTypes := #[]
  staticTypes := #[]
  resolved := Array.replicate 37 none
  statics := none }

def pool13 : Array CpInfo := pool [(1, .class_ 2), (0, u "java/lang/Long"), (15, .class_ 20), (1, u "java/lang/Integer"), (79, u "numberOfLeadingZeros"), (0, u "(J)I"), (133, .class_ 237), (1, u "java/lang/Long$LongCache"), (33, .class_ 272), (0, u "java/lang/Number"), (2, u "value"), (0, u "J"), (31, .methodref 18 309), (0, .nameAndType 100 310), (0, u "(I)I"), (3, .long 6148914691236517205), (1, .long 3689348814741910323), (1, .long 1085102592571150095), (42, u "TYPE"), (0, u "Ljava/lang/Class;"), (0, .class_ 364), (0, u "java/lang/Comparable"), (0, .class_ 366), (0, u "java/lang/constant/Constable"), (0, .class_ 368), (0, u "java/lang/constant/ConstantDesc"), (0, u "MIN_VALUE"), (1, u "MAX_VALUE"), (4, u "SIZE"), (0, u "I"), (1, u "BYTES"), (1, u "serialVersionUID"), (94, u "bitCount")] 47

def k13c0 : Code := { maxStack := 3, maxLocals := 3, code := jdk_35_method_48_code, exceptionTable := #[], attributes := #[] }
def k13m0 : Method := { name := "numberOfLeadingZeros", desc := "(J)I", sig := { parameters := [.long], returnType := some .int }, accessFlags := 9, code := some k13c0 }
def k13c1 : Code := { maxStack := 6, maxLocals := 2, code := jdk_35_method_50_code, exceptionTable := #[], attributes := #[] }
def k13m1 : Method := { name := "bitCount", desc := "(J)I", sig := { parameters := [.long], returnType := some .int }, accessFlags := 9, code := some k13c1 }
/-- java/lang/Long -/
def k13 : Class := { plain "java/lang/Long" (some 9) with
  accessFlags := 49
  interfaces := #[10, 11, 12]
  cf := some (fileOf pool13 1 #[.nestMembers #[235]] #[{ accessFlags := 9, nameIndex := 100, descriptorIndex := 101, attributes := #[] }, { accessFlags := 9, nameIndex := 476, descriptorIndex := 101, attributes := #[] }] 49 271 #[363, 365, 367] #[{ accessFlags := 25, nameIndex := 369, descriptorIndex := 276, attributes := #[] }, { accessFlags := 25, nameIndex := 371, descriptorIndex := 276, attributes := #[] }, { accessFlags := 25, nameIndex := 361, descriptorIndex := 362, attributes := #[] }, { accessFlags := 18, nameIndex := 275, descriptorIndex := 276, attributes := #[] }, { accessFlags := 25, nameIndex := 376, descriptorIndex := 377, attributes := #[] }, { accessFlags := 25, nameIndex := 379, descriptorIndex := 377, attributes := #[] }, { accessFlags := 26, nameIndex := 381, descriptorIndex := 276, attributes := #[] }])
  fields := #[{ name := "MIN_VALUE", type := .long, accessFlags := 25, slot := 0, constantValue := 0 }, { name := "MAX_VALUE", type := .long, accessFlags := 25, slot := 1, constantValue := 0 }, { name := "TYPE", type := (.object "java/lang/Class"), accessFlags := 25, slot := 2, constantValue := 0 }, { name := "value", type := .long, accessFlags := 18, slot := 0, constantValue := 0 }, { name := "SIZE", type := .int, accessFlags := 25, slot := 3, constantValue := 0 }, { name := "BYTES", type := .int, accessFlags := 25, slot := 4, constantValue := 0 }, { name := "serialVersionUID", type := .long, accessFlags := 26, slot := 5, constantValue := 0 }]
  methods := #[k13m0, k13m1]
  instanceTypes := #[.long]
  staticTypes := #[.long, .long, (.object "java/lang/Class"), .int, .int, .long]
  resolved := Array.replicate 524 none
  statics := none }

def pool14 : Array CpInfo := pool [(1, .class_ 2), (0, u "java/lang/Integer"), (16, u "digits"), (0, u "[C"), (32, u "numberOfLeadingZeros"), (0, u "(I)I"), (30, u "DigitOnes"), (0, u "[B"), (2, u "DigitTens"), (99, .class_ 190), (0, u "java/lang/Integer$IntegerCache"), (3, u "I"), (8, .class_ 204), (0, u "java/lang/Number"), (2, u "value"), (56, .integer 65536), (37, u "TYPE"), (0, u "Ljava/lang/Class;"), (0, .class_ 305), (0, u "java/lang/Comparable"), (0, .class_ 307), (0, u "java/lang/constant/Constable"), (0, .class_ 309), (0, u "java/lang/constant/ConstantDesc"), (0, u "MIN_VALUE"), (1, u "MAX_VALUE"), (3, u "SIZE"), (1, u "BYTES"), (1, u "serialVersionUID"), (0, u "J")] 131

def k14c0 : Code := { maxStack := 3, maxLocals := 2, code := jdk_33_method_47_code, exceptionTable := #[], attributes := #[] }
def k14m0 : Method := { name := "numberOfLeadingZeros", desc := "(I)I", sig := { parameters := [.int], returnType := some .int }, accessFlags := 9, code := some k14c0 }
/-- java/lang/Integer -/
def k14 : Class := { plain "java/lang/Integer" (some 9) with
  accessFlags := 49
  interfaces := #[10, 11, 12]
  cf := some (fileOf pool14 1 #[.nestMembers #[189]] #[{ accessFlags := 9, nameIndex := 53, descriptorIndex := 54, attributes := #[] }] 49 203 #[304, 306, 308] #[{ accessFlags := 25, nameIndex := 310, descriptorIndex := 194, attributes := #[] }, { accessFlags := 25, nameIndex := 312, descriptorIndex := 194, attributes := #[] }, { accessFlags := 25, nameIndex := 302, descriptorIndex := 303, attributes := #[] }, { accessFlags := 24, nameIndex := 19, descriptorIndex := 20, attributes := #[] }, { accessFlags := 24, nameIndex := 89, descriptorIndex := 86, attributes := #[] }, { accessFlags := 24, nameIndex := 85, descriptorIndex := 86, attributes := #[] }, { accessFlags := 18, nameIndex := 207, descriptorIndex := 194, attributes := #[] }, { accessFlags := 25, nameIndex := 316, descriptorIndex := 194, attributes := #[] }, { accessFlags := 25, nameIndex := 318, descriptorIndex := 194, attributes := #[] }, { accessFlags := 26, nameIndex := 320, descriptorIndex := 321, attributes := #[] }])
  fields := #[{ name := "MIN_VALUE", type := .int, accessFlags := 25, slot := 0, constantValue := 0 }, { name := "MAX_VALUE", type := .int, accessFlags := 25, slot := 1, constantValue := 0 }, { name := "TYPE", type := (.object "java/lang/Class"), accessFlags := 25, slot := 2, constantValue := 0 }, { name := "digits", type := (.array .char), accessFlags := 24, slot := 3, constantValue := 0 }, { name := "DigitTens", type := (.array .byte), accessFlags := 24, slot := 4, constantValue := 0 }, { name := "DigitOnes", type := (.array .byte), accessFlags := 24, slot := 5, constantValue := 0 }, { name := "value", type := .int, accessFlags := 18, slot := 0, constantValue := 0 }, { name := "SIZE", type := .int, accessFlags := 25, slot := 6, constantValue := 0 }, { name := "BYTES", type := .int, accessFlags := 25, slot := 7, constantValue := 0 }, { name := "serialVersionUID", type := .long, accessFlags := 26, slot := 8, constantValue := 0 }]
  methods := #[k14m0]
  instanceTypes := #[.int]
  staticTypes := #[.int, .int, (.object "java/lang/Class"), (.array .char), (.array .byte), (.array .byte), .int, .int, .long]
  resolved := Array.replicate 453 none
  statics := none }

def pool15 : Array CpInfo := pool [(1, .class_ 2), (0, u "java/lang/Math"), (1, .class_ 6), (1, u "java/lang/Object"), (0, u "<init>"), (0, u "()V"), (89, .class_ 100), (1, u "java/lang/Math$RandomNumberGeneratorHolder"), (71, u "negativeZeroFloatBits"), (0, u "J"), (2, u "negativeZeroDoubleBits"), (21, u "max"), (2, u "min"), (43, u "$assertionsDisabled"), (0, u "Z"), (88, u "(II)I"), (2, u "twoToTheDoubleScaleDown"), (0, u "D"), (4, u "twoToTheDoubleScaleUp"), (9, u "E"), (3, u "PI"), (2, u "TAU"), (2, u "DEGREES_TO_RADIANS"), (0, u "RADIANS_TO_DEGREES")] 94

def k15m0 : Method := { name := "<init>", desc := "()V", sig := { parameters := [], returnType := none }, accessFlags := 2, code := none }
def k15c1 : Code := { maxStack := 2, maxLocals := 2, code := jdk_29_method_65_code, exceptionTable := #[], attributes := #[] }
def k15m1 : Method := { name := "max", desc := "(II)I", sig := { parameters := [.int, .int], returnType := some .int }, accessFlags := 9, code := some k15c1 }
def k15c2 : Code := { maxStack := 2, maxLocals := 2, code := jdk_29_method_69_code, exceptionTable := #[], attributes := #[] }
def k15m2 : Method := { name := "min", desc := "(II)I", sig := { parameters := [.int, .int], returnType := some .int }, accessFlags := 9, code := some k15c2 }
/-- java/lang/Math -/
def k15 : Class := { plain "java/lang/Math" (some 0) with
  accessFlags := 49
  interfaces := #[]
  cf := some (fileOf pool15 1 #[.nestMembers #[98]] #[{ accessFlags := 2, nameIndex := 7, descriptorIndex := 8, attributes := #[] }, { accessFlags := 9, nameIndex := 198, descriptorIndex := 335, attributes := #[] }, { accessFlags := 9, nameIndex := 201, descriptorIndex := 335, attributes := #[] }] 49 4 #[] #[{ accessFlags := 25, nameIndex := 354, descriptorIndex := 339, attributes := #[] }, { accessFlags := 25, nameIndex := 358, descriptorIndex := 339, attributes := #[] }, { accessFlags := 25, nameIndex := 361, descriptorIndex := 339, attributes := #[] }, { accessFlags := 26, nameIndex := 364, descriptorIndex := 339, attributes := #[] }, { accessFlags := 26, nameIndex := 365, descriptorIndex := 339, attributes := #[] }, { accessFlags := 26, nameIndex := 172, descriptorIndex := 173, attributes := #[] }, { accessFlags := 26, nameIndex := 176, descriptorIndex := 173, attributes := #[] }, { accessFlags := 8, nameIndex := 344, descriptorIndex := 339, attributes := #[] }, { accessFlags := 8, nameIndex := 338, descriptorIndex := 339, attributes := #[] }, { accessFlags := 4120, nameIndex := 245, descriptorIndex := 246, attributes := #[] }])
  fields := #[{ name := "E", type := .double, accessFlags := 25, slot := 0, constantValue := 0 }, { name := "PI", type := .double, accessFlags := 25, slot := 1, constantValue := 0 }, { name := "TAU", type := .double, accessFlags := 25, slot := 2, constantValue := 0 }, { name := "DEGREES_TO_RADIANS", type := .double, accessFlags := 26, slot := 3, constantValue := 0 }, { name := "RADIANS_TO_DEGREES", type := .double, accessFlags := 26, slot := 4, constantValue := 0 }, { name := "negativeZeroFloatBits", type := .long, accessFlags := 26, slot := 5, constantValue := 0 }, { name := "negativeZeroDoubleBits", type := .long, accessFlags := 26, slot := 6, constantValue := 0 }, { name := "twoToTheDoubleScaleUp", type := .double, accessFlags := 8, slot := 7, constantValue := 0 }, { name := "twoToTheDoubleScaleDown", type := .double, accessFlags := 8, slot := 8, constantValue := 0 }, { name := "$assertionsDisabled", type := .boolean, accessFlags := 4120, slot := 9, constantValue := 0 }]
  methods := #[k15m0, k15m1, k15m2]
  instanceTypes := #[]
  staticTypes := #[.double, .double, .double, .double, .double, .long, .long, .double, .double, .boolean]
  resolved := Array.replicate 460 none
  statics := none }

def pool16 : Array CpInfo := pool [(2, .class_ 4), (1, u "java/lang/Object"), (0, u "<init>"), (0, u "()V"), (7, .class_ 16), (1, u "java/util/Arrays"), (57, .class_ 76), (1, u "java/util/Arrays$NaturalOrder"), (36, .class_ 115), (1, u "java/util/Arrays$LegacyMergeSort"), (1, u "Z"), (32, .methodref 151 152), (0, .class_ 153), (0, .nameAndType 154 155), (0, u "java/lang/System"), (0, u "arraycopy"), (0, u "(Ljava/lang/Object;ILjava/lang/Object;II)V"), (146, u "copyOf"), (1, .methodref 305 306), (0, .class_ 307), (0, .nameAndType 308 309), (0, u "java/lang/Math"), (0, u "min"), (0, u "(II)I"), (65, .class_ 376), (0, u "java/util/Arrays$ArrayList"), (68, u "$assertionsDisabled"), (269, u "MIN_ARRAY_SORT_GRAN"), (0, u "I"), (2, u "INSERTIONSORT_THRESHOLD"), (152, u "([JI)[J"), (102, .class_ 976), (0, u "java/util/Arrays$ArrayItr")] 52

def k16m0 : Method := { name := "<init>", desc := "()V", sig := { parameters := [], returnType := none }, accessFlags := 2, code := none }
def k16c1 : Code := { maxStack := 6, maxLocals := 3, code := jdk_65_method_124_code, exceptionTable := #[], attributes := #[] }
def k16m1 : Method := { name := "copyOf", desc := "([JI)[J", sig := { parameters := [(.array .long), .int], returnType := some (.array .long) }, accessFlags := 9, code := some k16c1 }
/-- java/util/Arrays -/
def k16 : Class := { plain "java/util/Arrays" (some 0) with
  accessFlags := 49
  interfaces := #[]
  cf := some (fileOf pool16 14 #[.nestMembers #[975, 375, 113, 74]] #[{ accessFlags := 2, nameIndex := 5, descriptorIndex := 6, attributes := #[] }, { accessFlags := 9, nameIndex := 302, descriptorIndex := 872, attributes := #[] }] 49 2 #[] #[{ accessFlags := 26, nameIndex := 715, descriptorIndex := 716, attributes := #[] }, { accessFlags := 26, nameIndex := 719, descriptorIndex := 716, attributes := #[] }, { accessFlags := 4120, nameIndex := 445, descriptorIndex := 117, attributes := #[] }])
  fields := #[{ name := "MIN_ARRAY_SORT_GRAN", type := .int, accessFlags := 26, slot := 0, constantValue := 0 }, { name := "INSERTIONSORT_THRESHOLD", type := .int, accessFlags := 26, slot := 1, constantValue := 0 }, { name := "$assertionsDisabled", type := .boolean, accessFlags := 4120, slot := 2, constantValue := 0 }]
  methods := #[k16m0, k16m1]
  instanceTypes := #[]
  staticTypes := #[.int, .int, .boolean]
  resolved := Array.replicate 1029 none
  statics := none }

def pool17 : Array CpInfo := pool [(2, .class_ 4), (1, u "java/lang/Object"), (0, u "<init>"), (0, u "()V"), (1, .class_ 10), (1, u "java/lang/System"), (0, u "allowSecurityManager"), (0, u "I"), (16, u "cons"), (0, u "Ljava/io/Console;"), (77, .class_ 110), (1, u "java/lang/System$CallersHolder"), (43, u "initialErrStream"), (0, u "Ljava/io/PrintStream;"), (19, u "security"), (0, u "Ljava/lang/SecurityManager;"), (31, .class_ 209), (0, u "java/lang/System$1"), (7, u "props"), (0, u "Ljava/util/Properties;"), (2, u "lineSeparator"), (0, u "Ljava/lang/String;"), (96, .class_ 321), (1, u "java/lang/System$LoggerFinder"), (5, .class_ 328), (0, u "java/lang/System$Logger"), (67, u "err"), (2, u "out"), (91, u "notSupportedJnuEncoding"), (15, u "in"), (17, u "initialIn"), (0, u "Ljava/io/InputStream;"), (35, u "bootLayer"), (0, u "Ljava/lang/ModuleLayer;"), (99, .class_ 664), (0, u "java/lang/System$2"), (9, u "NEVER"), (2, u "MAYBE"), (49, u "arraycopy"), (0, u "(Ljava/lang/Object;ILjava/lang/Object;II)V"), (72, .class_ 802), (0, u "java/lang/System$Logger$Level")] 31

def k17m0 : Method := { name := "<init>", desc := "()V", sig := { parameters := [], returnType := none }, accessFlags := 2, code := none }
def k17m1 : Method := { name := "arraycopy", desc := "(Ljava/lang/Object;ILjava/lang/Object;II)V", sig := { parameters := [(.object "java/lang/Object"), .int, (.object "java/lang/Object"), .int, .int], returnType := none }, accessFlags := 265, code := none }
/-- java/lang/System -/
def k17 : Class := { plain "java/lang/System" (some 0) with
  accessFlags := 49
  interfaces := #[]
  cf := some (fileOf pool17 8 #[.nestMembers #[319, 327, 801, 108, 663, 208]] #[{ accessFlags := 2, nameIndex := 5, descriptorIndex := 6, attributes := #[] }, { accessFlags := 265, nameIndex := 727, descriptorIndex := 728, attributes := #[] }] 49 2 #[] #[{ accessFlags := 25, nameIndex := 507, descriptorIndex := 526, attributes := #[] }, { accessFlags := 25, nameIndex := 399, descriptorIndex := 155, attributes := #[] }, { accessFlags := 25, nameIndex := 396, descriptorIndex := 155, attributes := #[] }, { accessFlags := 10, nameIndex := 525, descriptorIndex := 526, attributes := #[] }, { accessFlags := 26, nameIndex := 674, descriptorIndex := 12, attributes := #[] }, { accessFlags := 26, nameIndex := 677, descriptorIndex := 12, attributes := #[] }, { accessFlags := 10, nameIndex := 11, descriptorIndex := 12, attributes := #[] }, { accessFlags := 74, nameIndex := 175, descriptorIndex := 176, attributes := #[] }, { accessFlags := 10, nameIndex := 491, descriptorIndex := 222, attributes := #[] }, { accessFlags := 74, nameIndex := 29, descriptorIndex := 30, attributes := #[] }, { accessFlags := 74, nameIndex := 154, descriptorIndex := 155, attributes := #[] }, { accessFlags := 10, nameIndex := 217, descriptorIndex := 218, attributes := #[] }, { accessFlags := 10, nameIndex := 221, descriptorIndex := 222, attributes := #[] }, { accessFlags := 8, nameIndex := 562, descriptorIndex := 563, attributes := #[] }])
  fields := #[{ name := "in", type := (.object "java/io/InputStream"), accessFlags := 25, slot := 0, constantValue := 0 }, { name := "out", type := (.object "java/io/PrintStream"), accessFlags := 25, slot := 1, constantValue := 0 }, { name := "err", type := (.object "java/io/PrintStream"), accessFlags := 25, slot := 2, constantValue := 0 }, { name := "initialIn", type := (.object "java/io/InputStream"), accessFlags := 10, slot := 3, constantValue := 0 }, { name := "NEVER", type := .int, accessFlags := 26, slot := 4, constantValue := 0 }, { name := "MAYBE", type := .int, accessFlags := 26, slot := 5, constantValue := 0 }, { name := "allowSecurityManager", type := .int, accessFlags := 10, slot := 6, constantValue := 0 }, { name := "security", type := (.object "java/lang/SecurityManager"), accessFlags := 74, slot := 7, constantValue := 0 }, { name := "notSupportedJnuEncoding", type := (.object "java/lang/String"), accessFlags := 10, slot := 8, constantValue := 0 }, { name := "cons", type := (.object "java/io/Console"), accessFlags := 74, slot := 9, constantValue := 0 }, { name := "initialErrStream", type := (.object "java/io/PrintStream"), accessFlags := 74, slot := 10, constantValue := 0 }, { name := "props", type := (.object "java/util/Properties"), accessFlags := 10, slot := 11, constantValue := 0 }, { name := "lineSeparator", type := (.object "java/lang/String"), accessFlags := 10, slot := 12, constantValue := 0 }, { name := "bootLayer", type := (.object "java/lang/ModuleLayer"), accessFlags := 8, slot := 13, constantValue := 0 }]
  methods := #[k17m0, k17m1]
  instanceTypes := #[]
  staticTypes := #[(.object "java/io/InputStream"), (.object "java/io/PrintStream"), (.object "java/io/PrintStream"), (.object "java/io/InputStream"), .int, .int, .int, (.object "java/lang/SecurityManager"), (.object "java/lang/String"), (.object "java/io/Console"), (.object "java/io/PrintStream"), (.object "java/util/Properties"), (.object "java/lang/String"), (.object "java/lang/ModuleLayer")]
  resolved := Array.replicate 834 none
  statics := none }

/-- the primitive byte -/
def k18 : Class := { plain "byte" none with kind := .primitive 'B', accessFlags := 0x411 }
/-- [B -/
def k19 : Class := { plain "[B" (some 0) with kind := .array 18 .byte, interfaces := #[3, 4], accessFlags := 1041 }

/-- the primitive int -/
def k20 : Class := { plain "int" none with kind := .primitive 'I', accessFlags := 0x411 }
/-- [I -/
def k21 : Class := { plain "[I" (some 0) with kind := .array 20 .int, interfaces := #[3, 4], accessFlags := 1041 }

/-- the primitive long -/
def k22 : Class := { plain "long" none with kind := .primitive 'J', accessFlags := 0x411 }
/-- [J -/
def k23 : Class := { plain "[J" (some 0) with kind := .array 22 .long, interfaces := #[3, 4], accessFlags := 1041 }

/-- [Ljava/util/BitSet; -/
def k24 : Class := { plain "[Ljava/util/BitSet;" (some 0) with kind := .array 5 (.object "java/util/BitSet"), interfaces := #[3, 4], accessFlags := 1041 }

def heap : Heap := #[{ cls := 5, slots := #[.int 0, .int 0, .int 0, .long 0, .null, .long 0, .int 1], vm := .statics 5 }]
def classes : Array Class := #[k0, k1, k2, k3, k4, k5, k6, k7, k8, k9, k10, k11, k12, k13, k14, k15, k16, k17, k18, k19, k20, k21, k22, k23, k24]
def interned : List (Array UInt16 × Addr) := []
def slotsUsed : Nat := 7
def theMethod : MethodId := ⟨1, 2⟩
def args0 : Array Value := #[.int 1, .int 2, .int 3]
def aboutOver (below : List Frame) : State where
  vm := { classes := classes, interned := interned.toArray }
  heap := heap
  slotsUsed := slotsUsed
  threads := #[{ frames := .invoking theMethod args0 :: below }]
def below0 : List Frame := [.native { method := ⟨0, 0⟩, args := #[] }]
def about1 : State := aboutOver below0
def p0 : Program := .bare "" "" ""
def e0 : Env := launch0.env 0 0 0
theorem w_frames : about1.frames = Frame.invoking theMethod args0 :: below0 := rfl
set_option maxRecDepth 65536 in
theorem w_args : argsFit about1.vm theMethod args0 = true := by decide +kernel
set_option maxRecDepth 65536 in
theorem w_heap : heapFits about1 = true := by decide +kernel
set_option maxRecDepth 65536 in
theorem w_runnable : about1.curStatus? = some .runnable := by decide +kernel
set_option maxRecDepth 65536 in
theorem w_alone : about1.alone = true := by decide +kernel
set_option maxRecDepth 65536 in
theorem w_named : about1.methodNamed? x = some theMethod := by decide +kernel
set_option maxRecDepth 65536 in
theorem w_hears : about1.hears theMethod below0 = true := by decide +kernel
set_option maxRecDepth 65536 in
theorem w_ripe : about1.ripe theMethod args0 below0 = true := by decide +kernel
theorem w_running : about1.status = .running := rfl
set_option maxRecDepth 65536 in
theorem w_room : about1.hasRoom e0.platform room_1 = true :=
  launch0.hasRoom_least _ room_1 (by decide +kernel) (by decide +kernel) (by decide +kernel) (by decide +kernel) (by decide +kernel) (by decide +kernel)
theorem allAtoms_all (ts : List Jvm.Cond) (a : Array Jvm.Value) (st : Jvm.State) : (allAtoms ts).before a st = ts.all (fun c => c.before a st) := by
  induction ts with
  | nil => rfl
  | cons c t ih =>
    show (Jvm.Cond.and c (allAtoms t)).before a st = _
    rw [Jvm.Cond.before_and, ih, List.all_cons]
def words1 : List Jvm.Cond := Jvm.Cond.code x code maxLocals ret :: tables_1
/-- a 'code' word, met by the world's own term for the bytes: nothing is compared byte by byte -/
theorem code_word {y : MethodName} {bytes : ByteArray} {mx : Nat} {rt : Option FieldType} {a : Array Value} {s : State} {m : MethodId} {meth : Method} {c : Code} (h1 : s.methodNamed? y = some m) (h2 : s.vm.method? m = some meth) (h3 : meth.code = some c) (h4 : c.code = bytes)
    (h5 : (c.maxLocals == mx && c.exceptionTable.isEmpty && decide (c.maxStack ≤ mostOperands) && decide (meth.sig.returnType = rt) && !meth.locks && decide (parseMethodDescriptor y.desc = some meth.sig)) = true) : (Jvm.Cond.code y bytes mx rt).before a s = true := by
  simp only [Bool.and_eq_true, beq_iff_eq, Bool.not_eq_true', decide_eq_true_eq] at h5
  obtain ⟨⟨⟨⟨⟨g1, g2⟩, g3⟩, g4⟩, g5⟩, g6⟩ := h5
  simp [Cond.before, Cond.holds, Cond.value, h1, h2, h3, h4, g1, g2, g3, g4, g5, g6]
def isCode : Jvm.Cond → Bool
  | .code _ _ _ _ => true
  | _ => false
theorem all_split {L : List Jvm.Cond} {P : Jvm.Cond → Bool} (h1 : L.all (fun c => isCode c || P c) = true) (h2 : ∀ c ∈ L.filter isCode, P c = true) : L.all P = true := by
  refine List.all_eq_true.mpr fun c hc => ?_
  have h := List.all_eq_true.mp h1 c hc
  rcases Bool.eq_false_or_eq_true (isCode c) with hi | hi
  · exact h2 c (List.mem_filter.mpr ⟨hc, hi⟩)
  · simpa [hi] using h
set_option maxRecDepth 65536 in
theorem w_c0 : (Jvm.Cond.code x code maxLocals ret).before args0 about1 = true := code_word (m := ⟨1, 2⟩) (meth := k1m2) (c := k1c2) (by decide +kernel) rfl rfl rfl (by decide +kernel)
set_option maxRecDepth 65536 in
theorem w_c1 : (Jvm.Cond.code ({ cls := "com/example/petrel/petrel/HoaLabel$Tables", name := "<init>", desc := "(ILjava/util/Map;)V" } : Jvm.MethodName) prog_8_method_1_code (5 : Nat) (Option.none : Option Jvm.ClassFile.FieldType)).before args0 about1 = true := code_word (m := ⟨2, 0⟩) (meth := k2m0) (c := k2c0) (by decide +kernel) rfl rfl rfl (by decide +kernel)
set_option maxRecDepth 65536 in
theorem w_c2 : (Jvm.Cond.code ({ cls := "java/lang/Object", name := "<init>", desc := "()V" } : Jvm.MethodName) object_method_1_code (1 : Nat) (Option.none : Option Jvm.ClassFile.FieldType)).before args0 about1 = true := code_word (m := ⟨0, 0⟩) (meth := k0m0) (c := k0c0) (by decide +kernel) rfl rfl rfl (by decide +kernel)
set_option maxRecDepth 65536 in
theorem w_c3 : (Jvm.Cond.code ({ cls := "java/util/BitSet", name := "<init>", desc := "(I)V" } : Jvm.MethodName) jdk_92_method_5_code (2 : Nat) (Option.none : Option Jvm.ClassFile.FieldType)).before args0 about1 = true := code_word (m := ⟨5, 4⟩) (meth := k5m4) (c := k5c4) (by decide +kernel) rfl rfl rfl (by decide +kernel)
set_option maxRecDepth 65536 in
theorem w_c4 : (Jvm.Cond.code ({ cls := "java/util/BitSet", name := "initWords", desc := "(I)V" } : Jvm.MethodName) jdk_92_method_6_code (2 : Nat) (Option.none : Option Jvm.ClassFile.FieldType)).before args0 about1 = true := code_word (m := ⟨5, 5⟩) (meth := k5m5) (c := k5c5) (by decide +kernel) rfl rfl rfl (by decide +kernel)
set_option maxRecDepth 65536 in
theorem w_c5 : (Jvm.Cond.code ({ cls := "java/util/BitSet", name := "wordIndex", desc := "(I)I" } : Jvm.MethodName) jdk_92_method_1_code (1 : Nat) (Option.some Jvm.ClassFile.FieldType.int)).before args0 about1 = true := code_word (m := ⟨5, 0⟩) (meth := k5m0) (c := k5c0) (by decide +kernel) rfl rfl rfl (by decide +kernel)
set_option maxRecDepth 65536 in
theorem w_c6 : (Jvm.Cond.code ({ cls := "java/util/BitSet", name := "set", desc := "(I)V" } : Jvm.MethodName) jdk_92_method_19_code (3 : Nat) (Option.none : Option Jvm.ClassFile.FieldType)).before args0 about1 = true := code_word (m := ⟨5, 10⟩) (meth := k5m10) (c := k5c10) (by decide +kernel) rfl rfl rfl (by decide +kernel)
set_option maxRecDepth 65536 in
theorem w_c7 : (Jvm.Cond.code ({ cls := "java/util/BitSet", name := "expandTo", desc := "(I)V" } : Jvm.MethodName) jdk_92_method_15_code (3 : Nat) (Option.none : Option Jvm.ClassFile.FieldType)).before args0 about1 = true := code_word (m := ⟨5, 7⟩) (meth := k5m7) (c := k5c7) (by decide +kernel) rfl rfl rfl (by decide +kernel)
set_option maxRecDepth 65536 in
theorem w_c8 : (Jvm.Cond.code ({ cls := "java/util/BitSet", name := "ensureCapacity", desc := "(I)V" } : Jvm.MethodName) jdk_92_method_14_code (3 : Nat) (Option.none : Option Jvm.ClassFile.FieldType)).before args0 about1 = true := code_word (m := ⟨5, 6⟩) (meth := k5m6) (c := k5c6) (by decide +kernel) rfl rfl rfl (by decide +kernel)
set_option maxRecDepth 65536 in
theorem w_c9 : (Jvm.Cond.code ({ cls := "java/util/BitSet", name := "checkInvariants", desc := "()V" } : Jvm.MethodName) jdk_92_method_2_code (1 : Nat) (Option.none : Option Jvm.ClassFile.FieldType)).before args0 about1 = true := code_word (m := ⟨5, 1⟩) (meth := k5m1) (c := k5c1) (by decide +kernel) rfl rfl rfl (by decide +kernel)
set_option maxRecDepth 65536 in
theorem w_c10 : (Jvm.Cond.code ({ cls := "com/example/petrel/petrel/HoaLabel$Constant", name := "<init>", desc := "(Z)V" } : Jvm.MethodName) prog_5_method_1_code (2 : Nat) (Option.none : Option Jvm.ClassFile.FieldType)).before args0 about1 = true := code_word (m := ⟨8, 0⟩) (meth := k8m0) (c := k8c0) (by decide +kernel) rfl rfl rfl (by decide +kernel)
set_option maxRecDepth 65536 in
theorem w_c11 : (Jvm.Cond.code ({ cls := "java/lang/Record", name := "<init>", desc := "()V" } : Jvm.MethodName) jdk_30_method_1_code (1 : Nat) (Option.none : Option Jvm.ClassFile.FieldType)).before args0 about1 = true := code_word (m := ⟨6, 0⟩) (meth := k6m0) (c := k6c0) (by decide +kernel) rfl rfl rfl (by decide +kernel)
set_option maxRecDepth 65536 in
theorem w_c12 : (Jvm.Cond.code ({ cls := "com/example/petrel/petrel/HoaLabel$Constant", name := "table", desc := "(Lcom/example/petrel/petrel/HoaLabel$Tables;)Ljava/util/BitSet;" } : Jvm.MethodName) prog_5_method_2_code (3 : Nat) (Option.some (Jvm.ClassFile.FieldType.object "java/util/BitSet"))).before args0 about1 = true := code_word (m := ⟨8, 1⟩) (meth := k8m1) (c := k8c1) (by decide +kernel) rfl rfl rfl (by decide +kernel)
set_option maxRecDepth 65536 in
theorem w_c13 : (Jvm.Cond.code ({ cls := "java/util/BitSet", name := "set", desc := "(IIZ)V" } : Jvm.MethodName) jdk_92_method_22_code (4 : Nat) (Option.none : Option Jvm.ClassFile.FieldType)).before args0 about1 = true := code_word (m := ⟨5, 12⟩) (meth := k5m12) (c := k5c12) (by decide +kernel) rfl rfl rfl (by decide +kernel)
set_option maxRecDepth 65536 in
theorem w_c14 : (Jvm.Cond.code ({ cls := "java/util/BitSet", name := "clear", desc := "(II)V" } : Jvm.MethodName) jdk_92_method_24_code (10 : Nat) (Option.none : Option Jvm.ClassFile.FieldType)).before args0 about1 = true := code_word (m := ⟨5, 13⟩) (meth := k5m13) (c := k5c13) (by decide +kernel) rfl rfl rfl (by decide +kernel)
set_option maxRecDepth 65536 in
theorem w_c15 : (Jvm.Cond.code ({ cls := "java/util/BitSet", name := "checkRange", desc := "(II)V" } : Jvm.MethodName) jdk_92_method_16_code (2 : Nat) (Option.none : Option Jvm.ClassFile.FieldType)).before args0 about1 = true := code_word (m := ⟨5, 8⟩) (meth := k5m8) (c := k5c8) (by decide +kernel) rfl rfl rfl (by decide +kernel)
set_option maxRecDepth 65536 in
theorem w_c16 : (Jvm.Cond.code ({ cls := "com/example/petrel/petrel/ConstantTablePinLaw", name := "exact", desc := "(Ljava/util/BitSet;IIZ)Z" } : Jvm.MethodName) method_2_code (4 : Nat) (Option.some Jvm.ClassFile.FieldType.boolean)).before args0 about1 = true := code_word (m := ⟨1, 1⟩) (meth := k1m1) (c := k1c1) (by decide +kernel) rfl rfl rfl (by decide +kernel)
set_option maxRecDepth 65536 in
theorem w_c17 : (Jvm.Cond.code ({ cls := "java/util/BitSet", name := "cardinality", desc := "()I" } : Jvm.MethodName) jdk_92_method_35_code (3 : Nat) (Option.some Jvm.ClassFile.FieldType.int)).before args0 about1 = true := code_word (m := ⟨5, 16⟩) (meth := k5m16) (c := k5c16) (by decide +kernel) rfl rfl rfl (by decide +kernel)
set_option maxRecDepth 65536 in
theorem w_c18 : (Jvm.Cond.code ({ cls := "java/util/BitSet", name := "length", desc := "()I" } : Jvm.MethodName) jdk_92_method_32_code (1 : Nat) (Option.some Jvm.ClassFile.FieldType.int)).before args0 about1 = true := code_word (m := ⟨5, 15⟩) (meth := k5m15) (c := k5c15) (by decide +kernel) rfl rfl rfl (by decide +kernel)
set_option maxRecDepth 65536 in
theorem w_c19 : (Jvm.Cond.code ({ cls := "java/util/BitSet", name := "get", desc := "(I)Z" } : Jvm.MethodName) jdk_92_method_26_code (3 : Nat) (Option.some Jvm.ClassFile.FieldType.boolean)).before args0 about1 = true := code_word (m := ⟨5, 14⟩) (meth := k5m14) (c := k5c14) (by decide +kernel) rfl rfl rfl (by decide +kernel)
set_option maxRecDepth 65536 in
theorem w_c20 : (Jvm.Cond.code ({ cls := "java/util/BitSet", name := "flip", desc := "(II)V" } : Jvm.MethodName) jdk_92_method_18_code (10 : Nat) (Option.none : Option Jvm.ClassFile.FieldType)).before args0 about1 = true := code_word (m := ⟨5, 9⟩) (meth := k5m9) (c := k5c9) (by decide +kernel) rfl rfl rfl (by decide +kernel)
set_option maxRecDepth 65536 in
theorem w_c21 : (Jvm.Cond.code ({ cls := "java/util/BitSet", name := "recalculateWordsInUse", desc := "()V" } : Jvm.MethodName) jdk_92_method_3_code (2 : Nat) (Option.none : Option Jvm.ClassFile.FieldType)).before args0 about1 = true := code_word (m := ⟨5, 2⟩) (meth := k5m2) (c := k5c2) (by decide +kernel) rfl rfl rfl (by decide +kernel)
set_option maxRecDepth 65536 in
theorem w_c22 : (Jvm.Cond.code ({ cls := "java/util/BitSet", name := "set", desc := "(II)V" } : Jvm.MethodName) jdk_92_method_21_code (10 : Nat) (Option.none : Option Jvm.ClassFile.FieldType)).before args0 about1 = true := code_word (m := ⟨5, 11⟩) (meth := k5m11) (c := k5c11) (by decide +kernel) rfl rfl rfl (by decide +kernel)
set_option maxRecDepth 65536 in
theorem w_c23 : (Jvm.Cond.code ({ cls := "java/lang/Long", name := "bitCount", desc := "(J)I" } : Jvm.MethodName) jdk_35_method_50_code (2 : Nat) (Option.some Jvm.ClassFile.FieldType.int)).before args0 about1 = true := code_word (m := ⟨13, 1⟩) (meth := k13m1) (c := k13c1) (by decide +kernel) rfl rfl rfl (by decide +kernel)
set_option maxRecDepth 65536 in
theorem w_c24 : (Jvm.Cond.code ({ cls := "java/lang/Long", name := "numberOfLeadingZeros", desc := "(J)I" } : Jvm.MethodName) jdk_35_method_48_code (3 : Nat) (Option.some Jvm.ClassFile.FieldType.int)).before args0 about1 = true := code_word (m := ⟨13, 0⟩) (meth := k13m0) (c := k13c0) (by decide +kernel) rfl rfl rfl (by decide +kernel)
set_option maxRecDepth 65536 in
theorem w_c25 : (Jvm.Cond.code ({ cls := "java/lang/Integer", name := "numberOfLeadingZeros", desc := "(I)I" } : Jvm.MethodName) jdk_33_method_47_code (2 : Nat) (Option.some Jvm.ClassFile.FieldType.int)).before args0 about1 = true := code_word (m := ⟨14, 0⟩) (meth := k14m0) (c := k14c0) (by decide +kernel) rfl rfl rfl (by decide +kernel)
set_option maxRecDepth 65536 in
theorem w_c26 : (Jvm.Cond.code ({ cls := "java/lang/Math", name := "max", desc := "(II)I" } : Jvm.MethodName) jdk_29_method_65_code (2 : Nat) (Option.some Jvm.ClassFile.FieldType.int)).before args0 about1 = true := code_word (m := ⟨15, 1⟩) (meth := k15m1) (c := k15c1) (by decide +kernel) rfl rfl rfl (by decide +kernel)
set_option maxRecDepth 65536 in
theorem w_c27 : (Jvm.Cond.code ({ cls := "java/util/Arrays", name := "copyOf", desc := "([JI)[J" } : Jvm.MethodName) jdk_65_method_124_code (3 : Nat) (Option.some (Jvm.ClassFile.FieldType.array Jvm.ClassFile.FieldType.long))).before args0 about1 = true := code_word (m := ⟨16, 1⟩) (meth := k16m1) (c := k16c1) (by decide +kernel) rfl rfl rfl (by decide +kernel)
set_option maxRecDepth 65536 in
theorem w_c28 : (Jvm.Cond.code ({ cls := "java/lang/Math", name := "min", desc := "(II)I" } : Jvm.MethodName) jdk_29_method_69_code (2 : Nat) (Option.some Jvm.ClassFile.FieldType.int)).before args0 about1 = true := code_word (m := ⟨15, 2⟩) (meth := k15m2) (c := k15c2) (by decide +kernel) rfl rfl rfl (by decide +kernel)
def codes1 : List Jvm.Cond := [Jvm.Cond.code x code maxLocals ret, Jvm.Cond.code ({ cls := "com/example/petrel/petrel/HoaLabel$Tables", name := "<init>", desc := "(ILjava/util/Map;)V" } : Jvm.MethodName) prog_8_method_1_code (5 : Nat) (Option.none : Option Jvm.ClassFile.FieldType), Jvm.Cond.code ({ cls := "java/lang/Object", name := "<init>", desc := "()V" } : Jvm.MethodName) object_method_1_code (1 : Nat) (Option.none : Option Jvm.ClassFile.FieldType), Jvm.Cond.code ({ cls := "java/util/BitSet", name := "<init>", desc := "(I)V" } : Jvm.MethodName) jdk_92_method_5_code (2 : Nat) (Option.none : Option Jvm.ClassFile.FieldType), Jvm.Cond.code ({ cls := "java/util/BitSet", name := "initWords", desc := "(I)V" } : Jvm.MethodName) jdk_92_method_6_code (2 : Nat) (Option.none : Option Jvm.ClassFile.FieldType), Jvm.Cond.code ({ cls := "java/util/BitSet", name := "wordIndex", desc := "(I)I" } : Jvm.MethodName) jdk_92_method_1_code (1 : Nat) (Option.some Jvm.ClassFile.FieldType.int), Jvm.Cond.code ({ cls := "java/util/BitSet", name := "set", desc := "(I)V" } : Jvm.MethodName) jdk_92_method_19_code (3 : Nat) (Option.none : Option Jvm.ClassFile.FieldType), Jvm.Cond.code ({ cls := "java/util/BitSet", name := "expandTo", desc := "(I)V" } : Jvm.MethodName) jdk_92_method_15_code (3 : Nat) (Option.none : Option Jvm.ClassFile.FieldType), Jvm.Cond.code ({ cls := "java/util/BitSet", name := "ensureCapacity", desc := "(I)V" } : Jvm.MethodName) jdk_92_method_14_code (3 : Nat) (Option.none : Option Jvm.ClassFile.FieldType), Jvm.Cond.code ({ cls := "java/util/BitSet", name := "checkInvariants", desc := "()V" } : Jvm.MethodName) jdk_92_method_2_code (1 : Nat) (Option.none : Option Jvm.ClassFile.FieldType), Jvm.Cond.code ({ cls := "com/example/petrel/petrel/HoaLabel$Constant", name := "<init>", desc := "(Z)V" } : Jvm.MethodName) prog_5_method_1_code (2 : Nat) (Option.none : Option Jvm.ClassFile.FieldType), Jvm.Cond.code ({ cls := "java/lang/Record", name := "<init>", desc := "()V" } : Jvm.MethodName) jdk_30_method_1_code (1 : Nat) (Option.none : Option Jvm.ClassFile.FieldType), Jvm.Cond.code ({ cls := "com/example/petrel/petrel/HoaLabel$Constant", name := "table", desc := "(Lcom/example/petrel/petrel/HoaLabel$Tables;)Ljava/util/BitSet;" } : Jvm.MethodName) prog_5_method_2_code (3 : Nat) (Option.some (Jvm.ClassFile.FieldType.object "java/util/BitSet")), Jvm.Cond.code ({ cls := "java/util/BitSet", name := "set", desc := "(IIZ)V" } : Jvm.MethodName) jdk_92_method_22_code (4 : Nat) (Option.none : Option Jvm.ClassFile.FieldType), Jvm.Cond.code ({ cls := "java/util/BitSet", name := "clear", desc := "(II)V" } : Jvm.MethodName) jdk_92_method_24_code (10 : Nat) (Option.none : Option Jvm.ClassFile.FieldType), Jvm.Cond.code ({ cls := "java/util/BitSet", name := "checkRange", desc := "(II)V" } : Jvm.MethodName) jdk_92_method_16_code (2 : Nat) (Option.none : Option Jvm.ClassFile.FieldType), Jvm.Cond.code ({ cls := "com/example/petrel/petrel/ConstantTablePinLaw", name := "exact", desc := "(Ljava/util/BitSet;IIZ)Z" } : Jvm.MethodName) method_2_code (4 : Nat) (Option.some Jvm.ClassFile.FieldType.boolean), Jvm.Cond.code ({ cls := "java/util/BitSet", name := "cardinality", desc := "()I" } : Jvm.MethodName) jdk_92_method_35_code (3 : Nat) (Option.some Jvm.ClassFile.FieldType.int), Jvm.Cond.code ({ cls := "java/util/BitSet", name := "length", desc := "()I" } : Jvm.MethodName) jdk_92_method_32_code (1 : Nat) (Option.some Jvm.ClassFile.FieldType.int), Jvm.Cond.code ({ cls := "java/util/BitSet", name := "get", desc := "(I)Z" } : Jvm.MethodName) jdk_92_method_26_code (3 : Nat) (Option.some Jvm.ClassFile.FieldType.boolean), Jvm.Cond.code ({ cls := "java/util/BitSet", name := "flip", desc := "(II)V" } : Jvm.MethodName) jdk_92_method_18_code (10 : Nat) (Option.none : Option Jvm.ClassFile.FieldType), Jvm.Cond.code ({ cls := "java/util/BitSet", name := "recalculateWordsInUse", desc := "()V" } : Jvm.MethodName) jdk_92_method_3_code (2 : Nat) (Option.none : Option Jvm.ClassFile.FieldType), Jvm.Cond.code ({ cls := "java/util/BitSet", name := "set", desc := "(II)V" } : Jvm.MethodName) jdk_92_method_21_code (10 : Nat) (Option.none : Option Jvm.ClassFile.FieldType), Jvm.Cond.code ({ cls := "java/lang/Long", name := "bitCount", desc := "(J)I" } : Jvm.MethodName) jdk_35_method_50_code (2 : Nat) (Option.some Jvm.ClassFile.FieldType.int), Jvm.Cond.code ({ cls := "java/lang/Long", name := "numberOfLeadingZeros", desc := "(J)I" } : Jvm.MethodName) jdk_35_method_48_code (3 : Nat) (Option.some Jvm.ClassFile.FieldType.int), Jvm.Cond.code ({ cls := "java/lang/Integer", name := "numberOfLeadingZeros", desc := "(I)I" } : Jvm.MethodName) jdk_33_method_47_code (2 : Nat) (Option.some Jvm.ClassFile.FieldType.int), Jvm.Cond.code ({ cls := "java/lang/Math", name := "max", desc := "(II)I" } : Jvm.MethodName) jdk_29_method_65_code (2 : Nat) (Option.some Jvm.ClassFile.FieldType.int), Jvm.Cond.code ({ cls := "java/util/Arrays", name := "copyOf", desc := "([JI)[J" } : Jvm.MethodName) jdk_65_method_124_code (3 : Nat) (Option.some (Jvm.ClassFile.FieldType.array Jvm.ClassFile.FieldType.long)), Jvm.Cond.code ({ cls := "java/lang/Math", name := "min", desc := "(II)I" } : Jvm.MethodName) jdk_29_method_69_code (2 : Nat) (Option.some Jvm.ClassFile.FieldType.int)]
set_option maxRecDepth 65536 in
theorem codes_eq : words1.filter isCode = codes1 := rfl
theorem w_codes : ∀ c ∈ words1.filter isCode, c.before args0 about1 = true := by
  rw [codes_eq]
  intro c hc
  simp only [codes1, List.mem_cons, List.not_mem_nil, or_false] at hc
  rcases hc with rfl | rfl | rfl | rfl | rfl | rfl | rfl | rfl | rfl | rfl | rfl | rfl | rfl | rfl | rfl | rfl | rfl | rfl | rfl | rfl | rfl | rfl | rfl | rfl | rfl | rfl | rfl | rfl | rfl
  · exact w_c0
  · exact w_c1
  · exact w_c2
  · exact w_c3
  · exact w_c4
  · exact w_c5
  · exact w_c6
  · exact w_c7
  · exact w_c8
  · exact w_c9
  · exact w_c10
  · exact w_c11
  · exact w_c12
  · exact w_c13
  · exact w_c14
  · exact w_c15
  · exact w_c16
  · exact w_c17
  · exact w_c18
  · exact w_c19
  · exact w_c20
  · exact w_c21
  · exact w_c22
  · exact w_c23
  · exact w_c24
  · exact w_c25
  · exact w_c26
  · exact w_c27
  · exact w_c28
set_option maxRecDepth 65536 in
theorem w_t1 : (words1.take 24).all (fun c => isCode c || c.before args0 about1) = true := by decide +kernel
set_option maxRecDepth 65536 in
theorem w_t2 : ((words1.drop 24).take 24).all (fun c => isCode c || c.before args0 about1) = true := by decide +kernel
set_option maxRecDepth 65536 in
theorem w_t3 : (((words1.drop 24).drop 24).take 24).all (fun c => isCode c || c.before args0 about1) = true := by decide +kernel
set_option maxRecDepth 65536 in
theorem w_t4 : ((((words1.drop 24).drop 24).drop 24).take 24).all (fun c => isCode c || c.before args0 about1) = true := by decide +kernel
set_option maxRecDepth 65536 in
theorem w_t5 : (((((words1.drop 24).drop 24).drop 24).drop 24).take 24).all (fun c => isCode c || c.before args0 about1) = true := by decide +kernel
set_option maxRecDepth 65536 in
theorem w_t6 : ((((((words1.drop 24).drop 24).drop 24).drop 24).drop 24).take 24).all (fun c => isCode c || c.before args0 about1) = true := by decide +kernel
set_option maxRecDepth 65536 in
theorem w_t7 : ((((((words1.drop 24).drop 24).drop 24).drop 24).drop 24).drop 24).all (fun c => isCode c || c.before args0 about1) = true := by decide +kernel
theorem w_tables : (allAtoms (Jvm.Cond.code x code maxLocals ret :: tables_1)).before args0 about1 = true := by
  rw [allAtoms_all]
  show words1.all (fun c => c.before args0 about1) = true
  refine all_split ?_ w_codes
  rw [← List.take_append_drop 24 words1, List.all_append, w_t1, ← List.take_append_drop 24 (words1.drop 24), List.all_append, w_t2, ← List.take_append_drop 24 ((words1.drop 24).drop 24), List.all_append, w_t3, ← List.take_append_drop 24 (((words1.drop 24).drop 24).drop 24), List.all_append, w_t4, ← List.take_append_drop 24 ((((words1.drop 24).drop 24).drop 24).drop 24), List.all_append, w_t5, ← List.take_append_drop 24 (((((words1.drop 24).drop 24).drop 24).drop 24).drop 24), List.all_append, w_t6, w_t7]
  rfl
set_option maxRecDepth 65536 in
theorem w_rest : rest_1_c.before args0 about1 = true := by decide +kernel
set_option maxRecDepth 65536 in
theorem w_case : (Jvm.Cond.and given_1 narrow_1).before args0 about1 = true := by decide +kernel
theorem w_applies : (headSpec (Jvm.Cond.code x code maxLocals ret :: tables_1) room_1).applies x e0.platform about1 = true :=
  (Spec.applies_iff w_frames).mpr ⟨w_running, w_runnable, w_alone, w_named, w_hears, w_ripe, w_room, w_tables⟩
theorem atStart : AtStart classFile x code maxLocals ret World_1 tables_1 room_1 Calls_1 rest_1 Pre_1 launch0 p0 e0 about1 theMethod args0 below0 :=
  ⟨lists_1, trivial, launch0.admits_env _ _ _, launch0.least_env, fairChoices_fair.cas, fairChoices_fair.clock, w_frames, w_args, w_heap, w_applies, trivial, w_rest, w_case⟩
end start1
theorem witness_1 : WitnessClaimed_1 := ⟨start1.p0, start1.e0, start1.about1, start1.theMethod, start1.args0, start1.below0, start1.atStart⟩
end Jvm.Pilot.@@N@@
