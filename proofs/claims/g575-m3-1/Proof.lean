import JvmDerived
import JvmDerived.Pilot.@@N@@Statement
import JvmDerived.Pilot.@@N@@Code
set_option linter.unusedVariables false
set_option linter.unusedSimpArgs false
namespace Jvm.Pilot.@@N@@
namespace GK
open Jvm Jvm.ClassFile Sem Op Lib Jvm.Free Jvm.Stand Jvm.LawKit Jvm.RoadKit Bundle
/-! A small program logic over the library's walks: 'Go' says that from a frame at pc the body runs to its return, and what holds there. -/
abbrev Md := Option (List (String × Nat))
def Bk0 (md : Md) (Z s : State) (sf : List Addr) (vm0 : Vm) (h : Heap) : Prop :=
  match md with
  | none => vm0 = s.vm
  | some EL => (∃ k, s.Since vm0 k ∧ k ≤ h.size) ∧ (∃ a0, EW Z a0 EL) ∧ CHr Z EL s.vm s.heap vm0 h ∧ ∀ x ∈ sf, x < h.size ∧ Safe Z EL vm0 h x
/-- what is kept along a walk: the start's cells stand; the tables' book -/
def Bok (md : Md) (Z : State) (n0 : Nat) (s : State) (sf : List Addr) (vm0 : Vm) (h : Heap) : Prop := Old Z n0 h ∧ Bk0 md Z s sf vm0 h
def SafeAll (md : Md) (Z : State) (sf : List Addr) (vm : Vm) (h : Heap) : Prop :=
  match md with
  | none => True
  | some EL => ∀ x ∈ sf, x < h.size ∧ Safe Z EL vm h x
def FinE (md : Md) (Z s : State) (o : Outcome) (t : State) (L : List Loc) (k n : Nat) : Prop :=
  match md with
  | none => FrameEnd s o t L k n
  | some EL => CHr Z EL s.vm s.heap t.vm t.heap ∧ ReturnedEndW s o t L k n
section B
variable {md : Md} {EL : List (String × Nat)} {Z s : State} {n0 : Nat} {sf sf' ws : List Addr} {vm0 vm1 : Vm} {h h' h2 : Heap} {x a : Addr} {sl : Nat} {v : Value}
theorem extR (h : Heap) : Ext h h := ⟨Nat.le_refl _, fun _ _ q => q⟩
theorem extT (E : Ext h h') (E' : Ext h' h2) : Ext h h2 := ⟨Nat.le_trans E.1 E'.1, fun a c q => E'.2 a c (E.2 a c q)⟩
/-- a write beyond h -/
theorem extW (E : Ext h h') (W : Wr h' h2 a sl v) (q : h.size ≤ a) : Ext h h2 := by
  obtain ⟨c, -, -, -, rfl⟩ := W
  refine ⟨by simpa using E.1, fun b cb hb => ?_⟩
  have hlt := (Array.getElem?_eq_some_iff.mp hb).1
  rw [Array.getElem?_setIfInBounds_ne (by omega)]
  exact E.2 b cb hb
theorem extK (E : Ext h h') (K : Keep h' h2 ws) (q : ∀ x ∈ ws, h.size ≤ x) : Ext h h2 :=
  ⟨Nat.le_trans E.1 K.1, fun b cb hb => K.2.1 b cb (E.2 b cb hb) fun z => by
    have hlt := (Array.getElem?_eq_some_iff.mp hb).1
    have := q b z; omega⟩
theorem keepE (E : Ext h h') (ws : List Addr) : Keep h h' ws := (Keep.refl h ws).ext E
theorem Bok.n0le (B : Bok md Z n0 s sf vm0 h) : n0 ≤ h.size := B.1.1 ▸ B.1.2.1
theorem Bok.sub (B : Bok md Z n0 s sf vm0 h) (q : ∀ x ∈ sf', x ∈ sf) : Bok md Z n0 s sf' vm0 h := by
  cases md with
  | none => exact B
  | some EL => exact ⟨B.1, B.2.1, B.2.2.1, B.2.2.2.1, fun x hx => B.2.2.2.2 x (q x hx)⟩
theorem Bok.keep (B : Bok md Z n0 s sf vm0 h) (K : Keep h h' ws) (q : ∀ x ∈ ws, x ∈ sf) (q0 : ∀ x ∈ ws, n0 ≤ x) : Bok md Z n0 s sf vm0 h' := by
  refine ⟨B.1.keep K q0, ?_⟩
  cases md with
  | none => exact B.2
  | some EL =>
    obtain ⟨-, ⟨k, h1, h2⟩, h3, h4, h5⟩ := B
    have C := CHr.keep K (fun x hx => (h5 x (q x hx)).2) h4.1
    exact ⟨⟨k, h1, Nat.le_trans h2 K.1⟩, h3, h4.trans C, fun x hx => ⟨Nat.lt_of_lt_of_le (h5 x hx).1 K.1, C.safe (h5 x hx).1 (h5 x hx).2⟩⟩
theorem Bok.wr (B : Bok md Z n0 s sf vm0 h) (W : Wr h h' a sl v) (q : a ∈ sf) (q0 : n0 ≤ a) : Bok md Z n0 s sf vm0 h' :=
  B.keep (Keep.of_wr W) (fun x hx => by cases List.mem_singleton.mp hx; exact q) (fun x hx => by cases List.mem_singleton.mp hx; exact q0)
theorem Bok.ext (B : Bok md Z n0 s sf vm0 h) (E : Ext h h') : Bok md Z n0 s sf vm0 h' :=
  B.keep (keepE E []) (fun x hx => nomatch hx) (fun x hx => nomatch hx)
theorem Bok.new (B : Bok md Z n0 s sf vm0 h) (E : Ext h h') (q : x < h'.size) (r : h.size ≤ x) : Bok md Z n0 s (x :: sf) vm0 h' := by
  have B' := B.ext E
  cases md with
  | none => exact B'
  | some EL =>
    refine ⟨B'.1, B'.2.1, B'.2.2.1, B'.2.2.2.1, fun y hy => ?_⟩
    rcases List.mem_cons.mp hy with rfl | hy
    · exact ⟨q, fun b => Safe.new r ((B.2.2.2.1.1.step fun _ _ _ q => E.2 _ _ q).2 _ b)⟩
    · exact B'.2.2.2.2 y hy
end B
/-- Java's x >>> y -/
def ushr (x y : Int32) : Int32 := (x.toUInt32 >>> (y &&& 31).toUInt32).toInt32
def ushrL (x : Int64) (y : Int32) : Int64 := (x.toUInt64 >>> (y &&& 0x3f).toInt64.toUInt64).toInt64
/-- (char) x -/
def chr (x : Int32) : Int32 := x.toUInt32.toUInt16.toUInt32.toInt32
def Go (md : Md) (l : Launch) (Z : State) (n0 : Nat) (R : Room) (bytes : ByteArray) (ml : Nat) (ret : Option FieldType) (own mn : String) (Ψ : Option Value → Heap → List Addr → Prop)
    (cells slots : Nat) (sf : List Addr) (h : Heap) (pc : Nat) (L : Array Slot) (S : List Value) : Prop :=
  ∀ (p : Program) (e : Env) (s : State) (m : MethodId) (args : Array Value) (below : List Frame) (meth : Method) (c : Code) (vm0 : Vm) (T : State) (locs : List Loc),
    p.tables.exec = Jvm.exec → c.code = bytes → c.maxLocals = ml → meth.sig.returnType = ret → meth.locks = false → meth.name = mn → Z.vm.findClass own = some m.cls →
    Stand p l e R (s.setVm vm0) m args below meth c T locs cells slots → T.heap = h → Z.Warmed39 vm0 → Bok md Z n0 s sf vm0 h → Fr n0 locs →
    ∃ (s₂ : State) (o : Outcome), Steps p.tables e below (T.setTop (mkF m pc L S)) s₂ ∧ s₂.status = .running ∧ Ended s₂ below o ∧
      ∃ (v : Option Value) (L' : List Loc) (sf' : List Addr), o = .returned v ∧ Ψ v s₂.heap sf' ∧ Old Z n0 s₂.heap ∧ Fr n0 L' ∧ SafeAll md Z sf' s₂.vm s₂.heap ∧ FinE md Z s o s₂ L' R.cells R.slots
section G
variable {md : Md} {EL : List (String × Nat)} {l : Launch} {Z : State} {n0 : Nat} {R : Room} {bytes : ByteArray} {ml : Nat} {ret : Option FieldType} {own mn : String} {Ψ : Option Value → Heap → List Addr → Prop}
  {cells slots : Nat} {sf : List Addr} {h h' : Heap} {pc : Nat} {L : Array Slot} {S : List Value} {a0 : Array Value}
theorem Go.more {cells' slots' : Nat} {sf' : List Addr} (G : Go md l Z n0 R bytes ml ret own mn Ψ cells' slots' sf' h pc L S) (hc : cells ≤ cells') (hs : slots ≤ slots') (q : ∀ x ∈ sf', x ∈ sf) : Go md l Z n0 R bytes ml ret own mn Ψ cells slots sf h pc L S := by
  intro p e s m args below meth c vm0 T locs hx hby hml hr hlk hn ho X eT hZ B N
  exact G p e s m args below meth c vm0 T locs hx hby hml hr hlk hn ho (X.more hc hs) eT hZ (B.sub q) N
theorem Go.old (G : Old Z n0 h → n0 ≤ h.size → Go md l Z n0 R bytes ml ret own mn Ψ cells slots sf h pc L S) : Go md l Z n0 R bytes ml ret own mn Ψ cells slots sf h pc L S := by
  intro p e s m args below meth c vm0 T locs hx hby hml hr hlk hn ho X eT hZ B N
  exact G B.1 B.n0le p e s m args below meth c vm0 T locs hx hby hml hr hlk hn ho X eT hZ B N
theorem Go.pure {L' : Array Slot} {S' : List Value} (pc' : Nat) (k : ∀ (p : Program) (e : Env) (below : List Frame) (T target : State) (m : MethodId) (c : Code), At T m c below → p.tables.exec = Jvm.exec → c.code = bytes → Steps p.tables e below (T.setTop (mkF m pc' L' S')) target → Steps p.tables e below (T.setTop (mkF m pc L S)) target)
    (G : Go md l Z n0 R bytes ml ret own mn Ψ cells slots sf h pc' L' S') : Go md l Z n0 R bytes ml ret own mn Ψ cells slots sf h pc L S := by
  intro p e s m args below meth c vm0 T locs hx hby hml hr hlk hn ho X eT hZ B N
  obtain ⟨s₂, o, h1, r⟩ := G p e s m args below meth c vm0 T locs hx hby hml hr hlk hn ho X eT hZ B N
  exact ⟨s₂, o, k _ _ _ _ _ _ _ X.here hx hby h1, r⟩
/-- a step that may warm the tables and leaves the heap as it was -/
theorem Go.warm {L' : Array Slot} {S' : List Value} (pc' : Nat) (k : ∀ (p : Program) (e : Env) (s : State) (m : MethodId) (args : Array Value) (below : List Frame) (meth : Method) (c : Code) (T : State) (locs : List Loc), p.tables.exec = Jvm.exec → c.code = bytes → c.maxLocals = ml → Z.Warmed39 s.vm → s.vm.findClass own = some m.cls →
      Stand p l e R s m args below meth c T locs cells slots → T.heap = h → ∃ T', Stand p l e R s m args below meth c T' locs cells slots ∧ T'.heap = h ∧ ∀ target, Steps p.tables e below (T'.setTop (mkF m pc' L' S')) target → Steps p.tables e below (T.setTop (mkF m pc L S)) target)
    (G : Go md l Z n0 R bytes ml ret own mn Ψ cells slots sf h pc' L' S') : Go md l Z n0 R bytes ml ret own mn Ψ cells slots sf h pc L S := by
  intro p e s m args below meth c vm0 T locs hx hby hml hr hlk hn ho X eT hZ B N
  obtain ⟨T', X', e', st⟩ := k p e (s.setVm vm0) m args below meth c T locs hx hby hml hZ (by rw [show (s.setVm vm0).vm = vm0 from rfl, hZ.alike.findClass]; exact ho) X eT
  obtain ⟨s₂, o, h1, r⟩ := G p e s m args below meth c vm0 T' locs hx hby hml hr hlk hn ho X' e' hZ B N
  exact ⟨s₂, o, st _ h1, r⟩
/-- a write at a place of the object a -/
theorem Go.write {L' : Array Slot} {S' : List Value} {a : Addr} {sl : Nat} {v : Value} (pc' : Nat) (ha : a ∈ sf) (hn0 : n0 ≤ a) (k : ∀ (p : Program) (e : Env) (s : State) (m : MethodId) (args : Array Value) (below : List Frame) (meth : Method) (c : Code) (T : State) (locs : List Loc), p.tables.exec = Jvm.exec → c.code = bytes → c.maxLocals = ml → meth.name = mn → Z.Warmed39 s.vm → s.vm.findClass own = some m.cls →
      Stand p l e R s m args below meth c T locs cells slots → T.heap = h → ∃ T' h', Stand p l e R s m args below meth c T' (locs ++ [⟨a, sl⟩]) cells slots ∧ T'.heap = h' ∧ Wr h h' a sl v ∧ ∀ target, Steps p.tables e below (T'.setTop (mkF m pc' L' S')) target → Steps p.tables e below (T.setTop (mkF m pc L S)) target)
    (G : ∀ h', Wr h h' a sl v → Go md l Z n0 R bytes ml ret own mn Ψ cells slots sf h' pc' L' S') : Go md l Z n0 R bytes ml ret own mn Ψ cells slots sf h pc L S := by
  intro p e s m args below meth c vm0 T locs hx hby hml hr hlk hn ho X eT hZ B N
  obtain ⟨T', h', X', e', W, st⟩ := k p e (s.setVm vm0) m args below meth c T locs hx hby hml hn hZ (by rw [show (s.setVm vm0).vm = vm0 from rfl, hZ.alike.findClass]; exact ho) X eT
  obtain ⟨s₂, o, h1, r⟩ := G h' W p e s m args below meth c vm0 T' _ hx hby hml hr hlk hn ho X' e' hZ (B.wr W ha hn0) (Fr.snoc X' N hn0)
  exact ⟨s₂, o, st _ h1, r⟩
/-! the ends -/
theorem fin_ret {p : Program} {e : Env} {s : State} {m : MethodId} {args : Array Value} {below : List Frame} {meth : Method} {c : Code} {vm0 : Vm} {T : State} {locs : List Loc} {sf' : List Addr} {g : JFrame}
    (X : Stand p l e R (s.setVm vm0) m args below meth c T locs cells slots) (eT : T.heap = h) (hZ : Z.Warmed39 vm0) (B : Bok md Z n0 s sf vm0 h) (N : Fr n0 locs) {v : Option Value} (hv : meth.sig.returnType = none → v = none) (hlk : meth.locks = false) (hc : cells ≤ R.cells) (hs : slots ≤ R.slots)
    (Q : Ψ v h sf') (hsub : ∀ x ∈ sf', x ∈ sf)
    (st : ∀ fs, (∀ (f : JFrame) (acts : List Action), f.method = m → f.locked = none → f.entered = [] → (doReturn e (T.setTop f) acts v).1 = T.setFrames fs) → Steps p.tables e below (T.setTop g) (T.setFrames fs)) :
    ∃ (s₂ : State) (o : Outcome), Steps p.tables e below (T.setTop g) s₂ ∧ s₂.status = .running ∧ Ended s₂ below o ∧
      ∃ (v : Option Value) (L' : List Loc) (sf' : List Addr), o = .returned v ∧ Ψ v s₂.heap sf' ∧ Old Z n0 s₂.heap ∧ Fr n0 L' ∧ SafeAll md Z sf' s₂.vm s₂.heap ∧ FinE md Z s o s₂ L' R.cells R.slots := by
  have eh : ∀ fs, (T.setFrames fs).heap = h := fun fs => eT
  cases md with
  | none =>
    obtain rfl : vm0 = s.vm := B.2
    obtain ⟨fs, hr, hrun, hended, hW, hsame⟩ := X.leave hv hlk
    exact ⟨_, _, st fs hr, hrun, hended, v, locs, sf', rfl, by rw [eh]; exact Q, by rw [eh]; exact B.1, N, trivial, ⟨_, rfl⟩, hW, hsame.mono hc hs⟩
  | some EL =>
    obtain ⟨h0, ⟨k, h1, h2⟩, ⟨a0, h3⟩, h4, h5⟩ := B
    obtain ⟨fs, hr, hrun, hended, hW⟩ := X.leaveW h1 (by rw [eT]; exact h2) hv hlk
    have C : CHr Z EL vm0 h T.vm h := CHv.at X hZ h3 h4.1
    refine ⟨_, _, st fs hr, hrun, hended, v, locs, sf', rfl, by rw [eh]; exact Q, by rw [eh]; exact h0, N, fun x hx => ?_, ?_, hW.1, hW.2.1, hW.2.2.1, hW.2.2.2.mono hc hs⟩
    · rw [eh]; exact ⟨(h5 x (hsub x hx)).1, C.safe (h5 x (hsub x hx)).1 (h5 x (hsub x hx)).2⟩
    · rw [eh]; exact h4.trans C
theorem Go.ret0 (hd : decode bytes pc = .ok (.return_, 1)) (hret : ret = none) {sf' : List Addr} (Q : Ψ none h sf') (hsub : ∀ x ∈ sf', x ∈ sf) (hc : cells ≤ R.cells) (hs : slots ≤ R.slots) : Go md l Z n0 R bytes ml ret own mn Ψ cells slots sf h pc L [] := by
  intro p e s m args below meth c vm0 T locs hx hby hml hr hlk hn ho X eT hZ B N
  exact fin_ret X eT hZ B N (fun _ => rfl) hlk hc hs Q hsub fun fs hl => X.returnOut hx (hr.trans hret) (hb hby hd) hl
theorem Go.retW {t : FieldType} {w : Value} {i : Instr} (hd : decode bytes pc = .ok (i, 1)) (hret : ret = some t) (hn' : narrow t w = w)
    (hi : (i = .ireturn ∧ (t = .int ∨ t = .boolean ∨ t = .byte ∨ t = .char ∨ t = .short) ∧ ∃ z, w = .int z) ∨ (i = .lreturn ∧ t = .long ∧ ∃ z, w = .long z) ∨ (i = .dreturn ∧ t = .double ∧ ∃ z, w = .double z) ∨ (i = .freturn ∧ t = .float ∧ ∃ z, w = .float z) ∨ (i = .areturn ∧ t.isReference = true ∧ w.isRef = true))
    {sf' : List Addr} (Q : Ψ (some w) h sf') (hsub : ∀ x ∈ sf', x ∈ sf) (hc : cells ≤ R.cells) (hs : slots ≤ R.slots) : Go md l Z n0 R bytes ml ret own mn Ψ cells slots sf h pc L (w :: S) := by
  intro p e s m args below meth c vm0 T locs hx hby hml hr hlk hn ho X eT hZ B N
  exact fin_ret X eT hZ B N (fun q => by rw [hr, hret] at q; cases q) hlk hc hs Q hsub fun fs hl => retOut X hx (hr.trans hret) hn' hi (hb hby hd) hl
theorem Go.retI {z : Int32} (hd : decode bytes pc = .ok (.ireturn, 1)) (hret : ret = some .int) {sf' : List Addr} (Q : Ψ (some (.int z)) h sf') (hsub : ∀ x ∈ sf', x ∈ sf) (hc : cells ≤ R.cells) (hs : slots ≤ R.slots) : Go md l Z n0 R bytes ml ret own mn Ψ cells slots sf h pc L (.int z :: S) :=
  Go.retW hd hret rfl (Or.inl ⟨rfl, Or.inl rfl, _, rfl⟩) Q hsub hc hs
theorem Go.retJ {z : Int64} (hd : decode bytes pc = .ok (.lreturn, 1)) (hret : ret = some .long) {sf' : List Addr} (Q : Ψ (some (.long z)) h sf') (hsub : ∀ x ∈ sf', x ∈ sf) (hc : cells ≤ R.cells) (hs : slots ≤ R.slots) : Go md l Z n0 R bytes ml ret own mn Ψ cells slots sf h pc L (.long z :: S) :=
  Go.retW hd hret rfl (Or.inr (Or.inl ⟨rfl, rfl, _, rfl⟩)) Q hsub hc hs
theorem Go.retA {t : FieldType} {w : Value} (hd : decode bytes pc = .ok (.areturn, 1)) (hret : ret = some t) (ht : t.isReference = true) (hw : w.isRef = true) {sf' : List Addr} (Q : Ψ (some w) h sf') (hsub : ∀ x ∈ sf', x ∈ sf) (hc : cells ≤ R.cells) (hs : slots ≤ R.slots) : Go md l Z n0 R bytes ml ret own mn Ψ cells slots sf h pc L (w :: S) :=
  Go.retW hd hret (by cases t <;> cases w <;> first | rfl | cases ht | cases hw) (Or.inr (Or.inr (Or.inr (Or.inr ⟨rfl, ht, hw⟩)))) Q hsub hc hs
theorem Go.retN {t : FieldType} {z : Int32} (v : Int32) (hd : decode bytes pc = .ok (.ireturn, 1)) (hret : ret = some t) (ht : t = .boolean ∨ t = .byte ∨ t = .char ∨ t = .short) (hv : nar t z = v) {sf' : List Addr} (Q : Ψ (some (.int v)) h sf') (hsub : ∀ x ∈ sf', x ∈ sf) (hc : cells ≤ R.cells) (hs : slots ≤ R.slots) :
    Go md l Z n0 R bytes ml ret own mn Ψ cells slots sf h pc L (.int z :: S) := by
  subst hv
  intro p e s m args below meth c vm0 T locs hx hby hml hr hlk hn ho X eT hZ B N
  exact fin_ret X eT hZ B N (fun q => by rw [hr, hret] at q; cases q) hlk hc hs Q hsub fun fs hl => Jvm.RoadKit.retN X hx (hr.trans hret) ht (hb hby hd) hl
/-! plain steps -/
theorem Go.aload {k : Nat} {v : Value} (pc' : Nat) (hd : decode bytes pc = .ok (.aload k, 2)) (hp : pc + 2 = pc') (hl : L[k]? = some (.val v)) (hv : v.isRef = true) (G : Go md l Z n0 R bytes ml ret own mn Ψ cells slots sf h pc' L (v :: S)) : Go md l Z n0 R bytes ml ret own mn Ψ cells slots sf h pc L S := by
  subst hp; exact Go.pure _ (fun p e below T target m c A hx hby k => XS.aload A hx rfl (hb hby hd) hl hv k) G
theorem Go.aloadN {k : Fin 4} {v : Value} (pc' : Nat) (hd : decode bytes pc = .ok (.aload_n k, 1)) (hp : pc + 1 = pc') (hl : L[k.val]? = some (.val v)) (hv : v.isRef = true) (G : Go md l Z n0 R bytes ml ret own mn Ψ cells slots sf h pc' L (v :: S)) : Go md l Z n0 R bytes ml ret own mn Ψ cells slots sf h pc L S := by
  subst hp; exact Go.pure _ (fun p e below T target m c A hx hby k => XS.aloadN A hx rfl (hb hby hd) hl hv k) G
theorem Go.iload {k : Nat} {v : Int32} (pc' : Nat) (hd : decode bytes pc = .ok (.iload k, 2)) (hp : pc + 2 = pc') (hl : L[k]? = some (.val (.int v))) (G : Go md l Z n0 R bytes ml ret own mn Ψ cells slots sf h pc' L (.int v :: S)) : Go md l Z n0 R bytes ml ret own mn Ψ cells slots sf h pc L S := by
  subst hp; exact Go.pure _ (fun p e below T target m c A hx hby k => XS.iload A hx rfl (hb hby hd) hl k) G
theorem Go.iloadN {k : Fin 4} {v : Int32} (pc' : Nat) (hd : decode bytes pc = .ok (.iload_n k, 1)) (hp : pc + 1 = pc') (hl : L[k.val]? = some (.val (.int v))) (G : Go md l Z n0 R bytes ml ret own mn Ψ cells slots sf h pc' L (.int v :: S)) : Go md l Z n0 R bytes ml ret own mn Ψ cells slots sf h pc L S := by
  subst hp; exact Go.pure _ (fun p e below T target m c A hx hby k => XS.iloadN A hx rfl (hb hby hd) hl k) G
theorem Go.lload {k : Nat} {v : Int64} (pc' : Nat) (hd : decode bytes pc = .ok (.lload k, 2)) (hp : pc + 2 = pc') (hl : L[k]? = some (.val (.long v))) (G : Go md l Z n0 R bytes ml ret own mn Ψ cells slots sf h pc' L (.long v :: S)) : Go md l Z n0 R bytes ml ret own mn Ψ cells slots sf h pc L S := by
  subst hp; exact Go.pure _ (fun p e below T target m c A hx hby k => XS.lload A hx rfl (hb hby hd) hl k) G
theorem Go.lloadN {k : Fin 4} {v : Int64} (pc' : Nat) (hd : decode bytes pc = .ok (.lload_n k, 1)) (hp : pc + 1 = pc') (hl : L[k.val]? = some (.val (.long v))) (G : Go md l Z n0 R bytes ml ret own mn Ψ cells slots sf h pc' L (.long v :: S)) : Go md l Z n0 R bytes ml ret own mn Ψ cells slots sf h pc L S := by
  subst hp; exact Go.pure _ (fun p e below T target m c A hx hby k => XS.lloadN A hx rfl (hb hby hd) hl k) G
theorem Go.astore {k : Nat} {v : Value} (pc' : Nat) (L' : Array Slot) (hd : decode bytes pc = .ok (.astore k, 2)) (hp : pc + 2 = pc') (hv : v.isRef = true) (hl : storeLocals L k v = some L') (G : Go md l Z n0 R bytes ml ret own mn Ψ cells slots sf h pc' L' S) : Go md l Z n0 R bytes ml ret own mn Ψ cells slots sf h pc L (v :: S) := by
  subst hp; exact Go.pure _ (fun p e below T target m c A hx hby k => XS.astore A hx rfl (hb hby hd) rfl hv hl k) G
theorem Go.astoreN {k : Fin 4} {v : Value} (pc' : Nat) (L' : Array Slot) (hd : decode bytes pc = .ok (.astore_n k, 1)) (hp : pc + 1 = pc') (hv : v.isRef = true) (hl : storeLocals L k.val v = some L') (G : Go md l Z n0 R bytes ml ret own mn Ψ cells slots sf h pc' L' S) : Go md l Z n0 R bytes ml ret own mn Ψ cells slots sf h pc L (v :: S) := by
  subst hp; exact Go.pure _ (fun p e below T target m c A hx hby k => XS.astoreN A hx rfl (hb hby hd) rfl hv hl k) G
theorem Go.istore {k : Nat} {x : Int32} (pc' : Nat) (L' : Array Slot) (hd : decode bytes pc = .ok (.istore k, 2)) (hp : pc + 2 = pc') (hl : storeLocals L k (.int x) = some L') (G : Go md l Z n0 R bytes ml ret own mn Ψ cells slots sf h pc' L' S) : Go md l Z n0 R bytes ml ret own mn Ψ cells slots sf h pc L (.int x :: S) := by
  subst hp; exact Go.pure _ (fun p e below T target m c A hx hby k => XS.istore A hx rfl (hb hby hd) rfl hl k) G
theorem Go.istoreN {k : Fin 4} {x : Int32} (pc' : Nat) (L' : Array Slot) (hd : decode bytes pc = .ok (.istore_n k, 1)) (hp : pc + 1 = pc') (hl : storeLocals L k.val (.int x) = some L') (G : Go md l Z n0 R bytes ml ret own mn Ψ cells slots sf h pc' L' S) : Go md l Z n0 R bytes ml ret own mn Ψ cells slots sf h pc L (.int x :: S) := by
  subst hp; exact Go.pure _ (fun p e below T target m c A hx hby k => XS.istoreN A hx rfl (hb hby hd) rfl hl k) G
theorem Go.lstore {k : Nat} {x : Int64} (pc' : Nat) (L' : Array Slot) (hd : decode bytes pc = .ok (.lstore k, 2)) (hp : pc + 2 = pc') (hl : storeLocals L k (.long x) = some L') (G : Go md l Z n0 R bytes ml ret own mn Ψ cells slots sf h pc' L' S) : Go md l Z n0 R bytes ml ret own mn Ψ cells slots sf h pc L (.long x :: S) := by
  subst hp; exact Go.pure _ (fun p e below T target m c A hx hby k => XS.lstore A hx rfl (hb hby hd) rfl hl k) G
theorem Go.lstoreN {k : Fin 4} {x : Int64} (pc' : Nat) (L' : Array Slot) (hd : decode bytes pc = .ok (.lstore_n k, 1)) (hp : pc + 1 = pc') (hl : storeLocals L k.val (.long x) = some L') (G : Go md l Z n0 R bytes ml ret own mn Ψ cells slots sf h pc' L' S) : Go md l Z n0 R bytes ml ret own mn Ψ cells slots sf h pc L (.long x :: S) := by
  subst hp; exact Go.pure _ (fun p e below T target m c A hx hby k => XS.lstoreN A hx rfl (hb hby hd) rfl hl k) G
theorem Go.iinc {k : Nat} {cst : Int} {x : Int32} (pc' : Nat) (L' : Array Slot) (v : Int32) (hd : decode bytes pc = .ok (.iinc k cst, 3)) (hp : pc + 3 = pc') (hl : L[k]? = some (.val (.int x))) (hv : Int32.ofInt cst = v) (hl' : storeLocals L k (.int (x + v)) = some L') (G : Go md l Z n0 R bytes ml ret own mn Ψ cells slots sf h pc' L' S) : Go md l Z n0 R bytes ml ret own mn Ψ cells slots sf h pc L S := by
  subst hp; subst hv; exact Go.pure _ (fun p e below T target m c A hx hby k => XS.iinc A hx rfl (hb hby hd) hl hl' k) G
theorem Go.iconst {i : Int} (pc' : Nat) (v : Int32) (hd : decode bytes pc = .ok (.iconst i, 1)) (hp : pc + 1 = pc') (hv : Int32.ofInt i = v) (G : Go md l Z n0 R bytes ml ret own mn Ψ cells slots sf h pc' L (.int v :: S)) : Go md l Z n0 R bytes ml ret own mn Ψ cells slots sf h pc L S := by
  subst hp; subst hv; exact Go.pure _ (fun p e below T target m c A hx hby k => XS.iconst A hx rfl (hb hby hd) k) G
theorem Go.bipush {i : Int} (pc' : Nat) (v : Int32) (hd : decode bytes pc = .ok (.bipush i, 2)) (hp : pc + 2 = pc') (hv : (Int8.ofInt i).toInt32 = v) (G : Go md l Z n0 R bytes ml ret own mn Ψ cells slots sf h pc' L (.int v :: S)) : Go md l Z n0 R bytes ml ret own mn Ψ cells slots sf h pc L S := by
  subst hp; subst hv; exact Go.pure _ (fun p e below T target m c A hx hby k => XS.bipush A hx rfl (hb hby hd) k) G
theorem Go.sipush {i : Int} (pc' : Nat) (v : Int32) (hd : decode bytes pc = .ok (.sipush i, 3)) (hp : pc + 3 = pc') (hv : (Int16.ofInt i).toInt32 = v) (G : Go md l Z n0 R bytes ml ret own mn Ψ cells slots sf h pc' L (.int v :: S)) : Go md l Z n0 R bytes ml ret own mn Ψ cells slots sf h pc L S := by
  subst hp; subst hv; exact Go.pure _ (fun p e below T target m c A hx hby k => XS.sipush A hx rfl (hb hby hd) k) G
theorem Go.lconst {i : Fin 2} (pc' : Nat) (v : Int64) (hd : decode bytes pc = .ok (.lconst i, 1)) (hp : pc + 1 = pc') (hv : Int64.ofNat i = v) (G : Go md l Z n0 R bytes ml ret own mn Ψ cells slots sf h pc' L (.long v :: S)) : Go md l Z n0 R bytes ml ret own mn Ψ cells slots sf h pc L S := by
  subst hp; subst hv; exact Go.pure _ (fun p e below T target m c A hx hby k => XS.lconst A hx rfl (hb hby hd) k) G
theorem Go.aconstNull (pc' : Nat) (hd : decode bytes pc = .ok (.aconst_null, 1)) (hp : pc + 1 = pc') (G : Go md l Z n0 R bytes ml ret own mn Ψ cells slots sf h pc' L (.null :: S)) : Go md l Z n0 R bytes ml ret own mn Ψ cells slots sf h pc L S := by
  subst hp; exact Go.pure _ (fun p e below T target m c A hx hby k => XS.aconstNull A hx rfl (hb hby hd) k) G
theorem Go.dup {v : Value} (pc' : Nat) (hd : decode bytes pc = .ok (.dup, 1)) (hp : pc + 1 = pc') (hv : v.category = 1) (G : Go md l Z n0 R bytes ml ret own mn Ψ cells slots sf h pc' L (v :: v :: S)) : Go md l Z n0 R bytes ml ret own mn Ψ cells slots sf h pc L (v :: S) := by
  subst hp; exact Go.pure _ (fun p e below T target m c A hx hby k => XS.dup A hx rfl (hb hby hd) rfl hv k) G
theorem Go.pop {v : Value} (pc' : Nat) (hd : decode bytes pc = .ok (.pop, 1)) (hp : pc + 1 = pc') (hv : v.category = 1) (G : Go md l Z n0 R bytes ml ret own mn Ψ cells slots sf h pc' L S) : Go md l Z n0 R bytes ml ret own mn Ψ cells slots sf h pc L (v :: S) := by
  subst hp; exact Go.pure _ (fun p e below T target m c A hx hby k => XS.pop A hx rfl (hb hby hd) rfl hv k) G
theorem Go.goto {o : Int} (pc' : Nat) (hd : decode bytes pc = .ok (.goto o, 3)) (ho' : 0 ≤ (pc : Int) + o) (hp : ((pc : Int) + o).toNat = pc') (G : Go md l Z n0 R bytes ml ret own mn Ψ cells slots sf h pc' L S) : Go md l Z n0 R bytes ml ret own mn Ψ cells slots sf h pc L S :=
  Go.pure pc' (fun p e below T target m c A hx hby k => XS.goto A hx rfl (pc0 := pc) (pc' := pc') rfl (hb hby hd) ho' hp k) G
theorem Go.ifY {cd : ClassFile.Cond} {x : Int32} {o : Int} (pc' : Nat) (hd : decode bytes pc = .ok (.ifCond cd o, 3)) (ho' : 0 ≤ (pc : Int) + o) (hp : ((pc : Int) + o).toNat = pc') (hc : if_icmp.holds cd x 0 = true) (G : Go md l Z n0 R bytes ml ret own mn Ψ cells slots sf h pc' L S) : Go md l Z n0 R bytes ml ret own mn Ψ cells slots sf h pc L (.int x :: S) :=
  Go.pure pc' (fun p e below T target m c A hx hby k => XS.ifYes A hx rfl (pc0 := pc) (pc' := pc') rfl (hb hby hd) rfl ((if0 _ _).trans hc) ho' hp k) G
theorem Go.ifN {cd : ClassFile.Cond} {x : Int32} {o : Int} (pc' : Nat) (hd : decode bytes pc = .ok (.ifCond cd o, 3)) (hp : pc + 3 = pc') (hc : if_icmp.holds cd x 0 = false) (G : Go md l Z n0 R bytes ml ret own mn Ψ cells slots sf h pc' L S) : Go md l Z n0 R bytes ml ret own mn Ψ cells slots sf h pc L (.int x :: S) := by
  subst hp; exact Go.pure _ (fun p e below T target m c A hx hby k => XS.ifNo A hx rfl (hb hby hd) rfl ((if0 _ _).trans hc) k) G
theorem Go.icmpY {cd : ClassFile.Cond} {x y : Int32} {o : Int} (pc' : Nat) (hd : decode bytes pc = .ok (.if_icmp cd o, 3)) (ho' : 0 ≤ (pc : Int) + o) (hp : ((pc : Int) + o).toNat = pc') (hc : if_icmp.holds cd x y = true) (G : Go md l Z n0 R bytes ml ret own mn Ψ cells slots sf h pc' L S) : Go md l Z n0 R bytes ml ret own mn Ψ cells slots sf h pc L (.int y :: .int x :: S) :=
  Go.pure pc' (fun p e below T target m c A hx hby k => XS.icmpYes A hx rfl (pc0 := pc) (pc' := pc') rfl (hb hby hd) rfl hc ho' hp k) G
theorem Go.icmpN {cd : ClassFile.Cond} {x y : Int32} {o : Int} (pc' : Nat) (hd : decode bytes pc = .ok (.if_icmp cd o, 3)) (hp : pc + 3 = pc') (hc : if_icmp.holds cd x y = false) (G : Go md l Z n0 R bytes ml ret own mn Ψ cells slots sf h pc' L S) : Go md l Z n0 R bytes ml ret own mn Ψ cells slots sf h pc L (.int y :: .int x :: S) := by
  subst hp; exact Go.pure _ (fun p e below T target m c A hx hby k => XS.icmpNo A hx rfl (hb hby hd) rfl hc k) G
theorem Go.acmpY {cd : ClassFile.ACond} {x y : Value} {o : Int} (pc' : Nat) (hd : decode bytes pc = .ok (.if_acmp cd o, 3)) (ho' : 0 ≤ (pc : Int) + o) (hp : ((pc : Int) + o).toNat = pc') (hx' : x.isRef = true) (hy' : y.isRef = true) (hc : acV cd (decide (x = y)) = true) (G : Go md l Z n0 R bytes ml ret own mn Ψ cells slots sf h pc' L S) : Go md l Z n0 R bytes ml ret own mn Ψ cells slots sf h pc L (y :: x :: S) :=
  Go.warm pc' (fun p e s m args below meth c T locs hx hby hml hZ hown X eT => ⟨T, X, eT, fun target k => Jvm.RoadKit.acmp (g := mkF m pc L (y :: x :: S)) X hx rfl hx' hy' (pc0 := pc) rfl (hb hby hd) rfl rfl ho' (by rw [if_pos hc]; exact hp.symm) k⟩) G
theorem Go.acmpN {cd : ClassFile.ACond} {x y : Value} {o : Int} (pc' : Nat) (hd : decode bytes pc = .ok (.if_acmp cd o, 3)) (ho' : 0 ≤ (pc : Int) + o) (hp : pc + 3 = pc') (hx' : x.isRef = true) (hy' : y.isRef = true) (hc : acV cd (decide (x = y)) = false) (G : Go md l Z n0 R bytes ml ret own mn Ψ cells slots sf h pc' L S) : Go md l Z n0 R bytes ml ret own mn Ψ cells slots sf h pc L (y :: x :: S) :=
  Go.warm pc' (fun p e s m args below meth c T locs hx hby hml hZ hown X eT => ⟨T, X, eT, fun target k => Jvm.RoadKit.acmp (g := mkF m pc L (y :: x :: S)) X hx rfl hx' hy' (pc0 := pc) rfl (hb hby hd) rfl rfl ho' (by rw [if_neg (by rw [hc]; exact Bool.false_ne_true)]; exact hp.symm) k⟩) G
theorem Go.nullY {o : Int} (pc' : Nat) (hd : decode bytes pc = .ok (.ifnull o, 3)) (ho' : 0 ≤ (pc : Int) + o) (hp : ((pc : Int) + o).toNat = pc') (G : Go md l Z n0 R bytes ml ret own mn Ψ cells slots sf h pc' L S) : Go md l Z n0 R bytes ml ret own mn Ψ cells slots sf h pc L (.null :: S) :=
  Go.pure pc' (fun p e below T target m c A hx hby k => XS.ifnullYes A hx rfl (pc0 := pc) (pc' := pc') rfl (hb hby hd) rfl ho' hp k) G
theorem Go.nullN {o : Int} {a : Addr} (pc' : Nat) (hd : decode bytes pc = .ok (.ifnull o, 3)) (hp : pc + 3 = pc') (G : Go md l Z n0 R bytes ml ret own mn Ψ cells slots sf h pc' L S) : Go md l Z n0 R bytes ml ret own mn Ψ cells slots sf h pc L (.ref a :: S) := by
  subst hp; exact Go.pure _ (fun p e below T target m c A hx hby k => XS.ifnullNo A hx rfl (hb hby hd) rfl k) G
theorem Go.nonnullY {o : Int} {a : Addr} (pc' : Nat) (hd : decode bytes pc = .ok (.ifnonnull o, 3)) (ho' : 0 ≤ (pc : Int) + o) (hp : ((pc : Int) + o).toNat = pc') (G : Go md l Z n0 R bytes ml ret own mn Ψ cells slots sf h pc' L S) : Go md l Z n0 R bytes ml ret own mn Ψ cells slots sf h pc L (.ref a :: S) :=
  Go.pure pc' (fun p e below T target m c A hx hby k => XS.ifnonnullYes A hx rfl (pc0 := pc) (pc' := pc') rfl (hb hby hd) rfl ho' hp k) G
theorem Go.nonnullN {o : Int} (pc' : Nat) (hd : decode bytes pc = .ok (.ifnonnull o, 3)) (hp : pc + 3 = pc') (G : Go md l Z n0 R bytes ml ret own mn Ψ cells slots sf h pc' L S) : Go md l Z n0 R bytes ml ret own mn Ψ cells slots sf h pc L (.null :: S) := by
  subst hp; exact Go.pure _ (fun p e below T target m c A hx hby k => XS.ifnonnullNo A hx rfl (hb hby hd) rfl k) G
theorem Go.iadd {x y : Int32} (pc' : Nat) (hd : decode bytes pc = .ok (.iadd, 1)) (hp : pc + 1 = pc') (G : Go md l Z n0 R bytes ml ret own mn Ψ cells slots sf h pc' L (.int (x + y) :: S)) : Go md l Z n0 R bytes ml ret own mn Ψ cells slots sf h pc L (.int y :: .int x :: S) := by
  subst hp; exact Go.pure _ (fun p e below T target m c A hx hby k => XS.iadd A hx rfl (hb hby hd) rfl k) G
theorem Go.isub {x y : Int32} (pc' : Nat) (hd : decode bytes pc = .ok (.isub, 1)) (hp : pc + 1 = pc') (G : Go md l Z n0 R bytes ml ret own mn Ψ cells slots sf h pc' L (.int (x - y) :: S)) : Go md l Z n0 R bytes ml ret own mn Ψ cells slots sf h pc L (.int y :: .int x :: S) := by
  subst hp; exact Go.pure _ (fun p e below T target m c A hx hby k => XS.isub A hx rfl (hb hby hd) rfl k) G
theorem Go.imul {x y : Int32} (pc' : Nat) (hd : decode bytes pc = .ok (.imul, 1)) (hp : pc + 1 = pc') (G : Go md l Z n0 R bytes ml ret own mn Ψ cells slots sf h pc' L (.int (x * y) :: S)) : Go md l Z n0 R bytes ml ret own mn Ψ cells slots sf h pc L (.int y :: .int x :: S) := by
  subst hp; exact Go.pure _ (fun p e below T target m c A hx hby k => XS.imul A hx rfl (hb hby hd) rfl k) G
theorem Go.iand {x y : Int32} (pc' : Nat) (hd : decode bytes pc = .ok (.iand, 1)) (hp : pc + 1 = pc') (G : Go md l Z n0 R bytes ml ret own mn Ψ cells slots sf h pc' L (.int (x &&& y) :: S)) : Go md l Z n0 R bytes ml ret own mn Ψ cells slots sf h pc L (.int y :: .int x :: S) := by
  subst hp; exact Go.pure _ (fun p e below T target m c A hx hby k => XS.iand A hx rfl (hb hby hd) rfl k) G
theorem Go.ior {x y : Int32} (pc' : Nat) (hd : decode bytes pc = .ok (.ior, 1)) (hp : pc + 1 = pc') (G : Go md l Z n0 R bytes ml ret own mn Ψ cells slots sf h pc' L (.int (x ||| y) :: S)) : Go md l Z n0 R bytes ml ret own mn Ψ cells slots sf h pc L (.int y :: .int x :: S) := by
  subst hp; exact Go.pure _ (fun p e below T target m c A hx hby k => XS.ior A hx rfl (hb hby hd) rfl k) G
theorem Go.ixor {x y : Int32} (pc' : Nat) (hd : decode bytes pc = .ok (.ixor, 1)) (hp : pc + 1 = pc') (G : Go md l Z n0 R bytes ml ret own mn Ψ cells slots sf h pc' L (.int (x ^^^ y) :: S)) : Go md l Z n0 R bytes ml ret own mn Ψ cells slots sf h pc L (.int y :: .int x :: S) := by
  subst hp; exact Go.pure _ (fun p e below T target m c A hx hby k => XS.ixor A hx rfl (hb hby hd) rfl k) G
theorem Go.ishl {x y : Int32} (pc' : Nat) (hd : decode bytes pc = .ok (.ishl, 1)) (hp : pc + 1 = pc') (G : Go md l Z n0 R bytes ml ret own mn Ψ cells slots sf h pc' L (.int (x <<< (y &&& 31)) :: S)) : Go md l Z n0 R bytes ml ret own mn Ψ cells slots sf h pc L (.int y :: .int x :: S) := by
  subst hp; exact Go.pure _ (fun p e below T target m c A hx hby k => XS.ishl A hx rfl (hb hby hd) rfl k) G
theorem Go.ishr {x y : Int32} (pc' : Nat) (hd : decode bytes pc = .ok (.ishr, 1)) (hp : pc + 1 = pc') (G : Go md l Z n0 R bytes ml ret own mn Ψ cells slots sf h pc' L (.int (x >>> (y &&& 31)) :: S)) : Go md l Z n0 R bytes ml ret own mn Ψ cells slots sf h pc L (.int y :: .int x :: S) := by
  subst hp; exact Go.pure _ (fun p e below T target m c A hx hby k => XS.ishr A hx rfl (hb hby hd) rfl k) G
theorem Go.iushr {x y : Int32} (pc' : Nat) (hd : decode bytes pc = .ok (.iushr, 1)) (hp : pc + 1 = pc') (G : Go md l Z n0 R bytes ml ret own mn Ψ cells slots sf h pc' L (.int (ushr x y) :: S)) : Go md l Z n0 R bytes ml ret own mn Ψ cells slots sf h pc L (.int y :: .int x :: S) := by
  subst hp; exact Go.pure _ (fun p e below T target m c A hx hby k => XS.iushr A hx rfl (hb hby hd) rfl k) G
theorem Go.idiv {x y : Int32} (pc' : Nat) (hd : decode bytes pc = .ok (.idiv, 1)) (hp : pc + 1 = pc') (hy : y ≠ 0) (G : Go md l Z n0 R bytes ml ret own mn Ψ cells slots sf h pc' L (.int (x / y) :: S)) : Go md l Z n0 R bytes ml ret own mn Ψ cells slots sf h pc L (.int y :: .int x :: S) := by
  subst hp; exact Go.pure _ (fun p e below T target m c A hx hby k => XS.idiv A hx rfl (hb hby hd) rfl hy k) G
theorem Go.ineg {x : Int32} (pc' : Nat) (hd : decode bytes pc = .ok (.ineg, 1)) (hp : pc + 1 = pc') (G : Go md l Z n0 R bytes ml ret own mn Ψ cells slots sf h pc' L (.int (-x) :: S)) : Go md l Z n0 R bytes ml ret own mn Ψ cells slots sf h pc L (.int x :: S) := by
  subst hp; exact Go.pure _ (fun p e below T target m c A hx hby k => XS.ineg A hx rfl (hb hby hd) rfl k) G
theorem Go.ladd {x y : Int64} (pc' : Nat) (hd : decode bytes pc = .ok (.ladd, 1)) (hp : pc + 1 = pc') (G : Go md l Z n0 R bytes ml ret own mn Ψ cells slots sf h pc' L (.long (x + y) :: S)) : Go md l Z n0 R bytes ml ret own mn Ψ cells slots sf h pc L (.long y :: .long x :: S) := by
  subst hp; exact Go.pure _ (fun p e below T target m c A hx hby k => XS.ladd A hx rfl (hb hby hd) rfl k) G
theorem Go.lsub {x y : Int64} (pc' : Nat) (hd : decode bytes pc = .ok (.lsub, 1)) (hp : pc + 1 = pc') (G : Go md l Z n0 R bytes ml ret own mn Ψ cells slots sf h pc' L (.long (x - y) :: S)) : Go md l Z n0 R bytes ml ret own mn Ψ cells slots sf h pc L (.long y :: .long x :: S) := by
  subst hp; exact Go.pure _ (fun p e below T target m c A hx hby k => XS.lsub A hx rfl (hb hby hd) rfl k) G
theorem Go.lmul {x y : Int64} (pc' : Nat) (hd : decode bytes pc = .ok (.lmul, 1)) (hp : pc + 1 = pc') (G : Go md l Z n0 R bytes ml ret own mn Ψ cells slots sf h pc' L (.long (x * y) :: S)) : Go md l Z n0 R bytes ml ret own mn Ψ cells slots sf h pc L (.long y :: .long x :: S) := by
  subst hp; exact Go.pure _ (fun p e below T target m c A hx hby k => XS.lmul A hx rfl (hb hby hd) rfl k) G
theorem Go.land {x y : Int64} (pc' : Nat) (hd : decode bytes pc = .ok (.land, 1)) (hp : pc + 1 = pc') (G : Go md l Z n0 R bytes ml ret own mn Ψ cells slots sf h pc' L (.long (x &&& y) :: S)) : Go md l Z n0 R bytes ml ret own mn Ψ cells slots sf h pc L (.long y :: .long x :: S) := by
  subst hp; exact Go.pure _ (fun p e below T target m c A hx hby k => XS.land A hx rfl (hb hby hd) rfl k) G
theorem Go.lor {x y : Int64} (pc' : Nat) (hd : decode bytes pc = .ok (.lor, 1)) (hp : pc + 1 = pc') (G : Go md l Z n0 R bytes ml ret own mn Ψ cells slots sf h pc' L (.long (x ||| y) :: S)) : Go md l Z n0 R bytes ml ret own mn Ψ cells slots sf h pc L (.long y :: .long x :: S) := by
  subst hp; exact Go.pure _ (fun p e below T target m c A hx hby k => XS.lor A hx rfl (hb hby hd) rfl k) G
theorem Go.lxor {x y : Int64} (pc' : Nat) (hd : decode bytes pc = .ok (.lxor, 1)) (hp : pc + 1 = pc') (G : Go md l Z n0 R bytes ml ret own mn Ψ cells slots sf h pc' L (.long (x ^^^ y) :: S)) : Go md l Z n0 R bytes ml ret own mn Ψ cells slots sf h pc L (.long y :: .long x :: S) := by
  subst hp; exact Go.pure _ (fun p e below T target m c A hx hby k => XS.lxor A hx rfl (hb hby hd) rfl k) G
theorem Go.lneg {x : Int64} (pc' : Nat) (hd : decode bytes pc = .ok (.lneg, 1)) (hp : pc + 1 = pc') (G : Go md l Z n0 R bytes ml ret own mn Ψ cells slots sf h pc' L (.long (-x) :: S)) : Go md l Z n0 R bytes ml ret own mn Ψ cells slots sf h pc L (.long x :: S) := by
  subst hp; exact Go.pure _ (fun p e below T target m c A hx hby k => XS.lneg A hx rfl (hb hby hd) rfl k) G
theorem Go.lcmp {x y : Int64} (pc' : Nat) (hd : decode bytes pc = .ok (.lcmp, 1)) (hp : pc + 1 = pc') (G : Go md l Z n0 R bytes ml ret own mn Ψ cells slots sf h pc' L (.int (lcmpW x y) :: S)) : Go md l Z n0 R bytes ml ret own mn Ψ cells slots sf h pc L (.long y :: .long x :: S) := by
  subst hp; exact Go.pure _ (fun p e below T target m c A hx hby k => XS.lcmp A hx rfl (hb hby hd) rfl k) G
theorem Go.lushr {x : Int64} {y : Int32} (pc' : Nat) (hd : decode bytes pc = .ok (.lushr, 1)) (hp : pc + 1 = pc') (G : Go md l Z n0 R bytes ml ret own mn Ψ cells slots sf h pc' L (.long (ushrL x y) :: S)) : Go md l Z n0 R bytes ml ret own mn Ψ cells slots sf h pc L (.int y :: .long x :: S) := by
  subst hp; exact Go.pure _ (fun p e below T target m c A hx hby k => XS.lushr A hx rfl (hb hby hd) rfl k) G
theorem Go.lshl {x : Int64} {y : Int32} (pc' : Nat) (hd : decode bytes pc = .ok (.lshl, 1)) (hp : pc + 1 = pc') (G : Go md l Z n0 R bytes ml ret own mn Ψ cells slots sf h pc' L (.long (x <<< (y &&& 0x3f).toInt64) :: S)) : Go md l Z n0 R bytes ml ret own mn Ψ cells slots sf h pc L (.int y :: .long x :: S) := by
  subst hp; exact Go.pure _ (fun p e below T target m c A hx hby k => XS.lshl A hx rfl (hb hby hd) rfl k) G
theorem Go.lrem {x y : Int64} (pc' : Nat) (hd : decode bytes pc = .ok (.lrem, 1)) (hp : pc + 1 = pc') (hy : y ≠ 0) (G : Go md l Z n0 R bytes ml ret own mn Ψ cells slots sf h pc' L (.long (x - (x / y) * y) :: S)) : Go md l Z n0 R bytes ml ret own mn Ψ cells slots sf h pc L (.long y :: .long x :: S) := by
  subst hp; exact Go.pure _ (fun p e below T target m c A hx hby k => XS.lrem A hx rfl (hb hby hd) rfl hy k) G
theorem Go.i2l {x : Int32} (pc' : Nat) (hd : decode bytes pc = .ok (.i2l, 1)) (hp : pc + 1 = pc') (G : Go md l Z n0 R bytes ml ret own mn Ψ cells slots sf h pc' L (.long x.toInt64 :: S)) : Go md l Z n0 R bytes ml ret own mn Ψ cells slots sf h pc L (.int x :: S) := by
  subst hp; exact Go.pure _ (fun p e below T target m c A hx hby k => XS.i2l A hx rfl (hb hby hd) rfl k) G
theorem Go.l2i {x : Int64} (pc' : Nat) (hd : decode bytes pc = .ok (.l2i, 1)) (hp : pc + 1 = pc') (G : Go md l Z n0 R bytes ml ret own mn Ψ cells slots sf h pc' L (.int x.toInt32 :: S)) : Go md l Z n0 R bytes ml ret own mn Ψ cells slots sf h pc L (.long x :: S) := by
  subst hp; exact Go.pure _ (fun p e below T target m c A hx hby k => XS.l2i A hx rfl (hb hby hd) rfl k) G
theorem Go.i2b {x : Int32} (pc' : Nat) (hd : decode bytes pc = .ok (.i2b, 1)) (hp : pc + 1 = pc') (G : Go md l Z n0 R bytes ml ret own mn Ψ cells slots sf h pc' L (.int x.toInt8.toInt32 :: S)) : Go md l Z n0 R bytes ml ret own mn Ψ cells slots sf h pc L (.int x :: S) := by
  subst hp; exact Go.pure _ (fun p e below T target m c A hx hby k => XS.i2b A hx rfl (hb hby hd) rfl k) G
theorem Go.i2c {x : Int32} (pc' : Nat) (hd : decode bytes pc = .ok (.i2c, 1)) (hp : pc + 1 = pc') (G : Go md l Z n0 R bytes ml ret own mn Ψ cells slots sf h pc' L (.int (chr x) :: S)) : Go md l Z n0 R bytes ml ret own mn Ψ cells slots sf h pc L (.int x :: S) := by
  subst hp; exact Go.pure _ (fun p e below T target m c A hx hby k => XS.i2c A hx rfl (hb hby hd) rfl k) G
theorem Go.dupX1 {v w : Value} (pc' : Nat) (hd : decode bytes pc = .ok (.dup_x1, 1)) (hp : pc + 1 = pc') (hv : v.category = 1) (hw : w.category = 1) (G : Go md l Z n0 R bytes ml ret own mn Ψ cells slots sf h pc' L (v :: w :: v :: S)) : Go md l Z n0 R bytes ml ret own mn Ψ cells slots sf h pc L (v :: w :: S) := by
  subst hp; exact Go.pure _ (fun p e below T target m c A hx hby k => XS.dupX1 A hx rfl (hb hby hd) rfl hv hw k) G
theorem sub1 {x : Addr} (q : x ∈ sf) : ∀ y ∈ [x], y ∈ sf := fun y hy => by cases List.mem_singleton.mp hy; exact q
/-- one field of an ordinary object known, each laid one holds something -/
theorem Fld.any {a : Addr} {C O n d O' n' d' : String} {v : Value} {k : Nat} (F : Fld Z h a O' n' d' v) (E : Exa Z h a C) (wi : (Jvm.Cond.instantiable C k).before a0 Z = true) (Lw : Laid Z a0 C O n d) : ∃ w, Fld Z h a O n d w := by
  obtain ⟨cell, cf, kk, i, f, h1, -, -, h4, h5, -, -⟩ := F
  obtain ⟨c2, k2, g1, g2, g3, g4, g5⟩ := E
  cases h1.symm.trans g1
  obtain ⟨c3, k3, i1, i2, i3, -⟩ := Cond.instantiable_spec wi
  cases g2.symm.trans i1
  cases g3.symm.trans i2
  obtain ⟨c, kc, cf', kf, j, f', a1, a2, a3, a4, a5, a6, -⟩ := Lw.spec
  cases g2.symm.trans a1
  cases g3.symm.trans a2
  have hs := g5 i3
  have hlt : f'.slot < cell.slots.size := by rw [hs]; exact (Array.getElem?_eq_some_iff.mp a6).1
  exact ⟨cell.slots[f'.slot], cell, cf', kf, j, f', h1, a3, a4, h4, h5, a5, Array.getElem?_eq_getElem hlt⟩
theorem Go.irem {x y : Int32} (pc' : Nat) (hd : decode bytes pc = .ok (.irem, 1)) (hp : pc + 1 = pc') (hy : y ≠ 0) (G : Go md l Z n0 R bytes ml ret own mn Ψ cells slots sf h pc' L (.int (x % y) :: S)) : Go md l Z n0 R bytes ml ret own mn Ψ cells slots sf h pc L (.int y :: .int x :: S) := by
  subst hp; exact Go.warm _ (fun p e s m args below meth c T locs hx hby hml hZ hown X eT => ⟨T, X, eT, fun target k => iremM (g := mkF m pc L (.int y :: .int x :: S)) X hx rfl (hb hby hd) rfl hy k⟩) G
theorem Go.ldcI {index : Nat} {v : Int32} (pc' : Nat) (hd : decode bytes pc = .ok (.ldc index, 2)) (hp : pc + 2 = pc') (w : (Jvm.Cond.constant own index v).before a0 Z = true) (G : Go md l Z n0 R bytes ml ret own mn Ψ cells slots sf h pc' L (.int v :: S)) : Go md l Z n0 R bytes ml ret own mn Ψ cells slots sf h pc L S := by
  subst hp; exact Go.warm _ (fun p e s m args below meth c T locs hx hby hml hZ hown X eT => ⟨T, X, eT, fun target k => X.ldcI (g := mkF m pc L S) hx hown (mvT hZ w) rfl (hb hby hd) k⟩) G
theorem Go.ldc2J {index : Nat} {v : Int64} (pc' : Nat) (hd : decode bytes pc = .ok (.ldc2_w index, 3)) (hp : pc + 3 = pc') (w : (Jvm.Cond.constantLong own index v).before a0 Z = true) (G : Go md l Z n0 R bytes ml ret own mn Ψ cells slots sf h pc' L (.long v :: S)) : Go md l Z n0 R bytes ml ret own mn Ψ cells slots sf h pc L S := by
  subst hp; exact Go.warm _ (fun p e s m args below meth c T locs hx hby hml hZ hown X eT => ⟨T, X, eT, fun target k => X.ldc2J (g := mkF m pc L S) hx hown (mvT hZ w) rfl (hb hby hd) k⟩) G
/-! fields -/
theorem Go.getF {R0 O n d : String} {index : Nat} {a : Addr} {v : Value} (pc' : Nat) (hd : decode bytes pc = .ok (.getfield index, 3)) (hp : pc + 3 = pc') (w : (Jvm.Cond.fieldLink own index R0 n d).before a0 Z = true) (via : Via Z R0 O n d) (F : Fld Z h a O n d v) (G : Go md l Z n0 R bytes ml ret own mn Ψ cells slots sf h pc' L (v :: S)) :
    Go md l Z n0 R bytes ml ret own mn Ψ cells slots sf h pc L (.ref a :: S) := by
  subst hp; exact Go.warm _ (fun p e s m args below meth c T locs hx hby hml hZ hown X eT => Jvm.RoadKit.getF X hx hZ hown (host := "") (Or.inl w) via eT F (g := mkF m pc L (.ref a :: S)) rfl rfl (hb hby hd)) G
theorem Go.getS {R0 O n d : String} {index : Nat} {v : Value} (pc' : Nat) (hd : decode bytes pc = .ok (.getstatic index, 3)) (hp : pc + 3 = pc') (w : (Jvm.Cond.fieldLink own index R0 n d).before a0 Z = true) (via : Via Z R0 O n d) (F : Sta Z Z.heap O n d v) (G : Go md l Z n0 R bytes ml ret own mn Ψ cells slots sf h pc' L (v :: S)) :
    Go md l Z n0 R bytes ml ret own mn Ψ cells slots sf h pc L S := by
  subst hp; exact Go.old fun o _ => Go.warm _ (fun p e s m args below meth c T locs hx hby hml hZ hown X eT => Jvm.RoadKit.getS (host := "") X hx hZ hown w via eT (F.ext o.2) (g := mkF m pc L S) rfl (hb hby hd)) G
theorem Go.putF {R0 O n d C : String} {index kk : Nat} {ty : FieldType} {a : Addr} {v old : Value} (pc' : Nat) (v' : Value) (hd : decode bytes pc = .ok (.putfield index, 3)) (hp : pc + 3 = pc') (w : (Jvm.Cond.fieldLink own index R0 n d).before a0 Z = true) (via : Via Z R0 O n d) (F : Fld Z h a O n d old) (E : Exa Z h a C)
    (Lw : (Jvm.Cond.lays C O n d).before a0 Z = true ∨ ((Jvm.Cond.laysFinal C O n d).before a0 Z = true ∧ own = O ∧ mn = "<init>")) (wi : (Jvm.Cond.instantiable C kk).before a0 Z = true) (hty : parseFieldDescriptor d = some ty) (hnw : narrow ty v = v') (hf : fits ty v' = true) (ha : a ∈ sf) (hn0 : n0 ≤ a)
    (G : ∀ h', Wr h h' a (Jvm.RoadKit.slotOf Z O n d) v' → Go md l Z n0 R bytes ml ret own mn Ψ cells slots sf h' pc' L S) : Go md l Z n0 R bytes ml ret own mn Ψ cells slots sf h pc L (v :: .ref a :: S) := by
  subst hp; exact Go.write _ ha hn0 (fun p e s m args below meth c T locs hx hby hml hnm hZ hown X eT => putFN X hx hZ hown w via eT F E (Lw.imp id fun q => ⟨q.1, q.2.1, hnm.trans q.2.2⟩) wi hty hnw hf (g := mkF m pc L (v :: .ref a :: S)) rfl rfl (hb hby hd)) G
/-! classes -/
theorem Go.castY {K : String} {index : Nat} {a : Addr} (pc' : Nat) (hd : decode bytes pc = .ok (.checkcast index, 3)) (hp : pc + 3 = pc') (w : (Jvm.Cond.classLink own index K).before a0 Z = true) (F : Ins Z h a K true) (G : Go md l Z n0 R bytes ml ret own mn Ψ cells slots sf h pc' L (.ref a :: S)) :
    Go md l Z n0 R bytes ml ret own mn Ψ cells slots sf h pc L (.ref a :: S) := by
  subst hp; exact Go.warm _ (fun p e s m args below meth c T locs hx hby hml hZ hown X eT => Jvm.RoadKit.castY X hx hZ hown w eT F (g := mkF m pc L (.ref a :: S)) rfl rfl (hb hby hd)) G
theorem Go.instY {K : String} {index : Nat} {a : Addr} (pc' : Nat) (hd : decode bytes pc = .ok (.instanceof index, 3)) (hp : pc + 3 = pc') (w : (Jvm.Cond.classLink own index K).before a0 Z = true) (F : Ins Z h a K true) (G : Go md l Z n0 R bytes ml ret own mn Ψ cells slots sf h pc' L (.int 1 :: S)) :
    Go md l Z n0 R bytes ml ret own mn Ψ cells slots sf h pc L (.ref a :: S) := by
  subst hp; exact Go.warm _ (fun p e s m args below meth c T locs hx hby hml hZ hown X eT => Jvm.RoadKit.instY X hx hZ hown w eT F (g := mkF m pc L (.ref a :: S)) rfl rfl (hb hby hd)) G
theorem Go.instNo {K C : String} {index : Nat} {a : Addr} (pc' : Nat) (hd : decode bytes pc = .ok (.instanceof index, 3)) (hp : pc + 3 = pc') (w : (Jvm.Cond.classLink own index K).before a0 Z = true) (E : Exa Z h a C) (F : ∃ c t, Z.vm.findClass C = some c ∧ Z.vm.findClass K = some t ∧ Z.vm.assignable c t = false) (G : Go md l Z n0 R bytes ml ret own mn Ψ cells slots sf h pc' L (.int 0 :: S)) :
    Go md l Z n0 R bytes ml ret own mn Ψ cells slots sf h pc L (.ref a :: S) := by
  subst hp; exact Go.warm _ (fun p e s m args below meth c T locs hx hby hml hZ hown X eT => Jvm.RoadKit.instNo X hx hZ hown w eT E F (g := mkF m pc L (.ref a :: S)) rfl rfl (hb hby hd)) G
theorem Go.instNull {index : Nat} (pc' : Nat) (hd : decode bytes pc = .ok (.instanceof index, 3)) (hp : pc + 3 = pc') (G : Go md l Z n0 R bytes ml ret own mn Ψ cells slots sf h pc' L (.int 0 :: S)) : Go md l Z n0 R bytes ml ret own mn Ψ cells slots sf h pc L (.null :: S) := by
  subst hp; exact Go.warm _ (fun p e s m args below meth c T locs hx hby hml hZ hown X eT => ⟨T, X, eT, fun target k => X.instanceofNull (g := mkF m pc L (.null :: S)) hx rfl rfl (hb hby hd) target k⟩) G
theorem Go.castNull {index : Nat} (pc' : Nat) (hd : decode bytes pc = .ok (.checkcast index, 3)) (hp : pc + 3 = pc') (G : Go md l Z n0 R bytes ml ret own mn Ψ cells slots sf h pc' L (.null :: S)) : Go md l Z n0 R bytes ml ret own mn Ψ cells slots sf h pc L (.null :: S) := by
  subst hp; exact Go.warm _ (fun p e s m args below meth c T locs hx hby hml hZ hown X eT => ⟨T, X, eT, fun target k => X.checkcastNull (g := mkF m pc L (.null :: S)) hx rfl rfl (hb hby hd) target k⟩) G
/-- Object's constructor -/
theorem Go.initO {idx : Nat} {a : Addr} {W : Nat} (pc' : Nat) (hd : decode bytes pc = .ok (.invokespecial idx, 3)) (hp : pc + 3 = pc') (w1 : (Jvm.Cond.methodLink own idx Lib.objectInit).before a0 Z = true) (w2 : (Jvm.Cond.instanceMethod Lib.objectInit).before a0 Z = true) (w3 : (Jvm.Cond.code Lib.objectInit ⟨#[0xb1]⟩ 1 none).before a0 Z = true)
    (hsz : L.size = ml) (hf : 1 ≤ R.frames) (hW : (S.map fun v => v.category).sum ≤ W) (hl : W + 12 ≤ R.locals) (G : Go md l Z n0 R bytes ml ret own mn Ψ cells slots sf h pc' L S) : Go md l Z n0 R bytes ml ret own mn Ψ cells slots sf h pc L (.ref a :: S) := by
  subst hp; exact Go.warm _ (fun p e s m args below meth c T locs hx hby hml hZ hown X eT => Jvm.RoadKit.initO X hx hZ hown w1 w2 w3 eT (g := mkF m pc L (.ref a :: S)) rfl (hsz.trans hml.symm) rfl (hb hby hd) hf (W := W) (by simpa using hW) hl) G
/-! what is made -/
theorem Go.new {C : String} {index n : Nat} (pc' : Nat) (hd : decode bytes pc = .ok (.new index, 3)) (hp : pc + 3 = pc') (w : (Jvm.Cond.classLink own index C).before a0 Z = true) (wi : (Jvm.Cond.instantiable C n).before a0 Z = true) (wz : (Jvm.Cond.initialized C).before a0 Z = true) (hc : cells + 1 ≤ R.cells) (hl : slots + n ≤ R.slots)
    (G : ∀ h' x, h.size = x → n0 ≤ x → Ext h h' → x < h'.size → Exa Z h' x C → (∀ {O nm d : String} {ty : FieldType}, Laid Z a0 C O nm d → parseFieldDescriptor d = some ty → Fld Z h' x O nm d (defaultValue ty)) → Go md l Z n0 R bytes ml ret own mn Ψ (cells + 1) (slots + n) (x :: sf) h' pc' L (.ref x :: S)) :
    Go md l Z n0 R bytes ml ret own mn Ψ cells slots sf h pc L S := by
  subst hp
  intro p e s m args below meth c vm0 T locs hx hby hml hr hlk hn ho X eT hZ B N
  obtain ⟨T', h', X', e', E, A, D, -, st⟩ := newO X hx hZ (by rw [show (s.setVm vm0).vm = vm0 from rfl, hZ.alike.findClass]; exact ho) w wi wz eT (g := mkF m pc L S) rfl (hb hby hd) hc hl
  obtain ⟨s₂, o, h1, r⟩ := G h' _ rfl B.n0le E A.lt A D p e s m args below meth c vm0 T' locs hx hby hml hr hlk hn ho X' e' hZ (B.new E A.lt (Nat.le_refl _)) N
  exact ⟨s₂, o, st _ h1, r⟩
/-- the array at a holds just these -/
def Ary (Z : State) (h : Heap) (a : Addr) (ty : FieldType) (vs : List Value) : Prop := ∃ c : Cell, Arr Z h a c ty ∧ c.slots.toList = vs ∧ vs.length < 2147483648 ∧ ∀ v ∈ vs, fits ty v = true
theorem Ary.lt {a : Addr} {ty : FieldType} {vs : List Value} (A : Ary Z h a ty vs) : a < h.size := by obtain ⟨c, A, -⟩ := A; exact A.lt
theorem Ary.ext {a : Addr} {ty : FieldType} {vs : List Value} (E : Ext h h') (A : Ary Z h a ty vs) : Ary Z h' a ty vs := by obtain ⟨c, A, r⟩ := A; exact ⟨c, A.ext E, r⟩
theorem Ary.other {a b : Addr} {ty : FieldType} {vs : List Value} {sl : Nat} {v : Value} (W : Wr h h' a sl v) (A : Ary Z h b ty vs) (q : b ≠ a) : Ary Z h' b ty vs := by obtain ⟨c, A, r⟩ := A; exact ⟨c, A.other W q, r⟩
theorem Ary.keep {a : Addr} {ty : FieldType} {vs : List Value} {ws : List Addr} (K : Keep h h' ws) (A : Ary Z h a ty vs) (q : a ∉ ws) : Ary Z h' a ty vs := by obtain ⟨c, A, r⟩ := A; exact ⟨c, ⟨K.2.1 a c A.1 q, A.2⟩, r⟩
theorem Ary.set {a : Addr} {ty : FieldType} {vs : List Value} {i : Nat} {v : Value} (W : Wr h h' a i v) (A : Ary Z h a ty vs) (hf : fits ty v = true) : Ary Z h' a ty (vs.set i v) := by
  obtain ⟨c, A, e1, e2, e3⟩ := A
  refine ⟨_, A.same W, by rw [← e1]; simp [Cell.setSlot, Array.toList_setIfInBounds], by simpa using e2, fun w hw => ?_⟩
  rcases List.mem_or_eq_of_mem_set hw with q | rfl
  · exact e3 w q
  · exact hf
theorem clamp_of {j : Int32} {i : Nat} (q : j.toInt = (i : Int)) : ¬ j < 0 ∧ j.toNatClampNeg = i := by
  refine ⟨fun z => ?_, ?_⟩
  · rw [Int32.lt_iff_toInt_lt] at z; rw [q] at z; have : (0 : Int32).toInt = 0 := rfl; omega
  · show j.toInt.toNat = i; rw [q]; rfl
theorem Ary.inb {a : Addr} {ty : FieldType} {vs : List Value} {c : Cell} {j : Int32} {i : Nat} (e1 : c.slots.toList = vs) (q : j.toInt = (i : Int)) (hi : i < vs.length) : ¬ (j < 0 ∨ c.slots.size ≤ j.toNatClampNeg) := by
  obtain ⟨q1, q2⟩ := clamp_of q
  rintro (z | z)
  · exact q1 z
  · rw [q2] at z; subst e1; simp at hi; omega
theorem Ary.at {c : Cell} {vs : List Value} {j : Int32} {i : Nat} {v : Value} (e1 : c.slots.toList = vs) (q : j.toInt = (i : Int)) (hv : vs[i]? = some v) : c.slots[j.toNatClampNeg]? = some v := by
  rw [(clamp_of q).2]; subst e1; rw [← hv]; simp
theorem Go.newA {aty : ArrayType} {n : Int32} {ty : FieldType} (k : Nat) (pc' : Nat) (hd : decode bytes pc = .ok (.newarray aty, 2)) (hp : pc + 2 = pc') (hty : newarray.typeOf aty = ty) (w : (Jvm.Cond.arrayClass ty).before a0 Z = true) (hk : n.toInt = (k : Int)) (cap : Nat) (hcap : k ≤ cap) (hb8 : cap * 8 ≤ 536870912) (hc : cells + 1 ≤ R.cells) (hl : slots + cap ≤ R.slots)
    (G : ∀ h' x, h.size = x → n0 ≤ x → Ext h h' → x < h'.size → Ary Z h' x ty (List.replicate k (defaultValue ty)) → Go md l Z n0 R bytes ml ret own mn Ψ (cells + 1) (slots + cap) (x :: sf) h' pc' L (.ref x :: S)) :
    Go md l Z n0 R bytes ml ret own mn Ψ cells slots sf h pc L (.int n :: S) := by
  subst hp; subst hty
  obtain ⟨q1, q2⟩ := clamp_of hk
  intro p e s m args below meth c vm0 T locs hx hby hml hr hlk hn ho X eT hZ B N
  obtain ⟨T', h', cA, X', e', E, A, st⟩ := newP X hx hZ w eT (g := mkF m pc L (.int n :: S)) rfl (hb hby hd) rfl q1 (cap := cap) (by rw [q2]; exact hcap) hb8 hc hl
  have A' : Ary Z h' h.size (newarray.typeOf aty) (List.replicate k (defaultValue (newarray.typeOf aty))) := ⟨_, A, by simp [Jvm.RoadKit.newA, q2], by simp; omega, fun v hv => by
    rw [(List.mem_replicate.mp hv).2]; cases aty <;> rfl⟩
  obtain ⟨s₂, o, h1, r⟩ := G h' _ rfl B.n0le E A'.lt A' p e s m args below meth c vm0 T' locs hx hby hml hr hlk hn ho X' e' hZ (B.new E A'.lt (Nat.le_refl _)) N
  exact ⟨s₂, o, st _ h1, r⟩
theorem Go.alen {a : Addr} {ty : FieldType} {vs : List Value} (pc' : Nat) (n : Int32) (hd : decode bytes pc = .ok (.arraylength, 1)) (hp : pc + 1 = pc') (A : Ary Z h a ty vs) (hn : Int32.ofNat vs.length = n) (G : Go md l Z n0 R bytes ml ret own mn Ψ cells slots sf h pc' L (.int n :: S)) :
    Go md l Z n0 R bytes ml ret own mn Ψ cells slots sf h pc L (.ref a :: S) := by
  subst hp; subst hn
  obtain ⟨c0, A, e1, e2, e3⟩ := A
  refine Go.warm _ (fun p e s m args below meth c T locs hx hby hml hZ hown X eT => ⟨T, X, eT, fun target k => X.arraylength hx (by rw [eT]; exact A.1) (State.isArrayOf_alike hZ.alike A.2.1) (g := mkF m pc L (.ref a :: S)) rfl rfl (hb hby hd) target ?_⟩) G
  subst e1; simpa using k
theorem Go.caload {a : Addr} {vs : List Value} {j : Int32} (i : Nat) {v : Value} (pc' : Nat) (hd : decode bytes pc = .ok (.caload, 1)) (hp : pc + 1 = pc') (A : Ary Z h a .char vs) (hj : j.toInt = (i : Int)) (hv : vs[i]? = some v) (G : Go md l Z n0 R bytes ml ret own mn Ψ cells slots sf h pc' L (v :: S)) :
    Go md l Z n0 R bytes ml ret own mn Ψ cells slots sf h pc L (.int j :: .ref a :: S) := by
  subst hp
  obtain ⟨c0, A, e1, e2, e3⟩ := A
  have hi := (List.getElem?_eq_some_iff.mp hv).1
  exact Go.warm _ (fun p e s m args below meth c T locs hx hby hml hZ hown X eT => ⟨T, X, eT, fun target k => X.caload hx (by rw [eT]; exact A.1) (State.isArrayOf_alike hZ.alike A.2.1) A.2.2 (Ary.inb (a := a) (ty := .char) e1 hj hi) (Ary.at e1 hj hv) (g := mkF m pc L (.int j :: .ref a :: S)) rfl rfl (hb hby hd) target k⟩) G
theorem Go.baload {a : Addr} {vs : List Value} {j : Int32} (i : Nat) {v : Value} (pc' : Nat) (hd : decode bytes pc = .ok (.baload, 1)) (hp : pc + 1 = pc') (A : Ary Z h a .byte vs) (hj : j.toInt = (i : Int)) (hv : vs[i]? = some v) (G : Go md l Z n0 R bytes ml ret own mn Ψ cells slots sf h pc' L (v :: S)) :
    Go md l Z n0 R bytes ml ret own mn Ψ cells slots sf h pc L (.int j :: .ref a :: S) := by
  subst hp
  obtain ⟨c0, A, e1, e2, e3⟩ := A
  have hi := (List.getElem?_eq_some_iff.mp hv).1
  exact Go.warm _ (fun p e s m args below meth c T locs hx hby hml hZ hown X eT => ⟨T, X, eT, fun target k => X.baloadBytes hx (by rw [eT]; exact A.1) (State.isArrayOf_alike hZ.alike A.2.1) A.2.2 (Ary.inb (a := a) (ty := .byte) e1 hj hi) (Ary.at e1 hj hv) (g := mkF m pc L (.int j :: .ref a :: S)) rfl rfl (hb hby hd) target k⟩) G
theorem Go.laload {a : Addr} {vs : List Value} {j : Int32} (i : Nat) {v : Value} (pc' : Nat) (hd : decode bytes pc = .ok (.laload, 1)) (hp : pc + 1 = pc') (A : Ary Z h a .long vs) (hj : j.toInt = (i : Int)) (hv : vs[i]? = some v) (G : Go md l Z n0 R bytes ml ret own mn Ψ cells slots sf h pc' L (v :: S)) :
    Go md l Z n0 R bytes ml ret own mn Ψ cells slots sf h pc L (.int j :: .ref a :: S) := by
  subst hp
  obtain ⟨c0, A, e1, e2, e3⟩ := A
  have hi := (List.getElem?_eq_some_iff.mp hv).1
  exact Go.warm _ (fun p e s m args below meth c T locs hx hby hml hZ hown X eT => ⟨T, X, eT, fun target k => X.laload hx (by rw [eT]; exact A.1) (State.isArrayOf_alike hZ.alike A.2.1) A.2.2 (Ary.inb (a := a) (ty := .long) e1 hj hi) (Ary.at e1 hj hv) (g := mkF m pc L (.int j :: .ref a :: S)) rfl rfl (hb hby hd) target k⟩) G
theorem Go.aaload {a : Addr} {vs : List Value} {j : Int32} {ty : FieldType} (i : Nat) {v : Value} (pc' : Nat) (hd : decode bytes pc = .ok (.aaload, 1)) (hp : pc + 1 = pc') (hty : ty.isReference = true) (A : Ary Z h a ty vs) (hj : j.toInt = (i : Int)) (hv : vs[i]? = some v) (G : Go md l Z n0 R bytes ml ret own mn Ψ cells slots sf h pc' L (v :: S)) :
    Go md l Z n0 R bytes ml ret own mn Ψ cells slots sf h pc L (.int j :: .ref a :: S) := by
  subst hp
  obtain ⟨c0, A, e1, e2, e3⟩ := A
  have hi := (List.getElem?_eq_some_iff.mp hv).1
  exact Go.warm _ (fun p e s m args below meth c T locs hx hby hml hZ hown X eT => ⟨T, X, eT, fun target k => X.aaload hx (by rw [eT]; exact A.1) (State.isArrayOf_alike hZ.alike A.2.1) hty A.2.2 (Ary.inb (a := a) (ty := ty) e1 hj hi) (Ary.at e1 hj hv) (g := mkF m pc L (.int j :: .ref a :: S)) rfl rfl (hb hby hd) target k⟩) G
theorem Go.castore {a : Addr} {vs : List Value} {j x : Int32} (i : Nat) (pc' : Nat) (hd : decode bytes pc = .ok (.castore, 1)) (hp : pc + 1 = pc') (A : Ary Z h a .char vs) (hj : j.toInt = (i : Int)) (hi : i < vs.length) (ha : a ∈ sf) (hn0 : n0 ≤ a)
    (G : ∀ h', Wr h h' a i (.int (nar .char x)) → Ary Z h' a .char (vs.set i (.int (nar .char x))) → Go md l Z n0 R bytes ml ret own mn Ψ cells slots sf h' pc' L S) : Go md l Z n0 R bytes ml ret own mn Ψ cells slots sf h pc L (.int x :: .int j :: .ref a :: S) := by
  subst hp
  obtain ⟨c0, A0, e1, e2, e3⟩ := A
  obtain ⟨-, q2⟩ := clamp_of hj
  exact Go.write _ ha hn0 (sl := i) (fun p e s m args below meth c T locs hx hby hml hnm hZ hown X eT => by rw [← q2]; exact stC X hx hZ eT A0 (Ary.inb (a := a) (ty := .char) e1 hj hi) (g := mkF m pc L (.int x :: .int j :: .ref a :: S)) rfl rfl (hb hby hd)) (fun h' W => G h' W (Ary.set W ⟨c0, A0, e1, e2, e3⟩ (fits_nar_char _)))
theorem Go.bastore {a : Addr} {vs : List Value} {j x : Int32} (i : Nat) (pc' : Nat) (hd : decode bytes pc = .ok (.bastore, 1)) (hp : pc + 1 = pc') (A : Ary Z h a .byte vs) (hj : j.toInt = (i : Int)) (hi : i < vs.length) (ha : a ∈ sf) (hn0 : n0 ≤ a)
    (G : ∀ h', Wr h h' a i (.int x.toInt8.toInt32) → Ary Z h' a .byte (vs.set i (.int x.toInt8.toInt32)) → Go md l Z n0 R bytes ml ret own mn Ψ cells slots sf h' pc' L S) : Go md l Z n0 R bytes ml ret own mn Ψ cells slots sf h pc L (.int x :: .int j :: .ref a :: S) := by
  subst hp
  obtain ⟨c0, A0, e1, e2, e3⟩ := A
  obtain ⟨-, q2⟩ := clamp_of hj
  exact Go.write _ ha hn0 (sl := i) (fun p e s m args below meth c T locs hx hby hml hnm hZ hown X eT => by rw [← q2]; exact stB X hx hZ eT A0 (Ary.inb (a := a) (ty := .byte) e1 hj hi) (g := mkF m pc L (.int x :: .int j :: .ref a :: S)) rfl rfl (hb hby hd)) (fun h' W => G h' W (Ary.set W ⟨c0, A0, e1, e2, e3⟩ (fits_nar_byte _)))
/-! calls -/
abbrev CPre (R : Room) (as : Array Value) (h : Heap) (kc ks : Nat) : Pt → Array Value → Prop := fun A a => a = as ∧ A.U.heap = h ∧ A.cells + kc ≤ R.cells ∧ A.slots + ks ≤ R.slots
abbrev CPost (Z : State) (n0 : Nat) (Q : Option Value → Heap → List Addr → Prop) (kc ks : Nat) : Pt → Array Value → Option Value → Pt → Prop := fun A _ v B => ∃ (L : List Loc) (sf' : List Addr), Q v B.U.heap sf' ∧ Old Z n0 B.U.heap ∧ Fr n0 L ∧ B.locs = A.locs ++ L ∧ B.cells = A.cells + kc ∧ B.slots = A.slots + ks
abbrev CPostW (Z : State) (EL : List (String × Nat)) (vm0 : Vm) (h : Heap) (n0 : Nat) (Q : Option Value → Heap → List Addr → Prop) (kc ks : Nat) : Pt → Array Value → Option Value → Pt → Prop := fun A _ v B => ∃ (L : List Loc) (sf' : List Addr), Q v B.U.heap sf' ∧ Old Z n0 B.U.heap ∧ Fr n0 L ∧ B.locs = A.locs ++ L ∧ B.cells = A.cells + kc ∧ B.slots = A.slots + ks ∧ CHr Z EL vm0 h B.U.vm B.U.heap ∧ ∀ x ∈ sf', x < B.U.heap.size ∧ Safe Z EL B.U.vm B.U.heap x
def Call (md : Md) (l : Launch) (Z : State) (n0 : Nat) (R : Room) (y : MethodName) (len W : Nat) (as : Array Value) (h : Heap) (sf : List Addr) (kc ks : Nat) (Q : Option Value → Heap → List Addr → Prop) : Prop :=
  ∀ (p : Program) (e : Env) (below : List Frame) (s : State) (vm0 : Vm) (sargs : Array Value), Z.Warmed39 vm0 → Bok md Z n0 s sf vm0 h →
    match md with
    | none => Back l R p e below (s.setVm vm0) sargs y len W (CPre R as h kc ks) (CPost Z n0 Q kc ks)
    | some EL => BackS l R p e below (s.setVm vm0) sargs y len W (CPre R as h kc ks) (CPostW Z EL vm0 h n0 Q kc ks)
theorem Bok.called {s U : State} {vm0 : Vm} {sf' : List Addr} (B : Bok (some EL) Z n0 s sf vm0 h) (h2 : (s.setVm vm0).Since U.vm U.heap.size) (o : Old Z n0 U.heap) (C : CHr Z EL vm0 h U.vm U.heap) (q : ∀ x ∈ sf', x < U.heap.size ∧ Safe Z EL U.vm U.heap x) : Bok (some EL) Z n0 s (sf' ++ sf) U.vm U.heap := by
  obtain ⟨-, ⟨k, b1, b2⟩, b3, b4, b5⟩ := B
  refine ⟨o, ⟨_, b1.trans h2 (Nat.le_trans b2 C.2.1), Nat.le_refl _⟩, b3, b4.trans C, fun x hx => ?_⟩
  rcases List.mem_append.mp hx with hx | hx
  · exact q x hx
  · exact ⟨Nat.lt_of_lt_of_le (b5 x hx).1 C.2.1, C.safe (b5 x hx).1 (b5 x hx).2⟩
theorem Go.callS {y : MethodName} {index maxY kc ks W : Nat} {bytesY : ByteArray} {retY : Option FieldType} {sfc : List Addr} {Q : Option Value → Heap → List Addr → Prop} {St : List Value} (pc' : Nat) (argsL : List Value) (hd : decode bytes pc = .ok (.invokestatic index, 3)) (hp : pc + 3 = pc') (hst : St = argsL.reverse ++ S)
    (wl : (Jvm.Cond.methodLink own index y).before a0 Z = true) (ws : (Jvm.Cond.static y).before a0 Z = true) (wi : (Jvm.Cond.initialized y.cls).before a0 Z = true) (wc : (Jvm.Cond.code y bytesY maxY retY).before a0 Z = true) (hy : y.cls ≠ "java/lang/invoke/MethodHandle" ∧ y.cls ≠ "java/lang/invoke/VarHandle")
    (hC : Call md l Z n0 R y 3 W argsL.toArray h sfc kc ks Q) (hlen : ∀ sig, parseMethodDescriptor y.desc = some sig → argsL.length = sig.parameters.length) (hW : (S.map fun v => v.category).sum ≤ W) (hsz : L.size = ml) (hc : cells + kc ≤ R.cells) (hs : slots + ks ≤ R.slots) (hsf : ∀ x ∈ sfc, x ∈ sf)
    (G : ∀ v h' sf', Q v h' sf' → Go md l Z n0 R bytes ml ret own mn Ψ (cells + kc) (slots + ks) (sf' ++ sf) h' pc' L (v.toList ++ S)) : Go md l Z n0 R bytes ml ret own mn Ψ cells slots sf h pc L St := by
  subst hp; subst hst
  intro p e s m args below meth c vm0 T locs hx hby hml hr hlk hn ho X eT hZ B N
  have hown : (s.setVm vm0).vm.findClass own = some m.cls := by rw [show (s.setVm vm0).vm = vm0 from rfl, hZ.alike.findClass]; exact ho
  have K := hC p e below s vm0 args hZ (B.sub hsf)
  cases md with
  | none =>
    obtain ⟨v, vm₁, ⟨U, L1, c1, n1⟩, -, X', ⟨L', sf', q1, q0, q2, q3, q4, q5⟩, st⟩ := Jvm.LawKit.callS X hx hown (mvT hZ wl) (mvT hZ ws) (mvT hZ wi) (mvT hZ wc) hy K (g := mkF m pc L (argsL.reverse ++ S)) rfl (hsz.trans hml.symm) hlen rfl (by simpa using hW) (hb hby hd) (fun _ _ => ⟨rfl, eT, hc, hs⟩)
    dsimp only [Pt.U, Pt.locs, Pt.cells, Pt.slots] at q1 q0 q3 q4 q5 X' st
    subst q3 q4 q5
    obtain ⟨s₂, o, h1, r⟩ := G v U.heap sf' q1 p e s m args below meth c vm0 U _ hx hby hml hr hlk hn ho X' rfl hZ ⟨q0, B.2⟩ (N.app q2)
    exact ⟨s₂, o, st _ h1, r⟩
  | some EL =>
    obtain ⟨v, vm₁, ⟨U, L1, c1, n1⟩, -, X', hS, hgr, ⟨L', sf', q1, q0, q2, q3, q4, q5, q6, q7⟩, st⟩ := callSS X hx hown (mvT hZ wl) (mvT hZ ws) (mvT hZ wi) (mvT hZ wc) hy K (g := mkF m pc L (argsL.reverse ++ S)) rfl (hsz.trans hml.symm) hlen rfl (by simpa using hW) (hb hby hd) (fun _ _ => ⟨rfl, eT, hc, hs⟩)
    dsimp only [Pt.U, Pt.locs, Pt.cells, Pt.slots] at q1 q0 q3 q4 q5 q6 q7 X' st hS hgr
    subst q3 q4 q5
    obtain ⟨s₂, o, h1, r⟩ := G v U.heap sf' q1 p e s m args below meth c U.vm U _ hx hby hml hr hlk hn ho X' rfl (State.Warmed39.trans (t := s.setVm vm0) hZ hS.1) (B.called hS q0 q6 q7) (N.app q2)
    exact ⟨s₂, o, st.trans h1, r⟩
theorem Go.callC {y : MethodName} {index maxY kc ks W : Nat} {bytesY : ByteArray} {sfc : List Addr} {Q : Option Value → Heap → List Addr → Prop} {St : List Value} {a : Addr} (pc' : Nat) (argsL : List Value) (hd : decode bytes pc = .ok (.invokespecial index, 3)) (hp : pc + 3 = pc') (hst : St = argsL.reverse ++ .ref a :: S) (hy1 : y.name = "<init>")
    (wl : (Jvm.Cond.methodLink own index y).before a0 Z = true) (ws : (Jvm.Cond.instanceMethod y).before a0 Z = true) (wc : (Jvm.Cond.code y bytesY maxY none).before a0 Z = true) (hy : y.cls ≠ "java/lang/invoke/MethodHandle" ∧ y.cls ≠ "java/lang/invoke/VarHandle")
    (hC : Call md l Z n0 R y 3 W (.ref a :: argsL).toArray h sfc kc ks Q) (hlen : ∀ sig, parseMethodDescriptor y.desc = some sig → argsL.length = sig.parameters.length) (hW : (S.map fun v => v.category).sum ≤ W) (hsz : L.size = ml) (hc : cells + kc ≤ R.cells) (hs : slots + ks ≤ R.slots) (hsf : ∀ x ∈ sfc, x ∈ sf)
    (G : ∀ v h' sf', Q v h' sf' → Go md l Z n0 R bytes ml ret own mn Ψ (cells + kc) (slots + ks) (sf' ++ sf) h' pc' L (v.toList ++ S)) : Go md l Z n0 R bytes ml ret own mn Ψ cells slots sf h pc L St := by
  subst hp; subst hst
  intro p e s m args below meth c vm0 T locs hx hby hml hr hlk hn ho X eT hZ B N
  have hown : (s.setVm vm0).vm.findClass own = some m.cls := by rw [show (s.setVm vm0).vm = vm0 from rfl, hZ.alike.findClass]; exact ho
  have K := hC p e below s vm0 args hZ (B.sub hsf)
  cases md with
  | none =>
    obtain ⟨v, vm₁, ⟨U, L1, c1, n1⟩, -, X', ⟨L', sf', q1, q0, q2, q3, q4, q5⟩, st⟩ := X.specialBack hx hy1 hown (mvT hZ wl) (mvT hZ ws) (mvT hZ wc) hy K (g := mkF m pc L (argsL.reverse ++ .ref a :: S)) rfl (hsz.trans hml.symm) (Steps.refl _) hlen rfl (by simpa using hW) (hb hby hd) (fun _ _ => ⟨rfl, eT, hc, hs⟩)
    dsimp only [Pt.U, Pt.locs, Pt.cells, Pt.slots] at q1 q0 q3 q4 q5 X' st
    subst q3 q4 q5
    obtain ⟨s₂, o, h1, r⟩ := G v U.heap sf' q1 p e s m args below meth c vm0 U _ hx hby hml hr hlk hn ho X' rfl hZ ⟨q0, B.2⟩ (N.app q2)
    exact ⟨s₂, o, st.trans h1, r⟩
  | some EL =>
    obtain ⟨v, vm₁, ⟨U, L1, c1, n1⟩, -, X', hS, hgr, ⟨L', sf', q1, q0, q2, q3, q4, q5, q6, q7⟩, st⟩ := X.specialBackS hx hy1 hown (mvT hZ wl) (mvT hZ ws) (mvT hZ wc) hy K (g := mkF m pc L (argsL.reverse ++ .ref a :: S)) rfl (hsz.trans hml.symm) (Steps.refl _) hlen rfl (by simpa using hW) (hb hby hd) (fun _ _ => ⟨rfl, eT, hc, hs⟩)
    dsimp only [Pt.U, Pt.locs, Pt.cells, Pt.slots] at q1 q0 q3 q4 q5 q6 q7 X' st hS hgr
    subst q3 q4 q5
    obtain ⟨s₂, o, h1, r⟩ := G v U.heap sf' q1 p e s m args below meth c U.vm U _ hx hby hml hr hlk hn ho X' rfl (State.Warmed39.trans (t := s.setVm vm0) hZ hS.1) (B.called hS q0 q6 q7) (N.app q2)
    exact ⟨s₂, o, st.trans h1, r⟩
theorem Go.callV {y z : MethodName} {index kc ks W : Nat} {C : String} {sfc : List Addr} {Q : Option Value → Heap → List Addr → Prop} {St : List Value} {a : Addr} (pc' : Nat) (argsL : List Value) (hd : decode bytes pc = .ok (.invokevirtual index, 3)) (hp : pc + 3 = pc') (hst : St = argsL.reverse ++ .ref a :: S)
    (wl : (Jvm.Cond.methodLink own index y).before a0 Z = true) (wd : (Jvm.Cond.declares y).before a0 Z = true) (wse : (Jvm.Cond.selects C y z).before a0 Z = true) (ws : (Jvm.Cond.instanceMethod z).before a0 Z = true) (hnf : ∀ (s : State), Z.Warmed39 s.vm → NotFace s y) (hy : y.cls ≠ "java/lang/invoke/MethodHandle" ∧ y.cls ≠ "java/lang/invoke/VarHandle")
    (E : Exa Z h a C) (hC : Call md l Z n0 R z 3 W (.ref a :: argsL).toArray h sfc kc ks Q) (hlen : ∀ sig, parseMethodDescriptor y.desc = some sig → argsL.length = sig.parameters.length) (hW : (S.map fun v => v.category).sum ≤ W) (hsz : L.size = ml) (hc : cells + kc ≤ R.cells) (hs : slots + ks ≤ R.slots) (hsf : ∀ x ∈ sfc, x ∈ sf)
    (G : ∀ v h' sf', Q v h' sf' → Go md l Z n0 R bytes ml ret own mn Ψ (cells + kc) (slots + ks) (sf' ++ sf) h' pc' L (v.toList ++ S)) : Go md l Z n0 R bytes ml ret own mn Ψ cells slots sf h pc L St := by
  subst hp; subst hst
  intro p e s m args below meth c vm0 T locs hx hby hml hr hlk hn ho X eT hZ B N
  have hown : (s.setVm vm0).vm.findClass own = some m.cls := by rw [show (s.setVm vm0).vm = vm0 from rfl, hZ.alike.findClass]; exact ho
  have K := hC p e below s vm0 args hZ (B.sub hsf)
  obtain ⟨cB, kB, i1, -, i3⟩ := isOf (s := s.setVm vm0) hZ eT E
  cases md with
  | none =>
    obtain ⟨v, vm₁, ⟨U, L1, c1, n1⟩, -, X', ⟨L', sf', q1, q0, q2, q3, q4, q5⟩, st⟩ := X.virtualBack hx hown (mvT hZ wl) (mvT hZ wd) (hnf _ hZ) (mvT hZ wse) (mvT hZ ws) hy K i1 i3 (g := mkF m pc L (argsL.reverse ++ .ref a :: S)) rfl (hsz.trans hml.symm) (Steps.refl _) hlen rfl (by simpa using hW) (hb hby hd) (fun _ _ => ⟨rfl, eT, hc, hs⟩)
    dsimp only [Pt.U, Pt.locs, Pt.cells, Pt.slots] at q1 q0 q3 q4 q5 X' st
    subst q3 q4 q5
    obtain ⟨s₂, o, h1, r⟩ := G v U.heap sf' q1 p e s m args below meth c vm0 U _ hx hby hml hr hlk hn ho X' rfl hZ ⟨q0, B.2⟩ (N.app q2)
    exact ⟨s₂, o, st.trans h1, r⟩
  | some EL =>
    obtain ⟨v, vm₁, ⟨U, L1, c1, n1⟩, -, X', hS, hgr, ⟨L', sf', q1, q0, q2, q3, q4, q5, q6, q7⟩, st⟩ := X.virtualBackS hx hown (mvT hZ wl) (mvT hZ wd) (hnf _ hZ) (mvT hZ wse) (mvT hZ ws) hy K i1 i3 (g := mkF m pc L (argsL.reverse ++ .ref a :: S)) rfl (hsz.trans hml.symm) (Steps.refl _) hlen rfl (by simpa using hW) (hb hby hd) (fun _ _ => ⟨rfl, eT, hc, hs⟩)
    dsimp only [Pt.U, Pt.locs, Pt.cells, Pt.slots] at q1 q0 q3 q4 q5 q6 q7 X' st hS hgr
    subst q3 q4 q5
    obtain ⟨s₂, o, h1, r⟩ := G v U.heap sf' q1 p e s m args below meth c U.vm U _ hx hby hml hr hlk hn ho X' rfl (State.Warmed39.trans (t := s.setVm vm0) hZ hS.1) (B.called hS q0 q6 q7) (N.app q2)
    exact ⟨s₂, o, st.trans h1, r⟩
/-! from a body to a call -/
theorem met_of_go {cls name desc : String} {as : Array Value} {L0 : Array Slot} {Q : Option Value → Heap → List Addr → Prop} {ws : List Jvm.Cond} (hpn : plainFor ⟨cls, name, desc⟩ = true) (hef : ∀ m, entryFrame m as ml = mkF m 0 L0 []) (G : Go md l Z n0 R bytes ml ret cls name Q 0 0 sf h 0 L0 []) :
    MetFree l ⟨cls, name, desc⟩ (head1 (Jvm.Cond.code ⟨cls, name, desc⟩ bytes ml ret :: ws) R) (fun a U => a = as ∧ Z.Warmed39 U.vm ∧ U.heap = h ∧ Bok md Z n0 U sf U.vm h) (fun _ _ _ _ _ => True)
      (fun _ U o U' => ∃ (v : Option Value) (L' : List Loc) (sf' : List Addr), o = .returned v ∧ Q v U'.heap sf' ∧ Old Z n0 U'.heap ∧ Fr n0 L' ∧ SafeAll md Z sf' U'.vm U'.heap ∧ FinE md Z U o U' L' R.cells R.slots) := by
  refine MetFree.of_bodySF hpn hisR ?_
  intro p e s m args below meth c s₁ Bd hml0 hP hK
  obtain ⟨rfl, hZ, hh, hB⟩ := hP
  have X0 : Stand p l e R s m args below meth c s₁ [] 0 0 := Stand.of_body Bd
  have e0 : s₁.heap = h := by rw [← hh, Bd.state]; rfl
  have q := G p e s m args below meth c s.vm s₁ [] Bd.exec Bd.bytes hml0 Bd.returns (BodyLoose.notSynchronized Bd) (name_of_methodNamed Bd.named Bd.method).1 (by rw [← hZ.alike.findClass]; exact findClass_of_methodNamed Bd.named) X0 e0 hZ hB (Fr.nil n0)
  rw [hef]; exact q
theorem call_of_go {cls name desc : String} {as : Array Value} {L0 : Array Slot} {Q : Option Value → Heap → List Addr → Prop} {rm : Room} {len W : Nat} (hpn : plainFor ⟨cls, name, desc⟩ = true) (hef : ∀ m, entryFrame m as ml = mkF m 0 L0 []) (G : Go md l Z n0 rm bytes ml ret cls name Q 0 0 sf h 0 L0 [])
    (wc : (Jvm.Cond.code ⟨cls, name, desc⟩ bytes ml ret).before a0 Z = true) (wz : (Jvm.Cond.initialized cls).before a0 Z = true) (hf : rm.frames + 1 ≤ R.frames) (hl : W + (ml + 11) + rm.locals ≤ R.locals) :
    Call md l Z n0 R ⟨cls, name, desc⟩ len W as h sf rm.cells rm.slots Q := by
  have hM := met_of_go (desc := desc) (ws := []) hpn hef G
  intro p e below s vm0 sargs hZ B
  cases md with
  | none =>
    have hM' : MetFree l ⟨cls, name, desc⟩ (head1 [Jvm.Cond.code ⟨cls, name, desc⟩ bytes ml ret] rm) (fun a U => a = as ∧ Z.Warmed39 U.vm ∧ U.heap = h) (fun _ _ _ _ _ => True) (fun _ U o U' => ∃ v L, o = .returned v ∧ (fun v h' L => ∃ sf', Q v h' sf' ∧ Old Z n0 h' ∧ Fr n0 L) v U'.heap L ∧ FrameEnd U o U' L rm.cells rm.slots) :=
      fun p e ha hc hk s m args below hfr happ hP hK => by
        obtain ⟨n, o, h1, h2, h3, v, L', sf', e1, q1, q0, q2, -, q4⟩ := hM p e ha hc hk s m args below hfr happ ⟨hP.1, hP.2.1, hP.2.2, B.1, rfl⟩ hK
        exact ⟨n, o, h1, h2, h3, v, L', e1, ⟨sf', q1, q0, q2⟩, q4⟩
    have K := backOf (Q := fun v h' L => ∃ sf', Q v h' sf' ∧ Old Z n0 h' ∧ Fr n0 L) (R := R) (p := p) (e := e) (below := below) (s := s.setVm vm0) (args := sargs) (len := len) (W := W) hM' hZ wc wz hf hl
    intro m meth c A g ig mk a X hg hsize hdg hW hn hp
    obtain ⟨v, P, X', ⟨L', ⟨sf', q1, q0, q2⟩, q3, q4, q5⟩, st⟩ := K m meth c A g ig mk a X hg hsize hdg hW hn hp
    exact ⟨v, P, X', ⟨L', sf', q1, q0, q2, q3, q4, q5⟩, st⟩
  | some EL =>
    obtain ⟨b0, ⟨k, b1, b2⟩, ⟨a1, b3⟩, b4, b5⟩ := B
    exact BackS.of_freeW (bytes := bytes) (maxL := ml) (ret := ret) (E := fun _ first o t L k n => k = rm.cells ∧ n = rm.slots ∧ (∃ v sf', o = .returned v ∧ Q v t.heap sf' ∧ Old Z n0 t.heap ∧ Fr n0 L ∧ ∀ x ∈ sf', x < t.heap.size ∧ Safe Z EL t.vm t.heap x) ∧ CHr Z EL first.vm first.heap t.vm t.heap) hM hf hl
      (fun m meth c A a Y hp => have hU : Z.Warmed39 A.U.vm := wtrans (s := s.setVm vm0) hZ Y.warmed
        ⟨by show (Jvm.Cond.and _ .tt).before a A.U = true; rw [Cond.before_and, mv hU wc]; rfl, mv hU wc, mv hU wz, hp.2.2.1, hp.2.2.2⟩)
      (fun m meth c A a g mk Y hp => by
        have C := CHv.at Y hZ b3 b4.1
        exact ⟨hp.1, wtrans (s := s.setVm vm0) hZ Y.warmed, hp.2.1, b0, ⟨_, (State.WarmedH.refl _).since _, Nat.le_refl _⟩, ⟨a1, b3⟩, by show CHr Z EL A.U.vm A.U.heap A.U.vm h; rw [hp.2.1]; exact CHr.refl C.1, fun x hx => ⟨(b5 x hx).1, C.safe (b5 x hx).1 (b5 x hx).2⟩⟩)
      (fun _ _ _ _ _ _ _ _ _ => trivial)
      (fun _ _ _ _ ⟨v, L', sf', e1, q1, q0, q2, q3, q4, q5⟩ => ⟨L', _, _, q5, rfl, rfl, ⟨v, sf', e1, q1, q0, q2, q3⟩, q4⟩)
      (fun m meth c A a g mk v t L' k n Y hp _ _ ⟨e1, e2, ⟨v', sf', e3, q1, q0, q2, q3⟩, q4⟩ => by
        cases e3; subst e1 e2
        refine ⟨L', sf', q1, q0, q2, rfl, rfl, rfl, (CHv.at Y hZ b3 b4.1).trans ?_, q3⟩
        rw [← hp.2.1]; exact q4)
/-- a law of the library or of a pasted text, in backOf's shape -/
theorem call_of_back {y : MethodName} {as : Array Value} {len W kc ks : Nat} {QB : Option Value → Heap → List Loc → Prop} {Q : Option Value → Heap → List Addr → Prop} (ws : List Addr)
    (hB : ∀ (p : Program) (e : Env) (below : List Frame) (s : State) (sargs : Array Value), Z.Warmed39 s.vm → Back l R p e below s sargs y len W (fun A a => a = as ∧ A.U.heap = h ∧ A.cells + kc ≤ R.cells ∧ A.slots + ks ≤ R.slots) (fun A _ v B => ∃ L, QB v B.U.heap L ∧ B.locs = A.locs ++ L ∧ B.cells = A.cells + kc ∧ B.slots = A.slots + ks))
    (hQ : ∀ v h' L, QB v h' L → Fr n0 L ∧ Keep h h' ws ∧ Q v h' []) (hws : ∀ x ∈ ws, x ∈ sf) (hw0 : ∀ x ∈ ws, n0 ≤ x) : Call md l Z n0 R y len W as h sf kc ks Q := by
  intro p e below s vm0 sargs hZ B
  have K := hB p e below (s.setVm vm0) sargs hZ
  cases md with
  | none =>
    intro m meth c A g ig mk a X hg hsize hdg hW hn hp
    obtain ⟨v, P, X', ⟨L', q1, q3, q4, q5⟩, st⟩ := K m meth c A g ig mk a X hg hsize hdg hW hn hp
    obtain ⟨r1, r2, r3⟩ := hQ _ _ _ q1
    exact ⟨v, P, X', ⟨L', [], r3, B.1.keep r2 hw0, r1, q3, q4, q5⟩, st⟩
  | some EL =>
    obtain ⟨b0, ⟨k, b1, b2⟩, ⟨a1, b3⟩, b4, b5⟩ := B
    intro m meth c A g ig mk a X hg hsize hdg hW hn hp
    obtain ⟨v, P, X', ⟨L', q1, q3, q4, q5⟩, st⟩ := K m meth c A g ig mk a X hg hsize hdg hW hn hp
    obtain ⟨r1, r2, r3⟩ := hQ _ _ _ q1
    have C1 : CHr Z EL vm0 h vm0 P.U.heap := CHr.keep r2 (fun x hx => (b5 x (hws x hx)).2) b4.1
    have C2 : CHr Z EL vm0 P.U.heap P.U.vm P.U.heap := CHv.at X' hZ b3 C1.1
    exact ⟨v, P, X'.retabled X'.warmed.wide, X'.warmed.since _, by rw [hp.2.1]; exact r2.1, ⟨L', [], r3, b0.keep r2 hw0, r1, q3, q4, q5, C1.trans C2, fun x hx => nomatch hx⟩, st⟩
/-! String constants -/
theorem Go.ldcL {index : Nat} {text : String} {vs : List Value} {z : Int32} (n : Nat) (pc' : Nat) (hd : decode bytes pc = .ok (.ldc index, 2)) (hp : pc + 2 = pc') (w : (Jvm.Cond.stringLink own index text).before a0 Z = true) (wS : ∀ a ∈ Bundle.stringAtoms, a.before a0 Z = true) (hmem : (own, index) ∈ EL)
    (ht : (∀ c ∈ text.toList, c.toNat < 256) ∧ text.toList.map (fun c => Value.int (Jvm.Lit.byteI c.toNat.toUInt16)) = vs) (hz : ¬ z < 0) (hl : z.toNatClampNeg = vs.length) (hn : 4 * text.toList.length ≤ n) (hbig : n ≤ 536870912) (hc : cells + 2 ≤ R.cells) (hl' : slots + (n + 4) ≤ R.slots)
    (G : ∀ h' a b k, Ext h h' → Exa Z h' a "java/lang/String" → Fld Z h' a "java/lang/String" "coder" "B" (.int 0) → Fld Z h' a "java/lang/String" "value" "[B" (.ref b) → Arv Z h' b k .byte z vs (.int 0) → (∀ x ∈ sf, x ≠ a ∧ x ≠ b) → Go (some EL) l Z n0 R bytes ml ret own mn Ψ (cells + 2) (slots + (n + 4)) sf h' pc' L (.ref a :: S)) :
    Go (some EL) l Z n0 R bytes ml ret own mn Ψ cells slots sf h pc L S := by
  subst hp
  intro p e s m args below meth c vm0 T locs hx hby hml hr hlk hnm ho X eT hZ B N
  obtain ⟨b0, ⟨k0, b1, b2⟩, ⟨a1, b3⟩, b4, b5⟩ := B
  have hown : vm0.findClass own = some m.cls := by rw [hZ.alike.findClass]; exact ho
  obtain ⟨a, T', h', k1, b, k, X', e', E, hS, hk1, hZ', hown', x1, x2, x3, x4, x5, x6, C, -, hsf, st⟩ := ldcCH X hx hZ hown w wS eT b1 b2 b3 hmem b4.1 ht hz hl (g := mkF m pc L S) rfl (hb hby hd) hn hbig hc hl'
  obtain ⟨s₂, o, h1, r⟩ := G h' a b k E x1 x2 x3 x4 (fun x hx => hsf x (C.safe (b5 x hx).1 (b5 x hx).2)) p e s m args below meth c T'.vm T' locs hx hby hml hr hlk hnm ho X' e' hZ' ⟨b0.ext E, ⟨k1, hS, hk1⟩, ⟨a1, b3⟩, b4.trans C, fun x hx => ⟨Nat.lt_of_lt_of_le (b5 x hx).1 C.2.1, C.safe (b5 x hx).1 (b5 x hx).2⟩⟩ N
  exact ⟨s₂, o, st _ h1, r⟩
theorem ofNat_toInt {n : Nat} (q : n < 2147483648) : (Int32.ofNat n).toInt = (n : Int) := Int32.toInt_ofNat_of_lt (by omega)
theorem Ary.arv {a : Addr} {ty : FieldType} {vs : List Value} (A : Ary Z h a ty vs) (d : Value) : ∃ k, Arv Z h a k ty (Int32.ofNat vs.length) vs d := by
  obtain ⟨c, A, e1, e2, e3⟩ := A
  obtain ⟨q1, q2⟩ := clamp_of (ofNat_toInt e2)
  subst e1
  refine ⟨c.cls, c, A, rfl, by rw [q2]; simp, q1, fun k hk => ?_, fun i hi => ?_⟩
  · simp [List.getD, hk]
  · have : c.slots.toList.getD i d = c.slots[i] := by simp [List.getD, hi]
    rw [this]; exact e3 _ (by simp)
theorem Ary.ofArv {a : Addr} {ty : FieldType} {vs : List Value} {k : ClassId} {z : Int32} {d : Value} (A : Arv Z h a k ty z vs d) (hl : z.toNatClampNeg = vs.length) (hb31 : vs.length < 2147483648) : Ary Z h a ty vs := by
  obtain ⟨c, A, -, e2, -, e4, e5⟩ := A
  have hs : c.slots.size = vs.length := e2.trans hl
  have e1 : c.slots.toList = vs := by
    refine List.ext_getElem? fun i => ?_
    by_cases hi : i < vs.length
    · have := e4 i (by omega)
      simp only [List.getD, List.getElem?_eq_getElem hi, Option.getD_some] at this
      rw [List.getElem?_eq_getElem hi, ← this]; simp
    · rw [List.getElem?_eq_none (by simpa using by omega), List.getElem?_eq_none (by omega)]
  refine ⟨c, A, e1, hb31, fun v hv => ?_⟩
  obtain ⟨i, hi, rfl⟩ := List.mem_iff_getElem.mp hv
  have := e5 i (by omega)
  simpa [List.getD, List.getElem?_eq_getElem hi] using this
theorem fld_int {args : Array Value} {s : State} {t : Term} {O n d : String} {v : Int32} {a : Addr} (hv : (Jvm.Cond.eq (Term.field t O n d) (Term.int v)).value args s none s [] = some true) (ev : t.eval args s none [] s = some (.ref a)) : Fld s s.heap a O n d (.int v) := by
  obtain ⟨x, y, e1, e2, k1, k2⟩ := cmp_v (Or.inl hv)
  cases (Term.int_eval v).symm.trans e2
  obtain ⟨z, rfl⟩ := k2
  have := gotT (Cond.eq_ints e1 (Term.int_eval v)) hv
  subst this
  exact Fld.start ((fld_at ev).symm.trans e1)
theorem no_sub {C O K : String} {k : Nat} (w : (Jvm.Cond.superclass C O).before a0 Z = true) (w0 : (Jvm.Cond.noSuperclass O).before a0 Z = true) (wi : (Jvm.Cond.instantiable K k).before a0 Z = true) (hn : C ≠ K) (hn2 : O ≠ K) : ∃ c t, Z.vm.findClass C = some c ∧ Z.vm.findClass K = some t ∧ Z.vm.assignable c t = false := by
  obtain ⟨c, h0⟩ := found_sup w
  obtain ⟨p, kc, kp, h1, h2, h3, h4, h5, -, h7⟩ := Cond.superclass_spec h0 w
  obtain ⟨c', k', g1, g2, g3, -, -⟩ := Cond.noSuperclass_spec w0
  cases h1.symm.trans g1
  obtain ⟨t, kt, i1, i2, i3, i4, -⟩ := Cond.instantiable_spec wi
  have ne1 := ids_ne h0 i1 hn
  have ne2 := ids_ne g1 i1 hn2
  have i5 : kt.isInterface = false := by simp only [Bool.or_eq_false_iff] at i4; exact i4.1
  refine ⟨c, t, h0, i1, ?_⟩
  show Z.vm.assignableAux (255 + 1) c t = false
  have j1 : ∀ f, Z.vm.isSubclassAux f p t = false := fun f => by cases f <;> simp [Vm.isSubclassAux, ne2, g2, g3]
  have j2 : ∀ f, Z.vm.isSubclassAux f c t = false := fun f => by cases f <;> simp [Vm.isSubclassAux, ne1, h2, h4, j1]
  simp [Vm.assignableAux, ne1, h2, i2, h5, i3, i5, Vm.isSubclass, j2]
theorem range_take {vs : List Value} {i n : Nat} {dv : Value} (q : i + n ≤ vs.length) : (List.range n).map (fun k => vs.getD (i + k) dv) = (vs.drop i).take n := by
  refine List.ext_getElem (by simp; omega) fun k h1 h2 => ?_
  have hk : i + k < vs.length := by simp at h1; omega
  simp [List.getD, List.getElem?_eq_getElem hk]
/-- System.arraycopy between two arrays of one primitive kind -/
theorem Go.acopy {index : Nat} {a b : Addr} {ty : FieldType} {vs vd : List Value} {sp dp nn : Int32} {W : Nat} (i j n : Nat) (pc' : Nat) (hd : decode bytes pc = .ok (.invokestatic index, 3)) (hp : pc + 3 = pc') (w1 : (Jvm.Cond.methodLink own index Jvm.Stand.acN).before a0 Z = true) (w2 : (Jvm.Cond.native Jvm.Stand.acN).before a0 Z = true) (w3 : (Jvm.Cond.static Jvm.Stand.acN).before a0 Z = true) (w4 : (Jvm.Cond.initialized "java/lang/System").before a0 Z = true)
    (A : Ary Z h a ty vs) (B : Ary Z h b ty vd) (hty : refKind ty = false) (hi : sp.toInt = (i : Int)) (hj : dp.toInt = (j : Int)) (hn : nn.toInt = (n : Int)) (h4 : i + n ≤ vs.length) (h5 : j + n ≤ vd.length) (hb' : b ∈ sf) (hn0 : n0 ≤ b) (hsz : L.size = ml) (hf : 1 ≤ R.frames) (hW : (S.map fun v => v.category).sum ≤ W) (hlo : W + (nativeFrameWords "java/lang/System" "arraycopy" 5 + 11) ≤ R.locals)
    (G : ∀ h', Keep h h' [b] → Ary Z h' b ty (vd.take j ++ (vs.drop i).take n ++ vd.drop (j + n)) → Go md l Z n0 R bytes ml ret own mn Ψ cells slots sf h' pc' L S) : Go md l Z n0 R bytes ml ret own mn Ψ cells slots sf h pc L (.int nn :: .int dp :: .ref b :: .int sp :: .ref a :: S) := by
  subst hp
  intro p e s m args below meth c vm0 T locs hx hby hml hr hlk hnm ho X eT hZ B0 N
  obtain ⟨i1, i2⟩ := clamp_of hi
  obtain ⟨j1, j2⟩ := clamp_of hj
  obtain ⟨n1, n2⟩ := clamp_of hn
  have la : vs.length < 2147483648 := by obtain ⟨_, _, _, q, _⟩ := A; exact q
  have lb : vd.length < 2147483648 := by obtain ⟨_, _, _, q, _⟩ := B; exact q
  obtain ⟨ka, KA⟩ := A.arv (.int 0)
  obtain ⟨kb, KB⟩ := B.arv (.int 0)
  have za := (clamp_of (ofNat_toInt la)).2
  have zb := (clamp_of (ofNat_toInt lb)).2
  obtain ⟨T', h', L', X', e', N', K, B', st⟩ := cpA X hx hZ (by rw [show (s.setVm vm0).vm = vm0 from rfl, hZ.alike.findClass]; exact ho) w1 w2 w3 w4 eT (us := (vs.drop i).take n) KA KB (Or.inl ⟨rfl, hty⟩) i1 j1 n1 (by rw [i2, n2, za]; exact h4) (by rw [j2, n2, zb]; exact h5) (by rw [i2, n2]; exact (range_take h4).symm) (by rw [j2, n2]; exact h5) N hn0 (g := mkF m pc L (.int nn :: .int dp :: .ref b :: .int sp :: .ref a :: S)) rfl (hsz.trans hml.symm) rfl (hb hby hd) hf (W := W) (by simpa using hW) hlo
  rw [j2, n2] at B'
  have lz : (vd.take j ++ (vs.drop i).take n ++ vd.drop (j + n)).length = vd.length := by simp; omega
  obtain ⟨s₂, o, h1, r⟩ := G h' K (Ary.ofArv B' (by rw [zb, lz]) (by rw [lz]; exact lb)) p e s m args below meth c vm0 T' L' hx hby hml hr hlk hnm ho X' e' hZ (B0.keep K (sub1 hb') (fun y hy => by cases List.mem_singleton.mp hy; exact hn0)) N'
  exact ⟨s₂, o, st _ h1, r⟩
/-- one place of an array known -/
def At1 (Z : State) (h : Heap) (a : Addr) (ty : FieldType) (i : Nat) (v : Value) : Prop := ∃ c : Cell, Arr Z h a c ty ∧ c.slots[i]? = some v
theorem At1.ext {a : Addr} {ty : FieldType} {i : Nat} {v : Value} (A : At1 Z h a ty i v) (E : Ext h h') : At1 Z h' a ty i v := by obtain ⟨c, A, r⟩ := A; exact ⟨c, A.ext E, r⟩
theorem Go.laload1 {a : Addr} {j : Int32} (i : Nat) {v : Value} (pc' : Nat) (hd : decode bytes pc = .ok (.laload, 1)) (hp : pc + 1 = pc') (A : At1 Z h a .long i v) (hj : j.toInt = (i : Int)) (G : Go md l Z n0 R bytes ml ret own mn Ψ cells slots sf h pc' L (v :: S)) :
    Go md l Z n0 R bytes ml ret own mn Ψ cells slots sf h pc L (.int j :: .ref a :: S) := by
  subst hp
  obtain ⟨c0, A, e1⟩ := A
  obtain ⟨q1, q2⟩ := clamp_of hj
  have hi := (Array.getElem?_eq_some_iff.mp e1).1
  exact Go.warm _ (fun p e s m args below meth c T locs hx hby hml hZ hown X eT => ⟨T, X, eT, fun target k => X.laload hx (by rw [eT]; exact A.1) (State.isArrayOf_alike hZ.alike A.2.1) A.2.2 (by rw [q2]; rintro (z | z); exact q1 z; omega) (by rw [q2]; exact e1) (g := mkF m pc L (.int j :: .ref a :: S)) rfl rfl (hb hby hd) target k⟩) G
/-! arrays of references, longs stored, switches -/
/-- the array at a is one over the class C -/
def Ova (Z : State) (h : Heap) (a : Addr) (C : String) : Prop := ∃ c : Cell, h[a]? = some c ∧ Ovr Z c.cls C
theorem Ova.ext {a : Addr} {C : String} (O : Ova Z h a C) (E : Ext h h') : Ova Z h' a C := by obtain ⟨c, q, r⟩ := O; exact ⟨c, E.2 _ _ q, r⟩
theorem Ova.wr {a b : Addr} {C : String} {sl : Nat} {v : Value} (O : Ova Z h a C) (W : Wr h h' b sl v) : Ova Z h' a C := by
  obtain ⟨c, q, r⟩ := O
  obtain ⟨c', e1, e2, -⟩ := wr_at W q
  exact ⟨c', e1, by rw [e2]; exact r⟩
theorem Ova.keep {a : Addr} {C : String} {ws : List Addr} (O : Ova Z h a C) (K : Keep h h' ws) : Ova Z h' a C := by
  obtain ⟨c, q, r⟩ := O
  obtain ⟨c', e1, e2, -⟩ := K.2.2 a c q
  exact ⟨c', e1, by rw [e2]; exact r⟩
theorem sto_of {a y : Addr} {ty : FieldType} {C : String} {vs : List Value} (A : Ary Z h a ty vs) (O : Ova Z h a C) (I : Ins Z h y C true) : Sto Z h a (.ref y) := by
  obtain ⟨c, A, -⟩ := A
  obtain ⟨c', q, r⟩ := O
  cases A.1.symm.trans q
  exact Sto.of A r I
theorem Go.newR {C : String} {index : Nat} {n : Int32} (k : Nat) (pc' : Nat) (hd : decode bytes pc = .ok (.anewarray index, 3)) (hp : pc + 3 = pc') (w1 : (Jvm.Cond.classLink own index C).before a0 Z = true) (w2 : (Jvm.Cond.arrayOver (.object C)).before a0 Z = true) (hk : n.toInt = (k : Int)) (cap : Nat) (hcap : k ≤ cap) (hb8 : cap * 8 ≤ 536870912) (hc : cells + 1 ≤ R.cells) (hl : slots + cap ≤ R.slots)
    (G : ∀ h' x, h.size = x → n0 ≤ x → Ext h h' → x < h'.size → Ary Z h' x (.object C) (List.replicate k .null) → Ova Z h' x C → Go md l Z n0 R bytes ml ret own mn Ψ (cells + 1) (slots + cap) (x :: sf) h' pc' L (.ref x :: S)) :
    Go md l Z n0 R bytes ml ret own mn Ψ cells slots sf h pc L (.int n :: S) := by
  subst hp
  obtain ⟨q1, q2⟩ := clamp_of hk
  intro p e s m args below meth c vm0 T locs hx hby hml hr hlk hn ho X eT hZ B N
  obtain ⟨T', h', cA, X', e', E, A, O, st⟩ := Jvm.RoadKit.newR X hx hZ (by rw [show (s.setVm vm0).vm = vm0 from rfl, hZ.alike.findClass]; exact ho) w1 w2 eT (g := mkF m pc L (.int n :: S)) rfl (hb hby hd) rfl q1 (cap := cap) (by rw [q2]; exact hcap) hb8 hc hl
  have A' : Ary Z h' h.size (.object C) (List.replicate k .null) := ⟨_, A, by simp [Jvm.RoadKit.newA, q2, defaultValue], by simp; omega, fun v hv => by
    rw [(List.mem_replicate.mp hv).2]; rfl⟩
  obtain ⟨s₂, o, h1, r⟩ := G h' _ rfl B.n0le E A'.lt A' ⟨_, A.1, O⟩ p e s m args below meth c vm0 T' locs hx hby hml hr hlk hn ho X' e' hZ (B.new E A'.lt (Nat.le_refl _)) N
  exact ⟨s₂, o, st _ h1, r⟩
theorem Go.aastore {a : Addr} {C : String} {vs : List Value} {j : Int32} {v : Value} (i : Nat) (pc' : Nat) (hd : decode bytes pc = .ok (.aastore, 1)) (hp : pc + 1 = pc') (A : Ary Z h a (.object C) vs) (hj : j.toInt = (i : Int)) (hi : i < vs.length) (F : Sto Z h a v) (hf : fits (.object C) v = true) (ha : a ∈ sf) (hn0 : n0 ≤ a)
    (G : ∀ h', Wr h h' a i v → Ary Z h' a (.object C) (vs.set i v) → Go md l Z n0 R bytes ml ret own mn Ψ cells slots sf h' pc' L S) : Go md l Z n0 R bytes ml ret own mn Ψ cells slots sf h pc L (v :: .int j :: .ref a :: S) := by
  subst hp
  obtain ⟨c0, A0, e1, e2, e3⟩ := A
  obtain ⟨-, q2⟩ := clamp_of hj
  exact Go.write _ ha hn0 (sl := i) (fun p e s m args below meth c T locs hx hby hml hnm hZ hown X eT => by rw [← q2]; exact stR X hx hZ eT A0 (Ary.inb (a := a) (ty := .object C) e1 hj hi) rfl F (g := mkF m pc L (v :: .int j :: .ref a :: S)) rfl rfl (hb hby hd)) (fun h' W => G h' W (Ary.set W ⟨c0, A0, e1, e2, e3⟩ hf))
theorem Go.lastore {a : Addr} {vs : List Value} {j : Int32} {x : Int64} (i : Nat) (pc' : Nat) (hd : decode bytes pc = .ok (.lastore, 1)) (hp : pc + 1 = pc') (A : Ary Z h a .long vs) (hj : j.toInt = (i : Int)) (hi : i < vs.length) (ha : a ∈ sf) (hn0 : n0 ≤ a)
    (G : ∀ h', Wr h h' a i (.long x) → Ary Z h' a .long (vs.set i (.long x)) → Go md l Z n0 R bytes ml ret own mn Ψ cells slots sf h' pc' L S) : Go md l Z n0 R bytes ml ret own mn Ψ cells slots sf h pc L (.long x :: .int j :: .ref a :: S) := by
  subst hp
  obtain ⟨c0, A0, e1, e2, e3⟩ := A
  obtain ⟨-, q2⟩ := clamp_of hj
  exact Go.write _ ha hn0 (sl := i) (fun p e s m args below meth c T locs hx hby hml hnm hZ hown X eT => by rw [← q2]; exact stJ X hx hZ eT A0 (Ary.inb (a := a) (ty := .long) e1 hj hi) (g := mkF m pc L (.long x :: .int j :: .ref a :: S)) rfl rfl (hb hby hd)) (fun h' W => G h' W (Ary.set W ⟨c0, A0, e1, e2, e3⟩ rfl))
theorem Go.dup2 {v w : Value} (pc' : Nat) (hd : decode bytes pc = .ok (.dup2, 1)) (hp : pc + 1 = pc') (hv : v.category = 1) (hw : w.category = 1) (G : Go md l Z n0 R bytes ml ret own mn Ψ cells slots sf h pc' L (v :: w :: v :: w :: S)) : Go md l Z n0 R bytes ml ret own mn Ψ cells slots sf h pc L (v :: w :: S) := by
  subst hp; exact Go.pure _ (fun p e below T target m c A hx hby k => Jvm.Free.XT.dup2 A hx rfl (hb hby hd) rfl hv hw k) G
theorem Go.lswY {k : Int32} {default : Int} {pairs : Array (Int × Int)} {len : Nat} {b off : Int} (pc' : Nat) (hd : decode bytes pc = .ok (.lookupswitch default pairs, len)) (hs : (pairs.toList.zip (pairs.toList.drop 1)).all (fun (a, next) => a.1 < next.1) = true) (hf : pairs.find? (·.1 == k.toInt) = some (b, off)) (h0 : 0 ≤ (pc : Int) + off) (hp : ((pc : Int) + off).toNat = pc')
    (G : Go md l Z n0 R bytes ml ret own mn Ψ cells slots sf h pc' L S) : Go md l Z n0 R bytes ml ret own mn Ψ cells slots sf h pc L (.int k :: S) := by
  subst hp
  exact Go.warm _ (fun p e s m args below meth c T locs hx hby hml hZ hown X eT => ⟨T, X, eT, fun target q => X.lookupswitchHit hx (g := mkF m pc L (.int k :: S)) rfl rfl (hb hby hd) hs hf h0 target q⟩) G
theorem Go.lswN {k : Int32} {default : Int} {pairs : Array (Int × Int)} {len : Nat} (pc' : Nat) (hd : decode bytes pc = .ok (.lookupswitch default pairs, len)) (hs : (pairs.toList.zip (pairs.toList.drop 1)).all (fun (a, next) => a.1 < next.1) = true) (hf : pairs.find? (·.1 == k.toInt) = none) (h0 : 0 ≤ (pc : Int) + default) (hp : ((pc : Int) + default).toNat = pc')
    (G : Go md l Z n0 R bytes ml ret own mn Ψ cells slots sf h pc' L S) : Go md l Z n0 R bytes ml ret own mn Ψ cells slots sf h pc L (.int k :: S) := by
  subst hp
  exact Go.warm _ (fun p e s m args below meth c T locs hx hby hml hZ hown X eT => ⟨T, X, eT, fun target q => X.lookupswitchMiss hx (g := mkF m pc L (.int k :: S)) rfl rfl (hb hby hd) hs hf h0 target q⟩) G
theorem Go.tswY {k : Int32} {default low high : Int} {offs : Array Int} {len : Nat} {off : Int} (pc' : Nat) (hd : decode bytes pc = .ok (.tableswitch default low high offs, len)) (hi : ¬ (k.toInt < low ∨ k.toInt > high)) (hf : offs[(k.toInt - low).toNat]? = some off) (h0 : 0 ≤ (pc : Int) + off) (hp : ((pc : Int) + off).toNat = pc')
    (G : Go md l Z n0 R bytes ml ret own mn Ψ cells slots sf h pc' L S) : Go md l Z n0 R bytes ml ret own mn Ψ cells slots sf h pc L (.int k :: S) := by
  subst hp
  exact Go.warm _ (fun p e s m args below meth c T locs hx hby hml hZ hown X eT => ⟨T, X, eT, fun target q => X.tableswitchIn hx (g := mkF m pc L (.int k :: S)) rfl rfl (hb hby hd) hi hf h0 target q⟩) G
theorem Go.getFN {R0 O n d host : String} {index : Nat} {a : Addr} {v : Value} (pc' : Nat) (hd : decode bytes pc = .ok (.getfield index, 3)) (hp : pc + 3 = pc') (w : (Jvm.Cond.fieldLinkNest own index R0 n d host).before a0 Z = true) (via : Via Z R0 O n d) (F : Fld Z h a O n d v) (G : Go md l Z n0 R bytes ml ret own mn Ψ cells slots sf h pc' L (v :: S)) :
    Go md l Z n0 R bytes ml ret own mn Ψ cells slots sf h pc L (.ref a :: S) := by
  subst hp; exact Go.warm _ (fun p e s m args below meth c T locs hx hby hml hZ hown X eT => Jvm.RoadKit.getF X hx hZ hown (Or.inr w) via eT F (g := mkF m pc L (.ref a :: S)) rfl rfl (hb hby hd)) G
/-- without String constants every address may be written that is new -/
theorem Go.sfN (sf' : List Addr) (G : Go none l Z n0 R bytes ml ret own mn Ψ cells slots sf' h pc L S) : Go none l Z n0 R bytes ml ret own mn Ψ cells slots sf h pc L S := by
  intro p e s m args below meth c vm0 T locs hx hby hml hr hlk hn ho X eT hZ B N
  exact G p e s m args below meth c vm0 T locs hx hby hml hr hlk hn ho X eT hZ B N
theorem Go.callP {y : MethodName} {index maxY kc ks W : Nat} {bytesY : ByteArray} {retY : Option FieldType} {C : String} {sfc : List Addr} {Q : Option Value → Heap → List Addr → Prop} {St : List Value} {a : Addr} (pc' : Nat) (argsL : List Value) (hd : decode bytes pc = .ok (.invokevirtual index, 3)) (hp : pc + 3 = pc') (hst : St = argsL.reverse ++ .ref a :: S)
    (wl : (Jvm.Cond.methodLink own index y).before a0 Z = true) (ws : (Jvm.Cond.instanceMethod y).before a0 Z = true) (wse : (Jvm.Cond.selects y.cls y y).before a0 Z = true) (wp : (Jvm.Cond.privateMethod y).before a0 Z = true) (wc : (Jvm.Cond.code y bytesY maxY retY).before a0 Z = true) (hy : y.cls ≠ "java/lang/invoke/MethodHandle" ∧ y.cls ≠ "java/lang/invoke/VarHandle")
    (E : Exa Z h a C) (hC : Call md l Z n0 R y 3 W (.ref a :: argsL).toArray h sfc kc ks Q) (hlen : ∀ sig, parseMethodDescriptor y.desc = some sig → argsL.length = sig.parameters.length) (hW : (S.map fun v => v.category).sum ≤ W) (hsz : L.size = ml) (hc : cells + kc ≤ R.cells) (hs : slots + ks ≤ R.slots) (hsf : ∀ x ∈ sfc, x ∈ sf)
    (G : ∀ v h' sf', Q v h' sf' → Go md l Z n0 R bytes ml ret own mn Ψ (cells + kc) (slots + ks) (sf' ++ sf) h' pc' L (v.toList ++ S)) : Go md l Z n0 R bytes ml ret own mn Ψ cells slots sf h pc L St := by
  subst hp; subst hst
  intro p e s m args below meth c vm0 T locs hx hby hml hr hlk hn ho X eT hZ B N
  have hown : (s.setVm vm0).vm.findClass own = some m.cls := by rw [show (s.setVm vm0).vm = vm0 from rfl, hZ.alike.findClass]; exact ho
  have K := hC p e below s vm0 args hZ (B.sub hsf)
  obtain ⟨cell, g1, g2⟩ := E.cell
  have g1' : T.heap[a]? = some cell := by rw [eT]; exact g1
  cases md with
  | none =>
    obtain ⟨v, vm₁, ⟨U, L1, c1, n1⟩, -, X', ⟨L', sf', q1, q0, q2, q3, q4, q5⟩, st⟩ := X.privateBack hx hown (mvT hZ wl) (mvT hZ ws) (mvT hZ wse) (Cond.privateMethod_at (mvP (args := args) (s := s.setVm vm0) hZ wp)) (mvT hZ wc) hy K (g := mkF m pc L (argsL.reverse ++ .ref a :: S)) rfl (hsz.trans hml.symm) (Steps.refl _) g1' g2 hlen rfl (by simpa using hW) (hb hby hd) (fun _ _ => ⟨rfl, eT, hc, hs⟩)
    dsimp only [Pt.U, Pt.locs, Pt.cells, Pt.slots] at q1 q0 q3 q4 q5 X' st
    subst q3 q4 q5
    obtain ⟨s₂, o, h1, r⟩ := G v U.heap sf' q1 p e s m args below meth c vm0 U _ hx hby hml hr hlk hn ho X' rfl hZ ⟨q0, B.2⟩ (N.app q2)
    exact ⟨s₂, o, st.trans h1, r⟩
  | some EL =>
    obtain ⟨v, vm₁, ⟨U, L1, c1, n1⟩, -, X', hS, hgr, ⟨L', sf', q1, q0, q2, q3, q4, q5, q6, q7⟩, st⟩ := X.privateBackS hx hown (mvT hZ wl) (mvT hZ ws) (mvT hZ wse) (Cond.privateMethod_at (mvP (args := args) (s := s.setVm vm0) hZ wp)) (mvT hZ wc) hy K (g := mkF m pc L (argsL.reverse ++ .ref a :: S)) rfl (hsz.trans hml.symm) (Steps.refl _) g1' g2 hlen rfl (by simpa using hW) (hb hby hd) (fun _ _ => ⟨rfl, eT, hc, hs⟩)
    dsimp only [Pt.U, Pt.locs, Pt.cells, Pt.slots] at q1 q0 q3 q4 q5 q6 q7 X' st hS hgr
    subst q3 q4 q5
    obtain ⟨s₂, o, h1, r⟩ := G v U.heap sf' q1 p e s m args below meth c U.vm U _ hx hby hml hr hlk hn ho X' rfl (State.Warmed39.trans (t := s.setVm vm0) hZ hS.1) (B.called hS q0 q6 q7) (N.app q2)
    exact ⟨s₂, o, st.trans h1, r⟩
theorem Go.ldcWI {index : Nat} {v : Int32} (pc' : Nat) (hd : decode bytes pc = .ok (.ldc_w index, 3)) (hp : pc + 3 = pc') (w : (Jvm.Cond.constant own index v).before a0 Z = true) (G : Go md l Z n0 R bytes ml ret own mn Ψ cells slots sf h pc' L (.int v :: S)) : Go md l Z n0 R bytes ml ret own mn Ψ cells slots sf h pc L S := by
  subst hp; exact Go.warm _ (fun p e s m args below meth c T locs hx hby hml hZ hown X eT => ⟨T, X, eT, fun target k => X.ldcWI (g := mkF m pc L S) hx hown (mvT hZ w) rfl (hb hby hd) k⟩) G
/-- ldc of a String constant of which nothing is asked -/
theorem Go.ldcO {EL : List (String × Nat)} {index : Nat} {text : String} (n : Nat) (pc' : Nat) (hd : decode bytes pc = .ok (.ldc index, 2)) (hp : pc + 2 = pc') (w : (Jvm.Cond.stringLink own index text).before a0 Z = true) (wS : ∀ a ∈ Bundle.stringAtoms, a.before a0 Z = true) (hn : 4 * text.toList.length ≤ n) (hbig : n ≤ 536870912) (hc : cells + 2 ≤ R.cells) (hl' : slots + (n + 4) ≤ R.slots)
    (G : ∀ h' a, Ext h h' → Go (some EL) l Z n0 R bytes ml ret own mn Ψ (cells + 2) (slots + (n + 4)) sf h' pc' L (.ref a :: S)) : Go (some EL) l Z n0 R bytes ml ret own mn Ψ cells slots sf h pc L S := by
  subst hp
  intro p e s m args below meth c vm0 T locs hx hby hml hr hlk hnm ho X eT hZ B N
  obtain ⟨b0, ⟨k0, b1, b2⟩, ⟨a1, b3⟩, b4, b5⟩ := B
  have hown : vm0.findClass own = some m.cls := by rw [hZ.alike.findClass]; exact ho
  obtain ⟨a, T', h', k1, X', e', E, hS, hk1, hZ', hown', C, -, st⟩ := ldcOH X hx hZ hown w wS eT b1 b2 b3 b4.1 (g := mkF m pc L S) rfl (hb hby hd) hn hbig hc hl'
  obtain ⟨s₂, o, h1, r⟩ := G h' a E p e s m args below meth c T'.vm T' locs hx hby hml hr hlk hnm ho X' e' hZ' ⟨b0.ext E, ⟨k1, hS, hk1⟩, ⟨a1, b3⟩, b4.trans C, fun x hx => ⟨Nat.lt_of_lt_of_le (b5 x hx).1 C.2.1, C.safe (b5 x hx).1 (b5 x hx).2⟩⟩ N
  exact ⟨s₂, o, st _ h1, r⟩
/-- newarray: the array's class by its name too -/
theorem Go.newE {aty : ArrayType} {n : Int32} {ty : FieldType} {C : String} (k : Nat) (pc' : Nat) (hd : decode bytes pc = .ok (.newarray aty, 2)) (hp : pc + 2 = pc') (hty : newarray.typeOf aty = ty) (hC : "[" ++ ty.toString = C) (w : (Jvm.Cond.arrayClass ty).before a0 Z = true) (hk : n.toInt = (k : Int)) (cap : Nat) (hcap : k ≤ cap) (hb8 : cap * 8 ≤ 536870912) (hc : cells + 1 ≤ R.cells) (hl : slots + cap ≤ R.slots)
    (G : ∀ h' x, h.size = x → n0 ≤ x → Ext h h' → x < h'.size → Ary Z h' x ty (List.replicate k (defaultValue ty)) → Exa Z h' x C → Go md l Z n0 R bytes ml ret own mn Ψ (cells + 1) (slots + cap) (x :: sf) h' pc' L (.ref x :: S)) :
    Go md l Z n0 R bytes ml ret own mn Ψ cells slots sf h pc L (.int n :: S) := by
  subst hp; subst hty; subst hC
  obtain ⟨q1, q2⟩ := clamp_of hk
  intro p e s m args below meth c vm0 T locs hx hby hml hr hlk hn ho X eT hZ B N
  obtain ⟨T', h', cA, X', e', E, A, EX, st⟩ := newPE X hx hZ w eT (g := mkF m pc L (.int n :: S)) rfl (hb hby hd) rfl q1 (cap := cap) (by rw [q2]; exact hcap) hb8 hc hl rfl
  have A' : Ary Z h' h.size (newarray.typeOf aty) (List.replicate k (defaultValue (newarray.typeOf aty))) := ⟨_, A, by simp [Jvm.RoadKit.newA, q2], by simp; omega, fun v hv => by
    rw [(List.mem_replicate.mp hv).2]; cases aty <;> rfl⟩
  obtain ⟨s₂, o, h1, r⟩ := G h' _ rfl B.n0le E A'.lt A' EX p e s m args below meth c vm0 T' locs hx hby hml hr hlk hn ho X' e' hZ (B.new E A'.lt (Nat.le_refl _)) N
  exact ⟨s₂, o, st _ h1, r⟩
/-- a virtual call whose name stands under the entry's class by inheritance (W-mode) -/
theorem Go.callU {EL : List (String × Nat)} {y z : MethodName} {index kc ks W : Nat} {C owner : String} {sfc : List Addr} {Q : Option Value → Heap → List Addr → Prop} {St : List Value} {a : Addr} (pc' : Nat) (argsL : List Value) (hd : decode bytes pc = .ok (.invokevirtual index, 3)) (hp : pc + 3 = pc') (hst : St = argsL.reverse ++ .ref a :: S)
    (wl : (Jvm.Cond.methodLink own index y).before a0 Z = true) (wsm : (Jvm.Cond.sameMethod y.cls owner y.name y.desc).before a0 Z = true) (wd : (Jvm.Cond.declares ⟨owner, y.name, y.desc⟩).before a0 Z = true) (wse : (Jvm.Cond.selects C y z).before a0 Z = true) (ws : (Jvm.Cond.instanceMethod z).before a0 Z = true) (hy : owner ≠ "java/lang/invoke/MethodHandle" ∧ owner ≠ "java/lang/invoke/VarHandle")
    (E : Exa Z h a C) (hC : Call (some EL) l Z n0 R z 3 W (.ref a :: argsL).toArray h sfc kc ks Q) (hlen : ∀ sig, parseMethodDescriptor y.desc = some sig → argsL.length = sig.parameters.length) (hW : (S.map fun v => v.category).sum ≤ W) (hsz : L.size = ml) (hc : cells + kc ≤ R.cells) (hs : slots + ks ≤ R.slots) (hsf : ∀ x ∈ sfc, x ∈ sf)
    (G : ∀ v h' sf', Q v h' sf' → Go (some EL) l Z n0 R bytes ml ret own mn Ψ (cells + kc) (slots + ks) (sf' ++ sf) h' pc' L (v.toList ++ S)) : Go (some EL) l Z n0 R bytes ml ret own mn Ψ cells slots sf h pc L St := by
  subst hp; subst hst
  intro p e s m args below meth c vm0 T locs hx hby hml hr hlk hn ho X eT hZ B N
  have hown : (s.setVm vm0).vm.findClass own = some m.cls := by rw [show (s.setVm vm0).vm = vm0 from rfl, hZ.alike.findClass]; exact ho
  have K := hC p e below s vm0 args hZ (B.sub hsf)
  obtain ⟨cB, kB, i1, -, i3⟩ := isOf (s := s.setVm vm0) hZ eT E
  obtain ⟨v, vm₁, ⟨U, L1, c1, n1⟩, -, X', hS, hgr, ⟨L', sf', q1, q0, q2, q3, q4, q5, q6, q7⟩, st⟩ := X.virtualBackUpS hx hown (mvT hZ wl) (mvT hZ wsm) (mvT hZ wd) hy (mvT hZ wse) (mvT hZ ws) K i1 i3 (g := mkF m pc L (argsL.reverse ++ .ref a :: S)) rfl (hsz.trans hml.symm) (Steps.refl _) hlen rfl (by simpa using hW) (hb hby hd) (fun _ _ => ⟨rfl, eT, hc, hs⟩)
  dsimp only [Pt.U, Pt.locs, Pt.cells, Pt.slots] at q1 q0 q3 q4 q5 q6 q7 X' st hS hgr
  subst q3 q4 q5
  obtain ⟨s₂, o, h1, r⟩ := G v U.heap sf' q1 p e s m args below meth c U.vm U _ hx hby hml hr hlk hn ho X' rfl (State.Warmed39.trans (t := s.setVm vm0) hZ hS.1) (B.called hS q0 q6 q7) (N.app q2)
  exact ⟨s₂, o, st.trans h1, r⟩
theorem Go.aaload1 {a : Addr} {j : Int32} {ty : FieldType} (i : Nat) {v : Value} (pc' : Nat) (hd : decode bytes pc = .ok (.aaload, 1)) (hp : pc + 1 = pc') (hty : ty.isReference = true) (A : At1 Z h a ty i v) (hj : j.toInt = (i : Int)) (G : Go md l Z n0 R bytes ml ret own mn Ψ cells slots sf h pc' L (v :: S)) :
    Go md l Z n0 R bytes ml ret own mn Ψ cells slots sf h pc L (.int j :: .ref a :: S) := by
  subst hp
  obtain ⟨c0, A, e1⟩ := A
  obtain ⟨q1, q2⟩ := clamp_of hj
  have hi := (Array.getElem?_eq_some_iff.mp e1).1
  exact Go.warm _ (fun p e s m args below meth c T locs hx hby hml hZ hown X eT => ⟨T, X, eT, fun target k => X.aaload hx (by rw [eT]; exact A.1) (State.isArrayOf_alike hZ.alike A.2.1) hty A.2.2 (by rw [q2]; rintro (z | z); exact q1 z; omega) (by rw [q2]; exact e1) (g := mkF m pc L (.int j :: .ref a :: S)) rfl rfl (hb hby hd) target k⟩) G
end G
end GK
end Jvm.Pilot.@@N@@
namespace Jvm.Pilot.@@N@@
namespace GK
open Jvm Jvm.ClassFile Sem Op Lib Jvm.Free Jvm.Stand Jvm.LawKit Jvm.RoadKit Bundle
section Strs
variable {md : Md} {l : Launch} {Z : State} {n0 : Nat} {R : Room} {h h' : Heap} {sf : List Addr} {a0 : Array Value} {x b : Addr} {cs ds : List Int32}
abbrev ST : String := "java/lang/String"
def Lat (cs : List Int32) : Prop := ∀ c ∈ cs, ¬ c < 0 ∧ ¬ (255 : Int32) < c
/-- x is a Latin-1 String of these chars -/
def Str (Z : State) (h : Heap) (x : Addr) (cs : List Int32) : Prop := ∃ t : Addr, Exa Z h x ST ∧ Fld Z h x ST "coder" "B" (.int 0) ∧ Fld Z h x ST "value" "[B" (.ref t) ∧ Ary Z h t .byte ((cs.map fun c => c.toInt8.toInt32).map Value.int) ∧ Lat cs
theorem Str.ext (S : Str Z h x cs) (E : Ext h h') : Str Z h' x cs := by obtain ⟨t, s1, s2, s3, s4, s5⟩ := S; exact ⟨t, s1.ext E, s2.ext E, s3.ext E, s4.ext E, s5⟩
theorem Str.exa (S : Str Z h x cs) : Exa Z h x ST := by obtain ⟨t, s1, -⟩ := S; exact s1
theorem Str.lt (S : Str Z h x cs) : x < h.size := S.exa.lt
theorem Str.keepO {a : Addr} {C : String} {k : Nat} (S : Str Z h x cs) (E : Exa Z h a C) (hn : C ≠ ST) (wi : (Jvm.Cond.instantiable C k).before a0 Z = true) (K : Keep h h' [a]) : Str Z h' x cs := by
  obtain ⟨t, s1, s2, s3, s4, s5⟩ := S
  have n1 : x ≠ a := Ne.symm (ne_exa E s1 hn)
  have n2 : t ≠ a := by obtain ⟨c, A, -⟩ := s4; exact Ne.symm (ne_arr E wi A)
  exact ⟨t, s1.keep K, s2.keep K (ninS n1 nin0), s3.keep K (ninS n1 nin0), Ary.keep K s4 (ninS n2 nin0), s5⟩
theorem toInt_lt {x y : Int32} : x < y ↔ x.toInt < y.toInt := Int32.lt_iff_toInt_lt
theorem lat_iff {c : Int32} : (¬ c < 0 ∧ ¬ (255 : Int32) < c) ↔ (0 ≤ c.toInt ∧ c.toInt ≤ 255) := by
  rw [toInt_lt, toInt_lt]
  have e1 : (0 : Int32).toInt = 0 := rfl
  have e2 : (255 : Int32).toInt = 255 := rfl
  omega
theorem chr_id {c : Int32} (q : 0 ≤ c.toInt ∧ c.toInt ≤ 65535) : chr c = c := Int32.toInt_inj.mp (by have := c_i2c c; show (c.toUInt32.toUInt16.toUInt32.toInt32).toInt = c.toInt; omega)
theorem chr_rng (x : Int32) : 0 ≤ (chr x).toInt ∧ (chr x).toInt ≤ 65535 := by have := c_i2c x; show 0 ≤ (x.toUInt32.toUInt16.toUInt32.toInt32).toInt ∧ (x.toUInt32.toUInt16.toUInt32.toInt32).toInt ≤ 65535; omega
theorem and255 (x : Int32) : 0 ≤ (x &&& (255 : Int32)).toInt ∧ (x &&& (255 : Int32)).toInt ≤ 255 := c_and x 255 (by decide)
theorem chr255 (x : Int32) : ¬ chr (x &&& (255 : Int32)) < 0 ∧ ¬ (255 : Int32) < chr (x &&& (255 : Int32)) := by
  have q := and255 x
  rw [chr_id (by omega)]; exact lat_iff.mpr q
theorem nar_chr (c : Int32) : nar .char c = chr c := rfl
theorem nar_c {c : Int32} (q : ¬ c < 0 ∧ ¬ (255 : Int32) < c) : nar .char c = c := by
  have := lat_iff.mp q
  rw [nar_chr, chr_id (by omega)]
theorem i8_idem (x : Int32) : x.toInt8.toInt32.toInt8.toInt32 = x.toInt8.toInt32 := Int32.toInt_inj.mp (by have h1 := c_i2b x; have h2 := c_i2b (x.toInt8.toInt32); omega)
theorem latN : Lat [] := fun c hc => nomatch hc
theorem latC {c : Int32} {cs : List Int32} (q : ¬ c < 0 ∧ ¬ (255 : Int32) < c) (r : Lat cs) : Lat (c :: cs) := fun y hy => (List.mem_cons.mp hy).elim (fun u => u ▸ q) (r y)
theorem lat1 {c : Int32} (q : ¬ c < 0 ∧ ¬ (255 : Int32) < c) : Lat [c] := latC q latN
theorem lat2 {c d : Int32} (q : ¬ c < 0 ∧ ¬ (255 : Int32) < c) (r : ¬ d < 0 ∧ ¬ (255 : Int32) < d) : Lat [c, d] := latC q (lat1 r)
end Strs
end GK
end Jvm.Pilot.@@N@@
namespace Jvm.Pilot.@@N@@
namespace GK
open Jvm Jvm.ClassFile Sem Op Lib Jvm.Free Jvm.Stand Jvm.LawKit Jvm.RoadKit Bundle
section Utfs
variable {Z : State} {h h' : Heap} {x : Addr} {cs : List Int32}
/-- a char's value -/
def CHP (c : Int32) : Prop := 0 ≤ c.toInt ∧ c.toInt ≤ 65535
theorem chp_chr (x : Int32) : CHP (chr x) := chr_rng x
theorem nar_cc {c : Int32} (q : CHP c) : nar .char c = c := by rw [nar_chr, chr_id q]
theorem chp0 {c : Int32} (q : CHP c) : ¬ c < 0 := fun z => by have := toInt_lt.mp z; have e : (0 : Int32).toInt = 0 := rfl; have := q.1; omega
def lo16 (c : Int32) : Int32 := (c >>> ((0 : Int32) &&& 31)).toInt8.toInt32
def hi16 (c : Int32) : Int32 := (c >>> ((8 : Int32) &&& 31)).toInt8.toInt32
def getc (x y : Int32) : Int32 := chr (((x &&& (255 : Int32)) <<< ((0 : Int32) &&& 31)) ||| ((y &&& (255 : Int32)) <<< ((8 : Int32) &&& 31)))
theorem rt16 {c : Int32} (q : CHP c) : getc (lo16 c) (hi16 c) = c := by
  refine Int32.toInt_inj.mp ?_
  have h0 : (c >>> ((0 : Int32) &&& 31)).toInt = c.toInt / (2 ^ 0 : Nat) := c_ishr c 0 0 (by decide)
  have h8 : (c >>> ((8 : Int32) &&& 31)).toInt = c.toInt / (2 ^ 8 : Nat) := c_ishr c 8 8 (by decide)
  have b0 := c_i2b (c >>> ((0 : Int32) &&& 31))
  have b8 := c_i2b (c >>> ((8 : Int32) &&& 31))
  have m0 : (lo16 c &&& (255 : Int32)).toInt = (lo16 c).toInt % (2 ^ 8 : Nat) := c_mask _ 255 8 (by decide) (by decide)
  have m8 : (hi16 c &&& (255 : Int32)).toInt = (hi16 c).toInt % (2 ^ 8 : Nat) := c_mask _ 255 8 (by decide) (by decide)
  have s0 := c_ishl (lo16 c &&& (255 : Int32)) 0 0 (by decide)
  have s8 := c_ishl (hi16 c &&& (255 : Int32)) 8 8 (by decide)
  have r0 := rng32 ((lo16 c &&& (255 : Int32)) <<< ((0 : Int32) &&& 31))
  have r8 := rng32 ((hi16 c &&& (255 : Int32)) <<< ((8 : Int32) &&& 31))
  have e0 : (lo16 c).toInt = ((c >>> ((0 : Int32) &&& 31)).toInt8.toInt32).toInt := rfl
  have e8 : (hi16 c).toInt = ((c >>> ((8 : Int32) &&& 31)).toInt8.toInt32).toInt := rfl
  unfold CHP at q
  have o := c_or' ((lo16 c &&& (255 : Int32)) <<< ((0 : Int32) &&& 31)) ((hi16 c &&& (255 : Int32)) <<< ((8 : Int32) &&& 31)) 8 (by decide) 256 rfl (by omega) (by omega) (by omega)
  have r := rng32 (((lo16 c &&& (255 : Int32)) <<< ((0 : Int32) &&& 31)) ||| ((hi16 c &&& (255 : Int32)) <<< ((8 : Int32) &&& 31)))
  have k := c_i2c (((lo16 c &&& (255 : Int32)) <<< ((0 : Int32) &&& 31)) ||| ((hi16 c &&& (255 : Int32)) <<< ((8 : Int32) &&& 31)))
  show ((((lo16 c &&& (255 : Int32)) <<< ((0 : Int32) &&& 31)) ||| ((hi16 c &&& (255 : Int32)) <<< ((8 : Int32) &&& 31))).toUInt32.toUInt16.toUInt32.toInt32).toInt = c.toInt
  omega
theorem lo8_get {c : Int32} (q : ¬ c < 0 ∧ ¬ (255 : Int32) < c) : chr (c.toInt8.toInt32 &&& (255 : Int32)) = c := by
  have q' := lat_iff.mp q
  have m0 : (c.toInt8.toInt32 &&& (255 : Int32)).toInt = (c.toInt8.toInt32).toInt % (2 ^ 8 : Nat) := c_mask _ 255 8 (by decide) (by decide)
  have b0 := c_i2b c
  have e : c.toInt8.toInt32 &&& (255 : Int32) = c := Int32.toInt_inj.mp (by omega)
  rw [e, chr_id (by omega)]
def wide : List Int32 → List Value
  | [] => []
  | c :: cs => .int (lo16 c) :: .int (hi16 c) :: wide cs
theorem wide_len : ∀ cs : List Int32, (wide cs).length = 2 * cs.length
  | [] => rfl
  | c :: cs => by simp only [wide, List.length_cons, wide_len cs]; omega
/-- the bytes that spell these chars under a coder -/
def Spell (cs : List Int32) (cd : Int32) (vs : List Value) : Prop := (cd = 0 ∧ vs = ((cs.map fun c => c.toInt8.toInt32).map Value.int) ∧ Lat cs) ∨ (cd = 1 ∧ vs = wide cs ∧ ∃ c ∈ cs, (255 : Int32) < c)
def Gst (Z : State) (h : Heap) (x : Addr) (cs : List Int32) : Prop := ∃ (t : Addr) (cd : Int32) (vs : List Value), Exa Z h x ST ∧ Fld Z h x ST "coder" "B" (.int cd) ∧ Fld Z h x ST "value" "[B" (.ref t) ∧ Ary Z h t .byte vs ∧ Spell cs cd vs
theorem Gst.ext (S : Gst Z h x cs) (E : Ext h h') : Gst Z h' x cs := by obtain ⟨t, cd, vs, s1, s2, s3, s4, s5⟩ := S; exact ⟨t, cd, vs, s1.ext E, s2.ext E, s3.ext E, s4.ext E, s5⟩
theorem Gst.exa (S : Gst Z h x cs) : Exa Z h x ST := by obtain ⟨t, cd, vs, s1, -⟩ := S; exact s1
theorem Gst.ofStr (S : Str Z h x cs) : Gst Z h x cs := by obtain ⟨t, s1, s2, s3, s4, s5⟩ := S; exact ⟨t, 0, _, s1, s2, s3, s4, Or.inl ⟨rfl, rfl, s5⟩⟩
theorem Spell.len {cd : Int32} {vs : List Value} (q : Spell cs cd vs) (hl : cs.length ≤ 4000) : (Int32.ofNat vs.length) >>> (cd &&& 31) = Int32.ofNat cs.length := by
  refine Int32.toInt_inj.mp ?_
  rcases q with ⟨rfl, rfl, -⟩ | ⟨rfl, rfl, -⟩
  · rw [c_ishr _ 0 0 (by decide), ofNat_toInt (by simp; omega), ofNat_toInt (by omega)]; simp
  · rw [c_ishr _ 1 1 (by decide), wide_len, ofNat_toInt (by omega), ofNat_toInt (by omega)]; omega
end Utfs
end GK
end Jvm.Pilot.@@N@@
namespace Jvm.Pilot.@@N@@
open Jvm Jvm.ClassFile Sem Op Lib Jvm.Free Jvm.Stand Jvm.LawKit Jvm.RoadKit Bundle Jvm.Pilot.@@N@@.Jvm.D Jvm.Pilot.@@N@@.GK
abbrev HW (a0 : Array Value) (Z : State) : Prop := ∀ d ∈ tables_1, d.before a0 Z = true
theorem w0 {a0 : Array Value} {Z : State} (hw : HW a0 Z) : (Jvm.Cond.constant "com/example/petrel/petrel/TokenIsPunctuationPinLaw" (7 : Nat) (2147483647 : Int32)).before a0 Z = true := hw _ (List.mem_of_getElem? (i := 0) rfl)
theorem w1 {a0 : Array Value} {Z : State} (hw : HW a0 Z) : (Jvm.Cond.methodLink "com/example/petrel/petrel/TokenIsPunctuationPinLaw" (8 : Nat) ({ cls := "com/example/petrel/petrel/TokenIsPunctuationPinLaw", name := "makeText", desc := "(ICCC)Ljava/lang/String;" } : Jvm.MethodName)).before a0 Z = true := hw _ (List.mem_of_getElem? (i := 1) rfl)
theorem w2 {a0 : Array Value} {Z : State} (hw : HW a0 Z) : (Jvm.Cond.static ({ cls := "com/example/petrel/petrel/TokenIsPunctuationPinLaw", name := "makeText", desc := "(ICCC)Ljava/lang/String;" } : Jvm.MethodName)).before a0 Z = true := hw _ (List.mem_of_getElem? (i := 2) rfl)
theorem w3 {a0 : Array Value} {Z : State} (hw : HW a0 Z) : (Jvm.Cond.initialized "com/example/petrel/petrel/TokenIsPunctuationPinLaw").before a0 Z = true := hw _ (List.mem_of_getElem? (i := 3) rfl)
theorem w4 {a0 : Array Value} {Z : State} (hw : HW a0 Z) : (Jvm.Cond.code ({ cls := "com/example/petrel/petrel/TokenIsPunctuationPinLaw", name := "makeText", desc := "(ICCC)Ljava/lang/String;" } : Jvm.MethodName) method_3_code (4 : Nat) (Option.some (Jvm.ClassFile.FieldType.object "java/lang/String"))).before a0 Z = true := hw _ (List.mem_of_getElem? (i := 4) rfl)
theorem w5 {a0 : Array Value} {Z : State} (hw : HW a0 Z) : (Jvm.Cond.classLink "com/example/petrel/petrel/TokenIsPunctuationPinLaw" (30 : Nat) "java/lang/String").before a0 Z = true := hw _ (List.mem_of_getElem? (i := 5) rfl)
theorem w6 {a0 : Array Value} {Z : State} (hw : HW a0 Z) : (Jvm.Cond.instantiable "java/lang/String" (4 : Nat)).before a0 Z = true := hw _ (List.mem_of_getElem? (i := 6) rfl)
theorem w7 {a0 : Array Value} {Z : State} (hw : HW a0 Z) : (Jvm.Cond.initialized "java/lang/String").before a0 Z = true := hw _ (List.mem_of_getElem? (i := 7) rfl)
theorem w8 {a0 : Array Value} {Z : State} (hw : HW a0 Z) : (Jvm.Cond.arrayClass Jvm.ClassFile.FieldType.char).before a0 Z = true := hw _ (List.mem_of_getElem? (i := 8) rfl)
theorem w9 {a0 : Array Value} {Z : State} (hw : HW a0 Z) : (Jvm.Cond.methodLink "com/example/petrel/petrel/TokenIsPunctuationPinLaw" (35 : Nat) ({ cls := "java/lang/String", name := "<init>", desc := "([C)V" } : Jvm.MethodName)).before a0 Z = true := hw _ (List.mem_of_getElem? (i := 9) rfl)
theorem w10 {a0 : Array Value} {Z : State} (hw : HW a0 Z) : (Jvm.Cond.instanceMethod ({ cls := "java/lang/String", name := "<init>", desc := "([C)V" } : Jvm.MethodName)).before a0 Z = true := hw _ (List.mem_of_getElem? (i := 10) rfl)
theorem w11 {a0 : Array Value} {Z : State} (hw : HW a0 Z) : (Jvm.Cond.code ({ cls := "java/lang/String", name := "<init>", desc := "([C)V" } : Jvm.MethodName) jdk_42_method_3_code (2 : Nat) (Option.none : Option Jvm.ClassFile.FieldType)).before a0 Z = true := hw _ (List.mem_of_getElem? (i := 11) rfl)
theorem w12 {a0 : Array Value} {Z : State} (hw : HW a0 Z) : (Jvm.Cond.methodLink "java/lang/String" (27 : Nat) ({ cls := "java/lang/String", name := "<init>", desc := "([CIILjava/lang/Void;)V" } : Jvm.MethodName)).before a0 Z = true := hw _ (List.mem_of_getElem? (i := 12) rfl)
theorem w13 {a0 : Array Value} {Z : State} (hw : HW a0 Z) : (Jvm.Cond.instanceMethod ({ cls := "java/lang/String", name := "<init>", desc := "([CIILjava/lang/Void;)V" } : Jvm.MethodName)).before a0 Z = true := hw _ (List.mem_of_getElem? (i := 13) rfl)
theorem w15 {a0 : Array Value} {Z : State} (hw : HW a0 Z) : (Jvm.Cond.code ({ cls := "java/lang/String", name := "<init>", desc := "([CIILjava/lang/Void;)V" } : Jvm.MethodName) jdk_42_method_149_code (6 : Nat) (Option.none : Option Jvm.ClassFile.FieldType)).before a0 Z = true := hw _ (List.mem_of_getElem? (i := 15) rfl)
theorem w16 {a0 : Array Value} {Z : State} (hw : HW a0 Z) : (Jvm.Cond.methodLink "java/lang/String" (1 : Nat) ({ cls := "java/lang/Object", name := "<init>", desc := "()V" } : Jvm.MethodName)).before a0 Z = true := hw _ (List.mem_of_getElem? (i := 16) rfl)
theorem w17 {a0 : Array Value} {Z : State} (hw : HW a0 Z) : (Jvm.Cond.instanceMethod ({ cls := "java/lang/Object", name := "<init>", desc := "()V" } : Jvm.MethodName)).before a0 Z = true := hw _ (List.mem_of_getElem? (i := 17) rfl)
theorem w18 {a0 : Array Value} {Z : State} (hw : HW a0 Z) : (Jvm.Cond.code ({ cls := "java/lang/Object", name := "<init>", desc := "()V" } : Jvm.MethodName) object_method_1_code (1 : Nat) (Option.none : Option Jvm.ClassFile.FieldType)).before a0 Z = true := hw _ (List.mem_of_getElem? (i := 18) rfl)
theorem w19 {a0 : Array Value} {Z : State} (hw : HW a0 Z) : (Jvm.Cond.fieldLink "java/lang/String" (38 : Nat) "java/lang/String" "COMPACT_STRINGS" "Z").before a0 Z = true := hw _ (List.mem_of_getElem? (i := 19) rfl)
theorem w20 {a0 : Array Value} {Z : State} (hw : HW a0 Z) : (Jvm.Cond.methodLink "java/lang/String" (177 : Nat) ({ cls := "java/lang/StringUTF16", name := "compress", desc := "([CII)[B" } : Jvm.MethodName)).before a0 Z = true := hw _ (List.mem_of_getElem? (i := 20) rfl)
theorem w21 {a0 : Array Value} {Z : State} (hw : HW a0 Z) : (Jvm.Cond.static ({ cls := "java/lang/StringUTF16", name := "compress", desc := "([CII)[B" } : Jvm.MethodName)).before a0 Z = true := hw _ (List.mem_of_getElem? (i := 21) rfl)
theorem w22 {a0 : Array Value} {Z : State} (hw : HW a0 Z) : (Jvm.Cond.initialized "java/lang/StringUTF16").before a0 Z = true := hw _ (List.mem_of_getElem? (i := 22) rfl)
theorem w23 {a0 : Array Value} {Z : State} (hw : HW a0 Z) : (Jvm.Cond.code ({ cls := "java/lang/StringUTF16", name := "compress", desc := "([CII)[B" } : Jvm.MethodName) jdk_52_method_16_code (6 : Nat) (Option.some (Jvm.ClassFile.FieldType.array Jvm.ClassFile.FieldType.byte))).before a0 Z = true := hw _ (List.mem_of_getElem? (i := 23) rfl)
theorem w24 {a0 : Array Value} {Z : State} (hw : HW a0 Z) : (Jvm.Cond.arrayClass Jvm.ClassFile.FieldType.byte).before a0 Z = true := hw _ (List.mem_of_getElem? (i := 24) rfl)
theorem w25 {a0 : Array Value} {Z : State} (hw : HW a0 Z) : (Jvm.Cond.methodLink "java/lang/StringUTF16" (115 : Nat) ({ cls := "java/lang/StringUTF16", name := "compress", desc := "([CI[BII)I" } : Jvm.MethodName)).before a0 Z = true := hw _ (List.mem_of_getElem? (i := 25) rfl)
theorem w26 {a0 : Array Value} {Z : State} (hw : HW a0 Z) : (Jvm.Cond.static ({ cls := "java/lang/StringUTF16", name := "compress", desc := "([CI[BII)I" } : Jvm.MethodName)).before a0 Z = true := hw _ (List.mem_of_getElem? (i := 26) rfl)
theorem w27 {a0 : Array Value} {Z : State} (hw : HW a0 Z) : (Jvm.Cond.code ({ cls := "java/lang/StringUTF16", name := "compress", desc := "([CI[BII)I" } : Jvm.MethodName) jdk_52_method_21_code (7 : Nat) (Option.some Jvm.ClassFile.FieldType.int)).before a0 Z = true := hw _ (List.mem_of_getElem? (i := 27) rfl)
theorem w28 {a0 : Array Value} {Z : State} (hw : HW a0 Z) : (Jvm.Cond.methodLink "java/lang/String" (47 : Nat) ({ cls := "java/lang/StringUTF16", name := "coderFromArrayLen", desc := "([BI)B" } : Jvm.MethodName)).before a0 Z = true := hw _ (List.mem_of_getElem? (i := 28) rfl)
theorem w29 {a0 : Array Value} {Z : State} (hw : HW a0 Z) : (Jvm.Cond.static ({ cls := "java/lang/StringUTF16", name := "coderFromArrayLen", desc := "([BI)B" } : Jvm.MethodName)).before a0 Z = true := hw _ (List.mem_of_getElem? (i := 29) rfl)
theorem w30 {a0 : Array Value} {Z : State} (hw : HW a0 Z) : (Jvm.Cond.code ({ cls := "java/lang/StringUTF16", name := "coderFromArrayLen", desc := "([BI)B" } : Jvm.MethodName) jdk_52_method_15_code (2 : Nat) (Option.some Jvm.ClassFile.FieldType.byte)).before a0 Z = true := hw _ (List.mem_of_getElem? (i := 30) rfl)
theorem w31 {a0 : Array Value} {Z : State} (hw : HW a0 Z) : (Jvm.Cond.fieldLink "java/lang/String" (15 : Nat) "java/lang/String" "coder" "B").before a0 Z = true := hw _ (List.mem_of_getElem? (i := 31) rfl)
theorem w32 {a0 : Array Value} {Z : State} (hw : HW a0 Z) : (Jvm.Cond.laysFinal "java/lang/String" "java/lang/String" "coder" "B").before a0 Z = true := hw _ (List.mem_of_getElem? (i := 32) rfl)
theorem w33 {a0 : Array Value} {Z : State} (hw : HW a0 Z) : (Jvm.Cond.fieldLink "java/lang/String" (9 : Nat) "java/lang/String" "value" "[B").before a0 Z = true := hw _ (List.mem_of_getElem? (i := 33) rfl)
theorem w34 {a0 : Array Value} {Z : State} (hw : HW a0 Z) : (Jvm.Cond.laysFinal "java/lang/String" "java/lang/String" "value" "[B").before a0 Z = true := hw _ (List.mem_of_getElem? (i := 34) rfl)
theorem w35 {a0 : Array Value} {Z : State} (hw : HW a0 Z) : (Jvm.Cond.methodLink "com/example/petrel/petrel/TokenIsPunctuationPinLaw" (14 : Nat) ({ cls := "com/example/petrel/petrel/TokenIsPunctuationPinLaw", name := "kindOf", desc := "(I)Lcom/example/petrel/petrel/HoaLexer$Kind;" } : Jvm.MethodName)).before a0 Z = true := hw _ (List.mem_of_getElem? (i := 35) rfl)
theorem w36 {a0 : Array Value} {Z : State} (hw : HW a0 Z) : (Jvm.Cond.static ({ cls := "com/example/petrel/petrel/TokenIsPunctuationPinLaw", name := "kindOf", desc := "(I)Lcom/example/petrel/petrel/HoaLexer$Kind;" } : Jvm.MethodName)).before a0 Z = true := hw _ (List.mem_of_getElem? (i := 36) rfl)
theorem w37 {a0 : Array Value} {Z : State} (hw : HW a0 Z) : (Jvm.Cond.code ({ cls := "com/example/petrel/petrel/TokenIsPunctuationPinLaw", name := "kindOf", desc := "(I)Lcom/example/petrel/petrel/HoaLexer$Kind;" } : Jvm.MethodName) method_4_code (1 : Nat) (Option.some (Jvm.ClassFile.FieldType.object "com/example/petrel/petrel/HoaLexer$Kind"))).before a0 Z = true := hw _ (List.mem_of_getElem? (i := 37) rfl)
theorem w38 {a0 : Array Value} {Z : State} (hw : HW a0 Z) : (Jvm.Cond.fieldLink "com/example/petrel/petrel/TokenIsPunctuationPinLaw" (38 : Nat) "com/example/petrel/petrel/HoaLexer$Kind" "HEADER_NAME" "Lcom/example/petrel/petrel/HoaLexer$Kind;").before a0 Z = true := hw _ (List.mem_of_getElem? (i := 38) rfl)
theorem w39 {a0 : Array Value} {Z : State} (hw : HW a0 Z) : (Jvm.Cond.initialized "com/example/petrel/petrel/HoaLexer$Kind").before a0 Z = true := hw _ (List.mem_of_getElem? (i := 39) rfl)
theorem w40 {a0 : Array Value} {Z : State} (hw : HW a0 Z) : (Jvm.Cond.laysStatic "com/example/petrel/petrel/HoaLexer$Kind" "HEADER_NAME" "Lcom/example/petrel/petrel/HoaLexer$Kind;").before a0 Z = true := hw _ (List.mem_of_getElem? (i := 40) rfl)
theorem w41 {a0 : Array Value} {Z : State} (hw : HW a0 Z) : (Jvm.Cond.classLink "com/example/petrel/petrel/TokenIsPunctuationPinLaw" (18 : Nat) "com/example/petrel/petrel/HoaLexer$Token").before a0 Z = true := hw _ (List.mem_of_getElem? (i := 41) rfl)
theorem w42 {a0 : Array Value} {Z : State} (hw : HW a0 Z) : (Jvm.Cond.instantiable "com/example/petrel/petrel/HoaLexer$Token" (3 : Nat)).before a0 Z = true := hw _ (List.mem_of_getElem? (i := 42) rfl)
theorem w43 {a0 : Array Value} {Z : State} (hw : HW a0 Z) : (Jvm.Cond.initialized "com/example/petrel/petrel/HoaLexer$Token").before a0 Z = true := hw _ (List.mem_of_getElem? (i := 43) rfl)
theorem w44 {a0 : Array Value} {Z : State} (hw : HW a0 Z) : (Jvm.Cond.methodLink "com/example/petrel/petrel/TokenIsPunctuationPinLaw" (20 : Nat) ({ cls := "com/example/petrel/petrel/HoaLexer$Token", name := "<init>", desc := "(Lcom/example/petrel/petrel/HoaLexer$Kind;Ljava/lang/String;I)V" } : Jvm.MethodName)).before a0 Z = true := hw _ (List.mem_of_getElem? (i := 44) rfl)
theorem w45 {a0 : Array Value} {Z : State} (hw : HW a0 Z) : (Jvm.Cond.instanceMethod ({ cls := "com/example/petrel/petrel/HoaLexer$Token", name := "<init>", desc := "(Lcom/example/petrel/petrel/HoaLexer$Kind;Ljava/lang/String;I)V" } : Jvm.MethodName)).before a0 Z = true := hw _ (List.mem_of_getElem? (i := 45) rfl)
theorem w46 {a0 : Array Value} {Z : State} (hw : HW a0 Z) : (Jvm.Cond.code ({ cls := "com/example/petrel/petrel/HoaLexer$Token", name := "<init>", desc := "(Lcom/example/petrel/petrel/HoaLexer$Kind;Ljava/lang/String;I)V" } : Jvm.MethodName) prog_10_method_1_code (4 : Nat) (Option.none : Option Jvm.ClassFile.FieldType)).before a0 Z = true := hw _ (List.mem_of_getElem? (i := 46) rfl)
theorem w47 {a0 : Array Value} {Z : State} (hw : HW a0 Z) : (Jvm.Cond.methodLink "com/example/petrel/petrel/HoaLexer$Token" (1 : Nat) ({ cls := "java/lang/Record", name := "<init>", desc := "()V" } : Jvm.MethodName)).before a0 Z = true := hw _ (List.mem_of_getElem? (i := 47) rfl)
theorem w48 {a0 : Array Value} {Z : State} (hw : HW a0 Z) : (Jvm.Cond.instanceMethod ({ cls := "java/lang/Record", name := "<init>", desc := "()V" } : Jvm.MethodName)).before a0 Z = true := hw _ (List.mem_of_getElem? (i := 48) rfl)
theorem w50 {a0 : Array Value} {Z : State} (hw : HW a0 Z) : (Jvm.Cond.initialized "java/lang/Record").before a0 Z = true := hw _ (List.mem_of_getElem? (i := 50) rfl)
theorem w51 {a0 : Array Value} {Z : State} (hw : HW a0 Z) : (Jvm.Cond.code ({ cls := "java/lang/Record", name := "<init>", desc := "()V" } : Jvm.MethodName) jdk_30_method_1_code (1 : Nat) (Option.none : Option Jvm.ClassFile.FieldType)).before a0 Z = true := hw _ (List.mem_of_getElem? (i := 51) rfl)
theorem w52 {a0 : Array Value} {Z : State} (hw : HW a0 Z) : (Jvm.Cond.methodLink "java/lang/Record" (1 : Nat) ({ cls := "java/lang/Object", name := "<init>", desc := "()V" } : Jvm.MethodName)).before a0 Z = true := hw _ (List.mem_of_getElem? (i := 52) rfl)
theorem w53 {a0 : Array Value} {Z : State} (hw : HW a0 Z) : (Jvm.Cond.fieldLink "com/example/petrel/petrel/HoaLexer$Token" (7 : Nat) "com/example/petrel/petrel/HoaLexer$Token" "kind" "Lcom/example/petrel/petrel/HoaLexer$Kind;").before a0 Z = true := hw _ (List.mem_of_getElem? (i := 53) rfl)
theorem w54 {a0 : Array Value} {Z : State} (hw : HW a0 Z) : (Jvm.Cond.laysFinal "com/example/petrel/petrel/HoaLexer$Token" "com/example/petrel/petrel/HoaLexer$Token" "kind" "Lcom/example/petrel/petrel/HoaLexer$Kind;").before a0 Z = true := hw _ (List.mem_of_getElem? (i := 54) rfl)
theorem w55 {a0 : Array Value} {Z : State} (hw : HW a0 Z) : (Jvm.Cond.fieldLink "com/example/petrel/petrel/HoaLexer$Token" (13 : Nat) "com/example/petrel/petrel/HoaLexer$Token" "text" "Ljava/lang/String;").before a0 Z = true := hw _ (List.mem_of_getElem? (i := 55) rfl)
theorem w56 {a0 : Array Value} {Z : State} (hw : HW a0 Z) : (Jvm.Cond.laysFinal "com/example/petrel/petrel/HoaLexer$Token" "com/example/petrel/petrel/HoaLexer$Token" "text" "Ljava/lang/String;").before a0 Z = true := hw _ (List.mem_of_getElem? (i := 56) rfl)
theorem w57 {a0 : Array Value} {Z : State} (hw : HW a0 Z) : (Jvm.Cond.fieldLink "com/example/petrel/petrel/HoaLexer$Token" (17 : Nat) "com/example/petrel/petrel/HoaLexer$Token" "line" "I").before a0 Z = true := hw _ (List.mem_of_getElem? (i := 57) rfl)
theorem w58 {a0 : Array Value} {Z : State} (hw : HW a0 Z) : (Jvm.Cond.laysFinal "com/example/petrel/petrel/HoaLexer$Token" "com/example/petrel/petrel/HoaLexer$Token" "line" "I").before a0 Z = true := hw _ (List.mem_of_getElem? (i := 58) rfl)
theorem w59 {a0 : Array Value} {Z : State} (hw : HW a0 Z) : (Jvm.Cond.methodLink "com/example/petrel/petrel/TokenIsPunctuationPinLaw" (23 : Nat) ({ cls := "com/example/petrel/petrel/HoaLexer$Token", name := "isPunctuation", desc := "(C)Z" } : Jvm.MethodName)).before a0 Z = true := hw _ (List.mem_of_getElem? (i := 59) rfl)
theorem w60 {a0 : Array Value} {Z : State} (hw : HW a0 Z) : (Jvm.Cond.declares ({ cls := "com/example/petrel/petrel/HoaLexer$Token", name := "isPunctuation", desc := "(C)Z" } : Jvm.MethodName)).before a0 Z = true := hw _ (List.mem_of_getElem? (i := 60) rfl)
theorem w61 {a0 : Array Value} {Z : State} (hw : HW a0 Z) : (Jvm.Cond.instanceMethod ({ cls := "com/example/petrel/petrel/HoaLexer$Token", name := "isPunctuation", desc := "(C)Z" } : Jvm.MethodName)).before a0 Z = true := hw _ (List.mem_of_getElem? (i := 61) rfl)
theorem w62 {a0 : Array Value} {Z : State} (hw : HW a0 Z) : (Jvm.Cond.selects "com/example/petrel/petrel/HoaLexer$Token" ({ cls := "com/example/petrel/petrel/HoaLexer$Token", name := "isPunctuation", desc := "(C)Z" } : Jvm.MethodName) ({ cls := "com/example/petrel/petrel/HoaLexer$Token", name := "isPunctuation", desc := "(C)Z" } : Jvm.MethodName)).before a0 Z = true := hw _ (List.mem_of_getElem? (i := 62) rfl)
theorem w63 {a0 : Array Value} {Z : State} (hw : HW a0 Z) : (Jvm.Cond.code ({ cls := "com/example/petrel/petrel/HoaLexer$Token", name := "isPunctuation", desc := "(C)Z" } : Jvm.MethodName) prog_10_method_3_code (2 : Nat) (Option.some Jvm.ClassFile.FieldType.boolean)).before a0 Z = true := hw _ (List.mem_of_getElem? (i := 63) rfl)
theorem w64 {a0 : Array Value} {Z : State} (hw : HW a0 Z) : (Jvm.Cond.fieldLink "com/example/petrel/petrel/HoaLexer$Token" (27 : Nat) "com/example/petrel/petrel/HoaLexer$Kind" "PUNCTUATION" "Lcom/example/petrel/petrel/HoaLexer$Kind;").before a0 Z = true := hw _ (List.mem_of_getElem? (i := 64) rfl)
theorem w65 {a0 : Array Value} {Z : State} (hw : HW a0 Z) : (Jvm.Cond.laysStatic "com/example/petrel/petrel/HoaLexer$Kind" "PUNCTUATION" "Lcom/example/petrel/petrel/HoaLexer$Kind;").before a0 Z = true := hw _ (List.mem_of_getElem? (i := 65) rfl)
theorem w66 {a0 : Array Value} {Z : State} (hw : HW a0 Z) : (Jvm.Cond.fieldLink "com/example/petrel/petrel/TokenIsPunctuationPinLaw" (53 : Nat) "com/example/petrel/petrel/HoaLexer$Kind" "ALIAS" "Lcom/example/petrel/petrel/HoaLexer$Kind;").before a0 Z = true := hw _ (List.mem_of_getElem? (i := 66) rfl)
theorem w67 {a0 : Array Value} {Z : State} (hw : HW a0 Z) : (Jvm.Cond.laysStatic "com/example/petrel/petrel/HoaLexer$Kind" "ALIAS" "Lcom/example/petrel/petrel/HoaLexer$Kind;").before a0 Z = true := hw _ (List.mem_of_getElem? (i := 67) rfl)
theorem w68 {a0 : Array Value} {Z : State} (hw : HW a0 Z) : (Jvm.Cond.fieldLink "com/example/petrel/petrel/TokenIsPunctuationPinLaw" (50 : Nat) "com/example/petrel/petrel/HoaLexer$Kind" "STRING" "Lcom/example/petrel/petrel/HoaLexer$Kind;").before a0 Z = true := hw _ (List.mem_of_getElem? (i := 68) rfl)
theorem w69 {a0 : Array Value} {Z : State} (hw : HW a0 Z) : (Jvm.Cond.laysStatic "com/example/petrel/petrel/HoaLexer$Kind" "STRING" "Lcom/example/petrel/petrel/HoaLexer$Kind;").before a0 Z = true := hw _ (List.mem_of_getElem? (i := 69) rfl)
theorem w70 {a0 : Array Value} {Z : State} (hw : HW a0 Z) : (Jvm.Cond.methodLink "java/lang/StringUTF16" (119 : Nat) ({ cls := "java/lang/StringUTF16", name := "toBytes", desc := "([CII)[B" } : Jvm.MethodName)).before a0 Z = true := hw _ (List.mem_of_getElem? (i := 70) rfl)
theorem w71 {a0 : Array Value} {Z : State} (hw : HW a0 Z) : (Jvm.Cond.static ({ cls := "java/lang/StringUTF16", name := "toBytes", desc := "([CII)[B" } : Jvm.MethodName)).before a0 Z = true := hw _ (List.mem_of_getElem? (i := 71) rfl)
theorem w72 {a0 : Array Value} {Z : State} (hw : HW a0 Z) : (Jvm.Cond.code ({ cls := "java/lang/StringUTF16", name := "toBytes", desc := "([CII)[B" } : Jvm.MethodName) jdk_52_method_14_code (5 : Nat) (Option.some (Jvm.ClassFile.FieldType.array Jvm.ClassFile.FieldType.byte))).before a0 Z = true := hw _ (List.mem_of_getElem? (i := 72) rfl)
theorem w73 {a0 : Array Value} {Z : State} (hw : HW a0 Z) : (Jvm.Cond.methodLink "java/lang/StringUTF16" (107 : Nat) ({ cls := "java/lang/StringUTF16", name := "newBytesFor", desc := "(I)[B" } : Jvm.MethodName)).before a0 Z = true := hw _ (List.mem_of_getElem? (i := 73) rfl)
theorem w74 {a0 : Array Value} {Z : State} (hw : HW a0 Z) : (Jvm.Cond.static ({ cls := "java/lang/StringUTF16", name := "newBytesFor", desc := "(I)[B" } : Jvm.MethodName)).before a0 Z = true := hw _ (List.mem_of_getElem? (i := 74) rfl)
theorem w75 {a0 : Array Value} {Z : State} (hw : HW a0 Z) : (Jvm.Cond.code ({ cls := "java/lang/StringUTF16", name := "newBytesFor", desc := "(I)[B" } : Jvm.MethodName) jdk_52_method_2_code (1 : Nat) (Option.some (Jvm.ClassFile.FieldType.array Jvm.ClassFile.FieldType.byte))).before a0 Z = true := hw _ (List.mem_of_getElem? (i := 75) rfl)
theorem w76 {a0 : Array Value} {Z : State} (hw : HW a0 Z) : (Jvm.Cond.methodLink "java/lang/StringUTF16" (11 : Nat) ({ cls := "java/lang/StringUTF16", name := "newBytesLength", desc := "(I)I" } : Jvm.MethodName)).before a0 Z = true := hw _ (List.mem_of_getElem? (i := 76) rfl)
theorem w77 {a0 : Array Value} {Z : State} (hw : HW a0 Z) : (Jvm.Cond.static ({ cls := "java/lang/StringUTF16", name := "newBytesLength", desc := "(I)I" } : Jvm.MethodName)).before a0 Z = true := hw _ (List.mem_of_getElem? (i := 77) rfl)
theorem w78 {a0 : Array Value} {Z : State} (hw : HW a0 Z) : (Jvm.Cond.code ({ cls := "java/lang/StringUTF16", name := "newBytesLength", desc := "(I)I" } : Jvm.MethodName) jdk_52_method_3_code (1 : Nat) (Option.some Jvm.ClassFile.FieldType.int)).before a0 Z = true := hw _ (List.mem_of_getElem? (i := 78) rfl)
theorem w79 {a0 : Array Value} {Z : State} (hw : HW a0 Z) : (Jvm.Cond.constant "java/lang/StringUTF16" (20 : Nat) (1073741823 : Int32)).before a0 Z = true := hw _ (List.mem_of_getElem? (i := 79) rfl)
theorem w80 {a0 : Array Value} {Z : State} (hw : HW a0 Z) : (Jvm.Cond.methodLink "java/lang/StringUTF16" (111 : Nat) ({ cls := "java/lang/StringUTF16", name := "putChar", desc := "([BII)V" } : Jvm.MethodName)).before a0 Z = true := hw _ (List.mem_of_getElem? (i := 80) rfl)
theorem w81 {a0 : Array Value} {Z : State} (hw : HW a0 Z) : (Jvm.Cond.static ({ cls := "java/lang/StringUTF16", name := "putChar", desc := "([BII)V" } : Jvm.MethodName)).before a0 Z = true := hw _ (List.mem_of_getElem? (i := 81) rfl)
theorem w82 {a0 : Array Value} {Z : State} (hw : HW a0 Z) : (Jvm.Cond.code ({ cls := "java/lang/StringUTF16", name := "putChar", desc := "([BII)V" } : Jvm.MethodName) jdk_52_method_4_code (3 : Nat) (Option.none : Option Jvm.ClassFile.FieldType)).before a0 Z = true := hw _ (List.mem_of_getElem? (i := 82) rfl)
theorem w83 {a0 : Array Value} {Z : State} (hw : HW a0 Z) : (Jvm.Cond.fieldLink "java/lang/StringUTF16" (44 : Nat) "java/lang/StringUTF16" "$assertionsDisabled" "Z").before a0 Z = true := hw _ (List.mem_of_getElem? (i := 83) rfl)
theorem w84 {a0 : Array Value} {Z : State} (hw : HW a0 Z) : (Jvm.Cond.fieldLink "java/lang/StringUTF16" (59 : Nat) "java/lang/StringUTF16" "HI_BYTE_SHIFT" "I").before a0 Z = true := hw _ (List.mem_of_getElem? (i := 84) rfl)
theorem w85 {a0 : Array Value} {Z : State} (hw : HW a0 Z) : (Jvm.Cond.fieldLink "java/lang/StringUTF16" (63 : Nat) "java/lang/StringUTF16" "LO_BYTE_SHIFT" "I").before a0 Z = true := hw _ (List.mem_of_getElem? (i := 85) rfl)
theorem w86 {a0 : Array Value} {Z : State} (hw : HW a0 Z) : (Jvm.Cond.methodLink "java/lang/StringUTF16" (71 : Nat) ({ cls := "java/lang/StringUTF16", name := "getChar", desc := "([BI)C" } : Jvm.MethodName)).before a0 Z = true := hw _ (List.mem_of_getElem? (i := 86) rfl)
theorem w87 {a0 : Array Value} {Z : State} (hw : HW a0 Z) : (Jvm.Cond.static ({ cls := "java/lang/StringUTF16", name := "getChar", desc := "([BI)C" } : Jvm.MethodName)).before a0 Z = true := hw _ (List.mem_of_getElem? (i := 87) rfl)
theorem w88 {a0 : Array Value} {Z : State} (hw : HW a0 Z) : (Jvm.Cond.code ({ cls := "java/lang/StringUTF16", name := "getChar", desc := "([BI)C" } : Jvm.MethodName) jdk_52_method_5_code (2 : Nat) (Option.some Jvm.ClassFile.FieldType.char)).before a0 Z = true := hw _ (List.mem_of_getElem? (i := 88) rfl)
theorem w89 {a0 : Array Value} {Z : State} (hw : HW a0 Z) : (Jvm.Cond.fieldLink "com/example/petrel/petrel/TokenIsPunctuationPinLaw" (65 : Nat) "com/example/petrel/petrel/HoaLexer$Kind" "PUNCTUATION" "Lcom/example/petrel/petrel/HoaLexer$Kind;").before a0 Z = true := hw _ (List.mem_of_getElem? (i := 89) rfl)
theorem w90 {a0 : Array Value} {Z : State} (hw : HW a0 Z) : (Jvm.Cond.methodLink "com/example/petrel/petrel/HoaLexer$Token" (32 : Nat) ({ cls := "java/lang/String", name := "length", desc := "()I" } : Jvm.MethodName)).before a0 Z = true := hw _ (List.mem_of_getElem? (i := 90) rfl)
theorem w91 {a0 : Array Value} {Z : State} (hw : HW a0 Z) : (Jvm.Cond.declares ({ cls := "java/lang/String", name := "length", desc := "()I" } : Jvm.MethodName)).before a0 Z = true := hw _ (List.mem_of_getElem? (i := 91) rfl)
theorem w92 {a0 : Array Value} {Z : State} (hw : HW a0 Z) : (Jvm.Cond.instanceMethod ({ cls := "java/lang/String", name := "length", desc := "()I" } : Jvm.MethodName)).before a0 Z = true := hw _ (List.mem_of_getElem? (i := 92) rfl)
theorem w93 {a0 : Array Value} {Z : State} (hw : HW a0 Z) : (Jvm.Cond.selects "java/lang/String" ({ cls := "java/lang/String", name := "length", desc := "()I" } : Jvm.MethodName) ({ cls := "java/lang/String", name := "length", desc := "()I" } : Jvm.MethodName)).before a0 Z = true := hw _ (List.mem_of_getElem? (i := 93) rfl)
theorem w94 {a0 : Array Value} {Z : State} (hw : HW a0 Z) : (Jvm.Cond.code ({ cls := "java/lang/String", name := "length", desc := "()I" } : Jvm.MethodName) jdk_42_method_54_code (1 : Nat) (Option.some Jvm.ClassFile.FieldType.int)).before a0 Z = true := hw _ (List.mem_of_getElem? (i := 94) rfl)
theorem w95 {a0 : Array Value} {Z : State} (hw : HW a0 Z) : (Jvm.Cond.methodLink "java/lang/String" (335 : Nat) ({ cls := "java/lang/String", name := "coder", desc := "()B" } : Jvm.MethodName)).before a0 Z = true := hw _ (List.mem_of_getElem? (i := 95) rfl)
theorem w96 {a0 : Array Value} {Z : State} (hw : HW a0 Z) : (Jvm.Cond.declares ({ cls := "java/lang/String", name := "coder", desc := "()B" } : Jvm.MethodName)).before a0 Z = true := hw _ (List.mem_of_getElem? (i := 96) rfl)
theorem w97 {a0 : Array Value} {Z : State} (hw : HW a0 Z) : (Jvm.Cond.instanceMethod ({ cls := "java/lang/String", name := "coder", desc := "()B" } : Jvm.MethodName)).before a0 Z = true := hw _ (List.mem_of_getElem? (i := 97) rfl)
theorem w98 {a0 : Array Value} {Z : State} (hw : HW a0 Z) : (Jvm.Cond.selects "java/lang/String" ({ cls := "java/lang/String", name := "coder", desc := "()B" } : Jvm.MethodName) ({ cls := "java/lang/String", name := "coder", desc := "()B" } : Jvm.MethodName)).before a0 Z = true := hw _ (List.mem_of_getElem? (i := 98) rfl)
theorem w99 {a0 : Array Value} {Z : State} (hw : HW a0 Z) : (Jvm.Cond.code ({ cls := "java/lang/String", name := "coder", desc := "()B" } : Jvm.MethodName) jdk_42_method_152_code (1 : Nat) (Option.some Jvm.ClassFile.FieldType.byte)).before a0 Z = true := hw _ (List.mem_of_getElem? (i := 99) rfl)
theorem w100 {a0 : Array Value} {Z : State} (hw : HW a0 Z) : (Jvm.Cond.fieldLink "com/example/petrel/petrel/TokenIsPunctuationPinLaw" (56 : Nat) "com/example/petrel/petrel/HoaLexer$Kind" "BODY" "Lcom/example/petrel/petrel/HoaLexer$Kind;").before a0 Z = true := hw _ (List.mem_of_getElem? (i := 100) rfl)
theorem w101 {a0 : Array Value} {Z : State} (hw : HW a0 Z) : (Jvm.Cond.laysStatic "com/example/petrel/petrel/HoaLexer$Kind" "BODY" "Lcom/example/petrel/petrel/HoaLexer$Kind;").before a0 Z = true := hw _ (List.mem_of_getElem? (i := 101) rfl)
theorem w102 {a0 : Array Value} {Z : State} (hw : HW a0 Z) : (Jvm.Cond.stringLink "com/example/petrel/petrel/TokenIsPunctuationPinLaw" (27 : Nat) "").before a0 Z = true := hw _ (List.mem_of_getElem? (i := 102) rfl)
theorem w105 {a0 : Array Value} {Z : State} (hw : HW a0 Z) : (Jvm.Cond.fieldLink "com/example/petrel/petrel/TokenIsPunctuationPinLaw" (47 : Nat) "com/example/petrel/petrel/HoaLexer$Kind" "INTEGER" "Lcom/example/petrel/petrel/HoaLexer$Kind;").before a0 Z = true := hw _ (List.mem_of_getElem? (i := 105) rfl)
theorem w106 {a0 : Array Value} {Z : State} (hw : HW a0 Z) : (Jvm.Cond.laysStatic "com/example/petrel/petrel/HoaLexer$Kind" "INTEGER" "Lcom/example/petrel/petrel/HoaLexer$Kind;").before a0 Z = true := hw _ (List.mem_of_getElem? (i := 106) rfl)
theorem w107 {a0 : Array Value} {Z : State} (hw : HW a0 Z) : (Jvm.Cond.methodLink "com/example/petrel/petrel/TokenIsPunctuationPinLaw" (29 : Nat) ({ cls := "java/lang/String", name := "valueOf", desc := "(C)Ljava/lang/String;" } : Jvm.MethodName)).before a0 Z = true := hw _ (List.mem_of_getElem? (i := 107) rfl)
theorem w108 {a0 : Array Value} {Z : State} (hw : HW a0 Z) : (Jvm.Cond.static ({ cls := "java/lang/String", name := "valueOf", desc := "(C)Ljava/lang/String;" } : Jvm.MethodName)).before a0 Z = true := hw _ (List.mem_of_getElem? (i := 108) rfl)
theorem w109 {a0 : Array Value} {Z : State} (hw : HW a0 Z) : (Jvm.Cond.code ({ cls := "java/lang/String", name := "valueOf", desc := "(C)Ljava/lang/String;" } : Jvm.MethodName) jdk_42_method_139_code (1 : Nat) (Option.some (Jvm.ClassFile.FieldType.object "java/lang/String"))).before a0 Z = true := hw _ (List.mem_of_getElem? (i := 109) rfl)
theorem w110 {a0 : Array Value} {Z : State} (hw : HW a0 Z) : (Jvm.Cond.methodLink "java/lang/String" (1015 : Nat) ({ cls := "java/lang/StringLatin1", name := "canEncode", desc := "(C)Z" } : Jvm.MethodName)).before a0 Z = true := hw _ (List.mem_of_getElem? (i := 110) rfl)
theorem w111 {a0 : Array Value} {Z : State} (hw : HW a0 Z) : (Jvm.Cond.static ({ cls := "java/lang/StringLatin1", name := "canEncode", desc := "(C)Z" } : Jvm.MethodName)).before a0 Z = true := hw _ (List.mem_of_getElem? (i := 111) rfl)
theorem w112 {a0 : Array Value} {Z : State} (hw : HW a0 Z) : (Jvm.Cond.initialized "java/lang/StringLatin1").before a0 Z = true := hw _ (List.mem_of_getElem? (i := 112) rfl)
theorem w113 {a0 : Array Value} {Z : State} (hw : HW a0 Z) : (Jvm.Cond.code ({ cls := "java/lang/StringLatin1", name := "canEncode", desc := "(C)Z" } : Jvm.MethodName) jdk_43_method_3_code (1 : Nat) (Option.some Jvm.ClassFile.FieldType.boolean)).before a0 Z = true := hw _ (List.mem_of_getElem? (i := 113) rfl)
theorem w114 {a0 : Array Value} {Z : State} (hw : HW a0 Z) : (Jvm.Cond.classLink "java/lang/String" (10 : Nat) "java/lang/String").before a0 Z = true := hw _ (List.mem_of_getElem? (i := 114) rfl)
theorem w115 {a0 : Array Value} {Z : State} (hw : HW a0 Z) : (Jvm.Cond.methodLink "java/lang/String" (1021 : Nat) ({ cls := "java/lang/StringUTF16", name := "toBytes", desc := "(C)[B" } : Jvm.MethodName)).before a0 Z = true := hw _ (List.mem_of_getElem? (i := 115) rfl)
theorem w116 {a0 : Array Value} {Z : State} (hw : HW a0 Z) : (Jvm.Cond.static ({ cls := "java/lang/StringUTF16", name := "toBytes", desc := "(C)[B" } : Jvm.MethodName)).before a0 Z = true := hw _ (List.mem_of_getElem? (i := 116) rfl)
theorem w117 {a0 : Array Value} {Z : State} (hw : HW a0 Z) : (Jvm.Cond.code ({ cls := "java/lang/StringUTF16", name := "toBytes", desc := "(C)[B" } : Jvm.MethodName) jdk_52_method_24_code (2 : Nat) (Option.some (Jvm.ClassFile.FieldType.array Jvm.ClassFile.FieldType.byte))).before a0 Z = true := hw _ (List.mem_of_getElem? (i := 117) rfl)
theorem w118 {a0 : Array Value} {Z : State} (hw : HW a0 Z) : (Jvm.Cond.methodLink "java/lang/String" (209 : Nat) ({ cls := "java/lang/String", name := "<init>", desc := "([BB)V" } : Jvm.MethodName)).before a0 Z = true := hw _ (List.mem_of_getElem? (i := 118) rfl)
theorem w119 {a0 : Array Value} {Z : State} (hw : HW a0 Z) : (Jvm.Cond.instanceMethod ({ cls := "java/lang/String", name := "<init>", desc := "([BB)V" } : Jvm.MethodName)).before a0 Z = true := hw _ (List.mem_of_getElem? (i := 119) rfl)
theorem w120 {a0 : Array Value} {Z : State} (hw : HW a0 Z) : (Jvm.Cond.code ({ cls := "java/lang/String", name := "<init>", desc := "([BB)V" } : Jvm.MethodName) jdk_42_method_151_code (3 : Nat) (Option.none : Option Jvm.ClassFile.FieldType)).before a0 Z = true := hw _ (List.mem_of_getElem? (i := 120) rfl)
theorem w121 {a0 : Array Value} {Z : State} (hw : HW a0 Z) : (Jvm.Cond.methodLink "java/lang/String" (1018 : Nat) ({ cls := "java/lang/StringLatin1", name := "toBytes", desc := "(C)[B" } : Jvm.MethodName)).before a0 Z = true := hw _ (List.mem_of_getElem? (i := 121) rfl)
theorem w122 {a0 : Array Value} {Z : State} (hw : HW a0 Z) : (Jvm.Cond.static ({ cls := "java/lang/StringLatin1", name := "toBytes", desc := "(C)[B" } : Jvm.MethodName)).before a0 Z = true := hw _ (List.mem_of_getElem? (i := 122) rfl)
theorem w123 {a0 : Array Value} {Z : State} (hw : HW a0 Z) : (Jvm.Cond.code ({ cls := "java/lang/StringLatin1", name := "toBytes", desc := "(C)[B" } : Jvm.MethodName) jdk_43_method_46_code (1 : Nat) (Option.some (Jvm.ClassFile.FieldType.array Jvm.ClassFile.FieldType.byte))).before a0 Z = true := hw _ (List.mem_of_getElem? (i := 123) rfl)
theorem w124 {a0 : Array Value} {Z : State} (hw : HW a0 Z) : (Jvm.Cond.fieldLink "com/example/petrel/petrel/TokenIsPunctuationPinLaw" (44 : Nat) "com/example/petrel/petrel/HoaLexer$Kind" "IDENTIFIER" "Lcom/example/petrel/petrel/HoaLexer$Kind;").before a0 Z = true := hw _ (List.mem_of_getElem? (i := 124) rfl)
theorem w125 {a0 : Array Value} {Z : State} (hw : HW a0 Z) : (Jvm.Cond.laysStatic "com/example/petrel/petrel/HoaLexer$Kind" "IDENTIFIER" "Lcom/example/petrel/petrel/HoaLexer$Kind;").before a0 Z = true := hw _ (List.mem_of_getElem? (i := 125) rfl)
theorem w126 {a0 : Array Value} {Z : State} (hw : HW a0 Z) : (Jvm.Cond.fieldLink "com/example/petrel/petrel/TokenIsPunctuationPinLaw" (59 : Nat) "com/example/petrel/petrel/HoaLexer$Kind" "END" "Lcom/example/petrel/petrel/HoaLexer$Kind;").before a0 Z = true := hw _ (List.mem_of_getElem? (i := 126) rfl)
theorem w127 {a0 : Array Value} {Z : State} (hw : HW a0 Z) : (Jvm.Cond.laysStatic "com/example/petrel/petrel/HoaLexer$Kind" "END" "Lcom/example/petrel/petrel/HoaLexer$Kind;").before a0 Z = true := hw _ (List.mem_of_getElem? (i := 127) rfl)
theorem w128 {a0 : Array Value} {Z : State} (hw : HW a0 Z) : (Jvm.Cond.fieldLink "com/example/petrel/petrel/TokenIsPunctuationPinLaw" (62 : Nat) "com/example/petrel/petrel/HoaLexer$Kind" "ABORT" "Lcom/example/petrel/petrel/HoaLexer$Kind;").before a0 Z = true := hw _ (List.mem_of_getElem? (i := 128) rfl)
theorem w129 {a0 : Array Value} {Z : State} (hw : HW a0 Z) : (Jvm.Cond.laysStatic "com/example/petrel/petrel/HoaLexer$Kind" "ABORT" "Lcom/example/petrel/petrel/HoaLexer$Kind;").before a0 Z = true := hw _ (List.mem_of_getElem? (i := 129) rfl)
theorem w130 {a0 : Array Value} {Z : State} (hw : HW a0 Z) : (Jvm.Cond.fieldLink "com/example/petrel/petrel/TokenIsPunctuationPinLaw" (68 : Nat) "com/example/petrel/petrel/HoaLexer$Kind" "END_OF_FILE" "Lcom/example/petrel/petrel/HoaLexer$Kind;").before a0 Z = true := hw _ (List.mem_of_getElem? (i := 130) rfl)
theorem w131 {a0 : Array Value} {Z : State} (hw : HW a0 Z) : (Jvm.Cond.laysStatic "com/example/petrel/petrel/HoaLexer$Kind" "END_OF_FILE" "Lcom/example/petrel/petrel/HoaLexer$Kind;").before a0 Z = true := hw _ (List.mem_of_getElem? (i := 131) rfl)
theorem w132 {a0 : Array Value} {Z : State} (hw : HW a0 Z) : (Jvm.Cond.methodLink "com/example/petrel/petrel/HoaLexer$Token" (36 : Nat) ({ cls := "java/lang/String", name := "charAt", desc := "(I)C" } : Jvm.MethodName)).before a0 Z = true := hw _ (List.mem_of_getElem? (i := 132) rfl)
theorem w133 {a0 : Array Value} {Z : State} (hw : HW a0 Z) : (Jvm.Cond.declares ({ cls := "java/lang/String", name := "charAt", desc := "(I)C" } : Jvm.MethodName)).before a0 Z = true := hw _ (List.mem_of_getElem? (i := 133) rfl)
theorem w134 {a0 : Array Value} {Z : State} (hw : HW a0 Z) : (Jvm.Cond.instanceMethod ({ cls := "java/lang/String", name := "charAt", desc := "(I)C" } : Jvm.MethodName)).before a0 Z = true := hw _ (List.mem_of_getElem? (i := 134) rfl)
theorem w135 {a0 : Array Value} {Z : State} (hw : HW a0 Z) : (Jvm.Cond.selects "java/lang/String" ({ cls := "java/lang/String", name := "charAt", desc := "(I)C" } : Jvm.MethodName) ({ cls := "java/lang/String", name := "charAt", desc := "(I)C" } : Jvm.MethodName)).before a0 Z = true := hw _ (List.mem_of_getElem? (i := 135) rfl)
theorem w136 {a0 : Array Value} {Z : State} (hw : HW a0 Z) : (Jvm.Cond.code ({ cls := "java/lang/String", name := "charAt", desc := "(I)C" } : Jvm.MethodName) jdk_42_method_56_code (2 : Nat) (Option.some Jvm.ClassFile.FieldType.char)).before a0 Z = true := hw _ (List.mem_of_getElem? (i := 136) rfl)
theorem w137 {a0 : Array Value} {Z : State} (hw : HW a0 Z) : (Jvm.Cond.methodLink "java/lang/String" (492 : Nat) ({ cls := "java/lang/String", name := "isLatin1", desc := "()Z" } : Jvm.MethodName)).before a0 Z = true := hw _ (List.mem_of_getElem? (i := 137) rfl)
theorem w138 {a0 : Array Value} {Z : State} (hw : HW a0 Z) : (Jvm.Cond.declares ({ cls := "java/lang/String", name := "isLatin1", desc := "()Z" } : Jvm.MethodName)).before a0 Z = true := hw _ (List.mem_of_getElem? (i := 138) rfl)
theorem w139 {a0 : Array Value} {Z : State} (hw : HW a0 Z) : (Jvm.Cond.instanceMethod ({ cls := "java/lang/String", name := "isLatin1", desc := "()Z" } : Jvm.MethodName)).before a0 Z = true := hw _ (List.mem_of_getElem? (i := 139) rfl)
theorem w140 {a0 : Array Value} {Z : State} (hw : HW a0 Z) : (Jvm.Cond.selects "java/lang/String" ({ cls := "java/lang/String", name := "isLatin1", desc := "()Z" } : Jvm.MethodName) ({ cls := "java/lang/String", name := "isLatin1", desc := "()Z" } : Jvm.MethodName)).before a0 Z = true := hw _ (List.mem_of_getElem? (i := 140) rfl)
theorem w141 {a0 : Array Value} {Z : State} (hw : HW a0 Z) : (Jvm.Cond.code ({ cls := "java/lang/String", name := "isLatin1", desc := "()Z" } : Jvm.MethodName) jdk_42_method_154_code (1 : Nat) (Option.some Jvm.ClassFile.FieldType.boolean)).before a0 Z = true := hw _ (List.mem_of_getElem? (i := 141) rfl)
theorem w142 {a0 : Array Value} {Z : State} (hw : HW a0 Z) : (Jvm.Cond.methodLink "java/lang/String" (495 : Nat) ({ cls := "java/lang/StringLatin1", name := "charAt", desc := "([BI)C" } : Jvm.MethodName)).before a0 Z = true := hw _ (List.mem_of_getElem? (i := 142) rfl)
theorem w143 {a0 : Array Value} {Z : State} (hw : HW a0 Z) : (Jvm.Cond.static ({ cls := "java/lang/StringLatin1", name := "charAt", desc := "([BI)C" } : Jvm.MethodName)).before a0 Z = true := hw _ (List.mem_of_getElem? (i := 143) rfl)
theorem w144 {a0 : Array Value} {Z : State} (hw : HW a0 Z) : (Jvm.Cond.code ({ cls := "java/lang/StringLatin1", name := "charAt", desc := "([BI)C" } : Jvm.MethodName) jdk_43_method_2_code (2 : Nat) (Option.some Jvm.ClassFile.FieldType.char)).before a0 Z = true := hw _ (List.mem_of_getElem? (i := 144) rfl)
theorem w145 {a0 : Array Value} {Z : State} (hw : HW a0 Z) : (Jvm.Cond.methodLink "java/lang/StringLatin1" (9 : Nat) ({ cls := "java/lang/String", name := "checkIndex", desc := "(II)V" } : Jvm.MethodName)).before a0 Z = true := hw _ (List.mem_of_getElem? (i := 145) rfl)
theorem w146 {a0 : Array Value} {Z : State} (hw : HW a0 Z) : (Jvm.Cond.static ({ cls := "java/lang/String", name := "checkIndex", desc := "(II)V" } : Jvm.MethodName)).before a0 Z = true := hw _ (List.mem_of_getElem? (i := 146) rfl)
theorem w147 {a0 : Array Value} {Z : State} (hw : HW a0 Z) : (Jvm.Cond.code ({ cls := "java/lang/String", name := "checkIndex", desc := "(II)V" } : Jvm.MethodName) jdk_42_method_155_code (2 : Nat) (Option.none : Option Jvm.ClassFile.FieldType)).before a0 Z = true := hw _ (List.mem_of_getElem? (i := 147) rfl)
theorem w148 {a0 : Array Value} {Z : State} (hw : HW a0 Z) : (Jvm.Cond.fieldLink "java/lang/String" (1053 : Nat) "jdk/internal/util/Preconditions" "SIOOBE_FORMATTER" "Ljava/util/function/BiFunction;").before a0 Z = true := hw _ (List.mem_of_getElem? (i := 148) rfl)
theorem w149 {a0 : Array Value} {Z : State} (hw : HW a0 Z) : (Jvm.Cond.initialized "jdk/internal/util/Preconditions").before a0 Z = true := hw _ (List.mem_of_getElem? (i := 149) rfl)
theorem w150 {a0 : Array Value} {Z : State} (hw : HW a0 Z) : (Jvm.Cond.methodLink "java/lang/String" (1059 : Nat) ({ cls := "jdk/internal/util/Preconditions", name := "checkIndex", desc := "(IILjava/util/function/BiFunction;)I" } : Jvm.MethodName)).before a0 Z = true := hw _ (List.mem_of_getElem? (i := 150) rfl)
theorem w151 {a0 : Array Value} {Z : State} (hw : HW a0 Z) : (Jvm.Cond.static ({ cls := "jdk/internal/util/Preconditions", name := "checkIndex", desc := "(IILjava/util/function/BiFunction;)I" } : Jvm.MethodName)).before a0 Z = true := hw _ (List.mem_of_getElem? (i := 151) rfl)
theorem w152 {a0 : Array Value} {Z : State} (hw : HW a0 Z) : (Jvm.Cond.code ({ cls := "jdk/internal/util/Preconditions", name := "checkIndex", desc := "(IILjava/util/function/BiFunction;)I" } : Jvm.MethodName) jdk_41_method_11_code (3 : Nat) (Option.some Jvm.ClassFile.FieldType.int)).before a0 Z = true := hw _ (List.mem_of_getElem? (i := 152) rfl)
theorem w153 {a0 : Array Value} {Z : State} (hw : HW a0 Z) : (Jvm.Cond.methodLink "java/lang/String" (498 : Nat) ({ cls := "java/lang/StringUTF16", name := "charAt", desc := "([BI)C" } : Jvm.MethodName)).before a0 Z = true := hw _ (List.mem_of_getElem? (i := 153) rfl)
theorem w154 {a0 : Array Value} {Z : State} (hw : HW a0 Z) : (Jvm.Cond.static ({ cls := "java/lang/StringUTF16", name := "charAt", desc := "([BI)C" } : Jvm.MethodName)).before a0 Z = true := hw _ (List.mem_of_getElem? (i := 154) rfl)
theorem w155 {a0 : Array Value} {Z : State} (hw : HW a0 Z) : (Jvm.Cond.code ({ cls := "java/lang/StringUTF16", name := "charAt", desc := "([BI)C" } : Jvm.MethodName) jdk_52_method_83_code (2 : Nat) (Option.some Jvm.ClassFile.FieldType.char)).before a0 Z = true := hw _ (List.mem_of_getElem? (i := 155) rfl)
theorem w156 {a0 : Array Value} {Z : State} (hw : HW a0 Z) : (Jvm.Cond.methodLink "java/lang/StringUTF16" (67 : Nat) ({ cls := "java/lang/StringUTF16", name := "checkIndex", desc := "(I[B)V" } : Jvm.MethodName)).before a0 Z = true := hw _ (List.mem_of_getElem? (i := 156) rfl)
theorem w157 {a0 : Array Value} {Z : State} (hw : HW a0 Z) : (Jvm.Cond.static ({ cls := "java/lang/StringUTF16", name := "checkIndex", desc := "(I[B)V" } : Jvm.MethodName)).before a0 Z = true := hw _ (List.mem_of_getElem? (i := 157) rfl)
theorem w158 {a0 : Array Value} {Z : State} (hw : HW a0 Z) : (Jvm.Cond.code ({ cls := "java/lang/StringUTF16", name := "checkIndex", desc := "(I[B)V" } : Jvm.MethodName) jdk_52_method_91_code (2 : Nat) (Option.none : Option Jvm.ClassFile.FieldType)).before a0 Z = true := hw _ (List.mem_of_getElem? (i := 158) rfl)
theorem w159 {a0 : Array Value} {Z : State} (hw : HW a0 Z) : (Jvm.Cond.methodLink "java/lang/StringUTF16" (48 : Nat) ({ cls := "java/lang/StringUTF16", name := "length", desc := "([B)I" } : Jvm.MethodName)).before a0 Z = true := hw _ (List.mem_of_getElem? (i := 159) rfl)
theorem w160 {a0 : Array Value} {Z : State} (hw : HW a0 Z) : (Jvm.Cond.static ({ cls := "java/lang/StringUTF16", name := "length", desc := "([B)I" } : Jvm.MethodName)).before a0 Z = true := hw _ (List.mem_of_getElem? (i := 160) rfl)
theorem w161 {a0 : Array Value} {Z : State} (hw : HW a0 Z) : (Jvm.Cond.code ({ cls := "java/lang/StringUTF16", name := "length", desc := "([B)I" } : Jvm.MethodName) jdk_52_method_6_code (1 : Nat) (Option.some Jvm.ClassFile.FieldType.int)).before a0 Z = true := hw _ (List.mem_of_getElem? (i := 161) rfl)
theorem w162 {a0 : Array Value} {Z : State} (hw : HW a0 Z) : (Jvm.Cond.methodLink "java/lang/StringUTF16" (414 : Nat) ({ cls := "java/lang/String", name := "checkIndex", desc := "(II)V" } : Jvm.MethodName)).before a0 Z = true := hw _ (List.mem_of_getElem? (i := 162) rfl)
theorem d1_0 : decode method_3_code 0 = .ok (.iload_n 0, 1) := by decide +kernel
theorem d1_1 : decode method_3_code 1 = .ok (.ifCond .ne 6, 3) := by decide +kernel
theorem d1_4 : decode method_3_code 4 = .ok (.ldc 27, 2) := by decide +kernel
theorem d1_6 : decode method_3_code 6 = .ok (.areturn, 1) := by decide +kernel
theorem d1_7 : decode method_3_code 7 = .ok (.iload_n 0, 1) := by decide +kernel
theorem d1_8 : decode method_3_code 8 = .ok (.iconst 1, 1) := by decide +kernel
theorem d1_9 : decode method_3_code 9 = .ok (.if_icmp .ne 8, 3) := by decide +kernel
theorem d1_12 : decode method_3_code 12 = .ok (.iload_n 1, 1) := by decide +kernel
theorem d1_13 : decode method_3_code 13 = .ok (.invokestatic 29, 3) := by decide +kernel
theorem d1_16 : decode method_3_code 16 = .ok (.areturn, 1) := by decide +kernel
theorem d1_17 : decode method_3_code 17 = .ok (.iload_n 0, 1) := by decide +kernel
theorem d1_18 : decode method_3_code 18 = .ok (.iconst 2, 1) := by decide +kernel
theorem d1_19 : decode method_3_code 19 = .ok (.if_icmp .ne 22, 3) := by decide +kernel
theorem d1_22 : decode method_3_code 22 = .ok (.new 30, 3) := by decide +kernel
theorem d1_25 : decode method_3_code 25 = .ok (.dup, 1) := by decide +kernel
theorem d1_26 : decode method_3_code 26 = .ok (.iconst 2, 1) := by decide +kernel
theorem d1_27 : decode method_3_code 27 = .ok (.newarray .char, 2) := by decide +kernel
theorem d1_29 : decode method_3_code 29 = .ok (.dup, 1) := by decide +kernel
theorem d1_30 : decode method_3_code 30 = .ok (.iconst 0, 1) := by decide +kernel
theorem d1_31 : decode method_3_code 31 = .ok (.iload_n 1, 1) := by decide +kernel
theorem d1_32 : decode method_3_code 32 = .ok (.castore, 1) := by decide +kernel
theorem d1_33 : decode method_3_code 33 = .ok (.dup, 1) := by decide +kernel
theorem d1_34 : decode method_3_code 34 = .ok (.iconst 1, 1) := by decide +kernel
theorem d1_35 : decode method_3_code 35 = .ok (.iload_n 2, 1) := by decide +kernel
theorem d1_36 : decode method_3_code 36 = .ok (.castore, 1) := by decide +kernel
theorem d1_37 : decode method_3_code 37 = .ok (.invokespecial 35, 3) := by decide +kernel
theorem d1_40 : decode method_3_code 40 = .ok (.areturn, 1) := by decide +kernel
theorem d1_41 : decode method_3_code 41 = .ok (.new 30, 3) := by decide +kernel
theorem d1_44 : decode method_3_code 44 = .ok (.dup, 1) := by decide +kernel
theorem d1_45 : decode method_3_code 45 = .ok (.iconst 3, 1) := by decide +kernel
theorem d1_46 : decode method_3_code 46 = .ok (.newarray .char, 2) := by decide +kernel
theorem d1_48 : decode method_3_code 48 = .ok (.dup, 1) := by decide +kernel
theorem d1_49 : decode method_3_code 49 = .ok (.iconst 0, 1) := by decide +kernel
theorem d1_50 : decode method_3_code 50 = .ok (.iload_n 1, 1) := by decide +kernel
theorem d1_51 : decode method_3_code 51 = .ok (.castore, 1) := by decide +kernel
theorem d1_52 : decode method_3_code 52 = .ok (.dup, 1) := by decide +kernel
theorem d1_53 : decode method_3_code 53 = .ok (.iconst 1, 1) := by decide +kernel
theorem d1_54 : decode method_3_code 54 = .ok (.iload_n 2, 1) := by decide +kernel
theorem d1_55 : decode method_3_code 55 = .ok (.castore, 1) := by decide +kernel
theorem d1_56 : decode method_3_code 56 = .ok (.dup, 1) := by decide +kernel
theorem d1_57 : decode method_3_code 57 = .ok (.iconst 2, 1) := by decide +kernel
theorem d1_58 : decode method_3_code 58 = .ok (.iload_n 3, 1) := by decide +kernel
theorem d1_59 : decode method_3_code 59 = .ok (.castore, 1) := by decide +kernel
theorem d1_60 : decode method_3_code 60 = .ok (.invokespecial 35, 3) := by decide +kernel
theorem d1_63 : decode method_3_code 63 = .ok (.areturn, 1) := by decide +kernel
theorem d2_0 : decode jdk_42_method_3_code 0 = .ok (.aload_n 0, 1) := by decide +kernel
theorem d2_1 : decode jdk_42_method_3_code 1 = .ok (.aload_n 1, 1) := by decide +kernel
theorem d2_2 : decode jdk_42_method_3_code 2 = .ok (.iconst 0, 1) := by decide +kernel
theorem d2_3 : decode jdk_42_method_3_code 3 = .ok (.aload_n 1, 1) := by decide +kernel
theorem d2_4 : decode jdk_42_method_3_code 4 = .ok (.arraylength, 1) := by decide +kernel
theorem d2_5 : decode jdk_42_method_3_code 5 = .ok (.aconst_null, 1) := by decide +kernel
theorem d2_6 : decode jdk_42_method_3_code 6 = .ok (.invokespecial 27, 3) := by decide +kernel
theorem d2_9 : decode jdk_42_method_3_code 9 = .ok (.return_, 1) := by decide +kernel
theorem d3_0 : decode jdk_42_method_149_code 0 = .ok (.aload_n 0, 1) := by decide +kernel
theorem d3_1 : decode jdk_42_method_149_code 1 = .ok (.invokespecial 1, 3) := by decide +kernel
theorem d3_4 : decode jdk_42_method_149_code 4 = .ok (.iload_n 3, 1) := by decide +kernel
theorem d3_5 : decode jdk_42_method_149_code 5 = .ok (.ifCond .ne 22, 3) := by decide +kernel
theorem d3_27 : decode jdk_42_method_149_code 27 = .ok (.getstatic 38, 3) := by decide +kernel
theorem d3_30 : decode jdk_42_method_149_code 30 = .ok (.ifCond .eq 28, 3) := by decide +kernel
theorem d3_33 : decode jdk_42_method_149_code 33 = .ok (.aload_n 1, 1) := by decide +kernel
theorem d3_34 : decode jdk_42_method_149_code 34 = .ok (.iload_n 2, 1) := by decide +kernel
theorem d3_35 : decode jdk_42_method_149_code 35 = .ok (.iload_n 3, 1) := by decide +kernel
theorem d3_36 : decode jdk_42_method_149_code 36 = .ok (.invokestatic 177, 3) := by decide +kernel
theorem d3_39 : decode jdk_42_method_149_code 39 = .ok (.astore 5, 2) := by decide +kernel
theorem d3_41 : decode jdk_42_method_149_code 41 = .ok (.aload_n 0, 1) := by decide +kernel
theorem d3_42 : decode jdk_42_method_149_code 42 = .ok (.aload 5, 2) := by decide +kernel
theorem d3_44 : decode jdk_42_method_149_code 44 = .ok (.iload_n 3, 1) := by decide +kernel
theorem d3_45 : decode jdk_42_method_149_code 45 = .ok (.invokestatic 47, 3) := by decide +kernel
theorem d3_48 : decode jdk_42_method_149_code 48 = .ok (.putfield 15, 3) := by decide +kernel
theorem d3_51 : decode jdk_42_method_149_code 51 = .ok (.aload_n 0, 1) := by decide +kernel
theorem d3_52 : decode jdk_42_method_149_code 52 = .ok (.aload 5, 2) := by decide +kernel
theorem d3_54 : decode jdk_42_method_149_code 54 = .ok (.putfield 9, 3) := by decide +kernel
theorem d3_57 : decode jdk_42_method_149_code 57 = .ok (.return_, 1) := by decide +kernel
theorem d5_0 : decode jdk_52_method_16_code 0 = .ok (.iload_n 2, 1) := by decide +kernel
theorem d5_1 : decode jdk_52_method_16_code 1 = .ok (.newarray .byte, 2) := by decide +kernel
theorem d5_3 : decode jdk_52_method_16_code 3 = .ok (.astore_n 3, 1) := by decide +kernel
theorem d5_4 : decode jdk_52_method_16_code 4 = .ok (.aload_n 0, 1) := by decide +kernel
theorem d5_5 : decode jdk_52_method_16_code 5 = .ok (.iload_n 1, 1) := by decide +kernel
theorem d5_6 : decode jdk_52_method_16_code 6 = .ok (.aload_n 3, 1) := by decide +kernel
theorem d5_7 : decode jdk_52_method_16_code 7 = .ok (.iconst 0, 1) := by decide +kernel
theorem d5_8 : decode jdk_52_method_16_code 8 = .ok (.iload_n 2, 1) := by decide +kernel
theorem d5_9 : decode jdk_52_method_16_code 9 = .ok (.invokestatic 115, 3) := by decide +kernel
theorem d5_12 : decode jdk_52_method_16_code 12 = .ok (.istore 4, 2) := by decide +kernel
theorem d5_14 : decode jdk_52_method_16_code 14 = .ok (.iload 4, 2) := by decide +kernel
theorem d5_16 : decode jdk_52_method_16_code 16 = .ok (.iload_n 2, 1) := by decide +kernel
theorem d5_17 : decode jdk_52_method_16_code 17 = .ok (.if_icmp .eq 40, 3) := by decide +kernel
theorem d5_20 : decode jdk_52_method_16_code 20 = .ok (.aload_n 0, 1) := by decide +kernel
theorem d5_21 : decode jdk_52_method_16_code 21 = .ok (.iload_n 1, 1) := by decide +kernel
theorem d5_22 : decode jdk_52_method_16_code 22 = .ok (.iload_n 2, 1) := by decide +kernel
theorem d5_23 : decode jdk_52_method_16_code 23 = .ok (.invokestatic 119, 3) := by decide +kernel
theorem d5_26 : decode jdk_52_method_16_code 26 = .ok (.astore 5, 2) := by decide +kernel
theorem d5_28 : decode jdk_52_method_16_code 28 = .ok (.aload 5, 2) := by decide +kernel
theorem d5_30 : decode jdk_52_method_16_code 30 = .ok (.iload 4, 2) := by decide +kernel
theorem d5_32 : decode jdk_52_method_16_code 32 = .ok (.invokestatic 71, 3) := by decide +kernel
theorem d5_35 : decode jdk_52_method_16_code 35 = .ok (.sipush 255, 3) := by decide +kernel
theorem d5_38 : decode jdk_52_method_16_code 38 = .ok (.if_icmp .gt 16, 3) := by decide +kernel
theorem d5_54 : decode jdk_52_method_16_code 54 = .ok (.aload 5, 2) := by decide +kernel
theorem d5_56 : decode jdk_52_method_16_code 56 = .ok (.areturn, 1) := by decide +kernel
theorem d5_57 : decode jdk_52_method_16_code 57 = .ok (.aload_n 3, 1) := by decide +kernel
theorem d5_58 : decode jdk_52_method_16_code 58 = .ok (.areturn, 1) := by decide +kernel
theorem d6_0 : decode jdk_52_method_21_code 0 = .ok (.iconst 0, 1) := by decide +kernel
theorem d6_1 : decode jdk_52_method_21_code 1 = .ok (.istore 5, 2) := by decide +kernel
theorem d6_3 : decode jdk_52_method_21_code 3 = .ok (.iload 5, 2) := by decide +kernel
theorem d6_5 : decode jdk_52_method_21_code 5 = .ok (.iload 4, 2) := by decide +kernel
theorem d6_7 : decode jdk_52_method_21_code 7 = .ok (.if_icmp .ge 37, 3) := by decide +kernel
theorem d6_10 : decode jdk_52_method_21_code 10 = .ok (.aload_n 0, 1) := by decide +kernel
theorem d6_11 : decode jdk_52_method_21_code 11 = .ok (.iload_n 1, 1) := by decide +kernel
theorem d6_12 : decode jdk_52_method_21_code 12 = .ok (.caload, 1) := by decide +kernel
theorem d6_13 : decode jdk_52_method_21_code 13 = .ok (.istore 6, 2) := by decide +kernel
theorem d6_15 : decode jdk_52_method_21_code 15 = .ok (.iload 6, 2) := by decide +kernel
theorem d6_17 : decode jdk_52_method_21_code 17 = .ok (.sipush 255, 3) := by decide +kernel
theorem d6_20 : decode jdk_52_method_21_code 20 = .ok (.if_icmp .le 6, 3) := by decide +kernel
theorem d6_23 : decode jdk_52_method_21_code 23 = .ok (.iload 5, 2) := by decide +kernel
theorem d6_25 : decode jdk_52_method_21_code 25 = .ok (.ireturn, 1) := by decide +kernel
theorem d6_26 : decode jdk_52_method_21_code 26 = .ok (.aload_n 2, 1) := by decide +kernel
theorem d6_27 : decode jdk_52_method_21_code 27 = .ok (.iload_n 3, 1) := by decide +kernel
theorem d6_28 : decode jdk_52_method_21_code 28 = .ok (.iload 6, 2) := by decide +kernel
theorem d6_30 : decode jdk_52_method_21_code 30 = .ok (.i2b, 1) := by decide +kernel
theorem d6_31 : decode jdk_52_method_21_code 31 = .ok (.bastore, 1) := by decide +kernel
theorem d6_32 : decode jdk_52_method_21_code 32 = .ok (.iinc 1 1, 3) := by decide +kernel
theorem d6_35 : decode jdk_52_method_21_code 35 = .ok (.iinc 3 1, 3) := by decide +kernel
theorem d6_38 : decode jdk_52_method_21_code 38 = .ok (.iinc 5 1, 3) := by decide +kernel
theorem d6_41 : decode jdk_52_method_21_code 41 = .ok (.goto (-38), 3) := by decide +kernel
theorem d6_44 : decode jdk_52_method_21_code 44 = .ok (.iload 4, 2) := by decide +kernel
theorem d6_46 : decode jdk_52_method_21_code 46 = .ok (.ireturn, 1) := by decide +kernel
theorem d7_0 : decode jdk_52_method_15_code 0 = .ok (.iload_n 1, 1) := by decide +kernel
theorem d7_1 : decode jdk_52_method_15_code 1 = .ok (.aload_n 0, 1) := by decide +kernel
theorem d7_2 : decode jdk_52_method_15_code 2 = .ok (.arraylength, 1) := by decide +kernel
theorem d7_3 : decode jdk_52_method_15_code 3 = .ok (.isub, 1) := by decide +kernel
theorem d7_4 : decode jdk_52_method_15_code 4 = .ok (.bipush 31, 2) := by decide +kernel
theorem d7_6 : decode jdk_52_method_15_code 6 = .ok (.iushr, 1) := by decide +kernel
theorem d7_7 : decode jdk_52_method_15_code 7 = .ok (.i2b, 1) := by decide +kernel
theorem d7_8 : decode jdk_52_method_15_code 8 = .ok (.ireturn, 1) := by decide +kernel
theorem d8_0 : decode method_4_code 0 = .ok (.iload_n 0, 1) := by decide +kernel
theorem d8_1 : decode method_4_code 1 = .ok (.ifCond .ne 7, 3) := by decide +kernel
theorem d8_4 : decode method_4_code 4 = .ok (.getstatic 38, 3) := by decide +kernel
theorem d8_7 : decode method_4_code 7 = .ok (.areturn, 1) := by decide +kernel
theorem d8_8 : decode method_4_code 8 = .ok (.iload_n 0, 1) := by decide +kernel
theorem d8_9 : decode method_4_code 9 = .ok (.iconst 1, 1) := by decide +kernel
theorem d8_10 : decode method_4_code 10 = .ok (.if_icmp .ne 7, 3) := by decide +kernel
theorem d8_13 : decode method_4_code 13 = .ok (.getstatic 44, 3) := by decide +kernel
theorem d8_16 : decode method_4_code 16 = .ok (.areturn, 1) := by decide +kernel
theorem d8_17 : decode method_4_code 17 = .ok (.iload_n 0, 1) := by decide +kernel
theorem d8_18 : decode method_4_code 18 = .ok (.iconst 2, 1) := by decide +kernel
theorem d8_19 : decode method_4_code 19 = .ok (.if_icmp .ne 7, 3) := by decide +kernel
theorem d8_22 : decode method_4_code 22 = .ok (.getstatic 47, 3) := by decide +kernel
theorem d8_25 : decode method_4_code 25 = .ok (.areturn, 1) := by decide +kernel
theorem d8_26 : decode method_4_code 26 = .ok (.iload_n 0, 1) := by decide +kernel
theorem d8_27 : decode method_4_code 27 = .ok (.iconst 3, 1) := by decide +kernel
theorem d8_28 : decode method_4_code 28 = .ok (.if_icmp .ne 7, 3) := by decide +kernel
theorem d8_31 : decode method_4_code 31 = .ok (.getstatic 50, 3) := by decide +kernel
theorem d8_34 : decode method_4_code 34 = .ok (.areturn, 1) := by decide +kernel
theorem d8_35 : decode method_4_code 35 = .ok (.iload_n 0, 1) := by decide +kernel
theorem d8_36 : decode method_4_code 36 = .ok (.iconst 4, 1) := by decide +kernel
theorem d8_37 : decode method_4_code 37 = .ok (.if_icmp .ne 7, 3) := by decide +kernel
theorem d8_40 : decode method_4_code 40 = .ok (.getstatic 53, 3) := by decide +kernel
theorem d8_43 : decode method_4_code 43 = .ok (.areturn, 1) := by decide +kernel
theorem d8_44 : decode method_4_code 44 = .ok (.iload_n 0, 1) := by decide +kernel
theorem d8_45 : decode method_4_code 45 = .ok (.iconst 5, 1) := by decide +kernel
theorem d8_46 : decode method_4_code 46 = .ok (.if_icmp .ne 7, 3) := by decide +kernel
theorem d8_49 : decode method_4_code 49 = .ok (.getstatic 56, 3) := by decide +kernel
theorem d8_52 : decode method_4_code 52 = .ok (.areturn, 1) := by decide +kernel
theorem d8_53 : decode method_4_code 53 = .ok (.iload_n 0, 1) := by decide +kernel
theorem d8_54 : decode method_4_code 54 = .ok (.bipush 6, 2) := by decide +kernel
theorem d8_56 : decode method_4_code 56 = .ok (.if_icmp .ne 7, 3) := by decide +kernel
theorem d8_59 : decode method_4_code 59 = .ok (.getstatic 59, 3) := by decide +kernel
theorem d8_62 : decode method_4_code 62 = .ok (.areturn, 1) := by decide +kernel
theorem d8_63 : decode method_4_code 63 = .ok (.iload_n 0, 1) := by decide +kernel
theorem d8_64 : decode method_4_code 64 = .ok (.bipush 7, 2) := by decide +kernel
theorem d8_66 : decode method_4_code 66 = .ok (.if_icmp .ne 7, 3) := by decide +kernel
theorem d8_69 : decode method_4_code 69 = .ok (.getstatic 62, 3) := by decide +kernel
theorem d8_72 : decode method_4_code 72 = .ok (.areturn, 1) := by decide +kernel
theorem d8_73 : decode method_4_code 73 = .ok (.iload_n 0, 1) := by decide +kernel
theorem d8_74 : decode method_4_code 74 = .ok (.bipush 8, 2) := by decide +kernel
theorem d8_76 : decode method_4_code 76 = .ok (.if_icmp .ne 7, 3) := by decide +kernel
theorem d8_79 : decode method_4_code 79 = .ok (.getstatic 65, 3) := by decide +kernel
theorem d8_82 : decode method_4_code 82 = .ok (.areturn, 1) := by decide +kernel
theorem d8_83 : decode method_4_code 83 = .ok (.getstatic 68, 3) := by decide +kernel
theorem d8_86 : decode method_4_code 86 = .ok (.areturn, 1) := by decide +kernel
theorem d9_0 : decode prog_10_method_1_code 0 = .ok (.aload_n 0, 1) := by decide +kernel
theorem d9_1 : decode prog_10_method_1_code 1 = .ok (.invokespecial 1, 3) := by decide +kernel
theorem d9_4 : decode prog_10_method_1_code 4 = .ok (.aload_n 0, 1) := by decide +kernel
theorem d9_5 : decode prog_10_method_1_code 5 = .ok (.aload_n 1, 1) := by decide +kernel
theorem d9_6 : decode prog_10_method_1_code 6 = .ok (.putfield 7, 3) := by decide +kernel
theorem d9_9 : decode prog_10_method_1_code 9 = .ok (.aload_n 0, 1) := by decide +kernel
theorem d9_10 : decode prog_10_method_1_code 10 = .ok (.aload_n 2, 1) := by decide +kernel
theorem d9_11 : decode prog_10_method_1_code 11 = .ok (.putfield 13, 3) := by decide +kernel
theorem d9_14 : decode prog_10_method_1_code 14 = .ok (.aload_n 0, 1) := by decide +kernel
theorem d9_15 : decode prog_10_method_1_code 15 = .ok (.iload_n 3, 1) := by decide +kernel
theorem d9_16 : decode prog_10_method_1_code 16 = .ok (.putfield 17, 3) := by decide +kernel
theorem d9_19 : decode prog_10_method_1_code 19 = .ok (.return_, 1) := by decide +kernel
theorem d10_0 : decode jdk_30_method_1_code 0 = .ok (.aload_n 0, 1) := by decide +kernel
theorem d10_1 : decode jdk_30_method_1_code 1 = .ok (.invokespecial 1, 3) := by decide +kernel
theorem d10_4 : decode jdk_30_method_1_code 4 = .ok (.return_, 1) := by decide +kernel
theorem d11_0 : decode prog_10_method_3_code 0 = .ok (.aload_n 0, 1) := by decide +kernel
theorem d11_1 : decode prog_10_method_3_code 1 = .ok (.getfield 7, 3) := by decide +kernel
theorem d11_4 : decode prog_10_method_3_code 4 = .ok (.getstatic 27, 3) := by decide +kernel
theorem d11_7 : decode prog_10_method_3_code 7 = .ok (.if_acmp .ne 30, 3) := by decide +kernel
theorem d11_10 : decode prog_10_method_3_code 10 = .ok (.aload_n 0, 1) := by decide +kernel
theorem d11_11 : decode prog_10_method_3_code 11 = .ok (.getfield 13, 3) := by decide +kernel
theorem d11_14 : decode prog_10_method_3_code 14 = .ok (.invokevirtual 32, 3) := by decide +kernel
theorem d11_17 : decode prog_10_method_3_code 17 = .ok (.iconst 1, 1) := by decide +kernel
theorem d11_18 : decode prog_10_method_3_code 18 = .ok (.if_icmp .ne 19, 3) := by decide +kernel
theorem d11_21 : decode prog_10_method_3_code 21 = .ok (.aload_n 0, 1) := by decide +kernel
theorem d11_22 : decode prog_10_method_3_code 22 = .ok (.getfield 13, 3) := by decide +kernel
theorem d11_25 : decode prog_10_method_3_code 25 = .ok (.iconst 0, 1) := by decide +kernel
theorem d11_26 : decode prog_10_method_3_code 26 = .ok (.invokevirtual 36, 3) := by decide +kernel
theorem d11_29 : decode prog_10_method_3_code 29 = .ok (.iload_n 1, 1) := by decide +kernel
theorem d11_30 : decode prog_10_method_3_code 30 = .ok (.if_icmp .ne 7, 3) := by decide +kernel
theorem d11_33 : decode prog_10_method_3_code 33 = .ok (.iconst 1, 1) := by decide +kernel
theorem d11_34 : decode prog_10_method_3_code 34 = .ok (.goto 4, 3) := by decide +kernel
theorem d11_37 : decode prog_10_method_3_code 37 = .ok (.iconst 0, 1) := by decide +kernel
theorem d11_38 : decode prog_10_method_3_code 38 = .ok (.ireturn, 1) := by decide +kernel
theorem d12_0 : decode jdk_52_method_14_code 0 = .ok (.iload_n 2, 1) := by decide +kernel
theorem d12_1 : decode jdk_52_method_14_code 1 = .ok (.invokestatic 107, 3) := by decide +kernel
theorem d12_4 : decode jdk_52_method_14_code 4 = .ok (.astore_n 3, 1) := by decide +kernel
theorem d12_5 : decode jdk_52_method_14_code 5 = .ok (.iconst 0, 1) := by decide +kernel
theorem d12_6 : decode jdk_52_method_14_code 6 = .ok (.istore 4, 2) := by decide +kernel
theorem d12_8 : decode jdk_52_method_14_code 8 = .ok (.iload 4, 2) := by decide +kernel
theorem d12_10 : decode jdk_52_method_14_code 10 = .ok (.iload_n 2, 1) := by decide +kernel
theorem d12_11 : decode jdk_52_method_14_code 11 = .ok (.if_icmp .ge 21, 3) := by decide +kernel
theorem d12_14 : decode jdk_52_method_14_code 14 = .ok (.aload_n 3, 1) := by decide +kernel
theorem d12_15 : decode jdk_52_method_14_code 15 = .ok (.iload 4, 2) := by decide +kernel
theorem d12_17 : decode jdk_52_method_14_code 17 = .ok (.aload_n 0, 1) := by decide +kernel
theorem d12_18 : decode jdk_52_method_14_code 18 = .ok (.iload_n 1, 1) := by decide +kernel
theorem d12_19 : decode jdk_52_method_14_code 19 = .ok (.caload, 1) := by decide +kernel
theorem d12_20 : decode jdk_52_method_14_code 20 = .ok (.invokestatic 111, 3) := by decide +kernel
theorem d12_23 : decode jdk_52_method_14_code 23 = .ok (.iinc 1 1, 3) := by decide +kernel
theorem d12_26 : decode jdk_52_method_14_code 26 = .ok (.iinc 4 1, 3) := by decide +kernel
theorem d12_29 : decode jdk_52_method_14_code 29 = .ok (.goto (-21), 3) := by decide +kernel
theorem d12_32 : decode jdk_52_method_14_code 32 = .ok (.aload_n 3, 1) := by decide +kernel
theorem d12_33 : decode jdk_52_method_14_code 33 = .ok (.areturn, 1) := by decide +kernel
theorem d13_0 : decode jdk_52_method_2_code 0 = .ok (.iload_n 0, 1) := by decide +kernel
theorem d13_1 : decode jdk_52_method_2_code 1 = .ok (.invokestatic 11, 3) := by decide +kernel
theorem d13_4 : decode jdk_52_method_2_code 4 = .ok (.newarray .byte, 2) := by decide +kernel
theorem d13_6 : decode jdk_52_method_2_code 6 = .ok (.areturn, 1) := by decide +kernel
theorem d14_0 : decode jdk_52_method_3_code 0 = .ok (.iload_n 0, 1) := by decide +kernel
theorem d14_1 : decode jdk_52_method_3_code 1 = .ok (.ifCond .ge 11, 3) := by decide +kernel
theorem d14_12 : decode jdk_52_method_3_code 12 = .ok (.iload_n 0, 1) := by decide +kernel
theorem d14_13 : decode jdk_52_method_3_code 13 = .ok (.ldc 20, 2) := by decide +kernel
theorem d14_15 : decode jdk_52_method_3_code 15 = .ok (.if_icmp .lt 40, 3) := by decide +kernel
theorem d14_55 : decode jdk_52_method_3_code 55 = .ok (.iload_n 0, 1) := by decide +kernel
theorem d14_56 : decode jdk_52_method_3_code 56 = .ok (.iconst 1, 1) := by decide +kernel
theorem d14_57 : decode jdk_52_method_3_code 57 = .ok (.ishl, 1) := by decide +kernel
theorem d14_58 : decode jdk_52_method_3_code 58 = .ok (.ireturn, 1) := by decide +kernel
theorem d15_0 : decode jdk_52_method_4_code 0 = .ok (.getstatic 44, 3) := by decide +kernel
theorem d15_3 : decode jdk_52_method_4_code 3 = .ok (.ifCond .ne 25, 3) := by decide +kernel
theorem d15_28 : decode jdk_52_method_4_code 28 = .ok (.iload_n 1, 1) := by decide +kernel
theorem d15_29 : decode jdk_52_method_4_code 29 = .ok (.iconst 1, 1) := by decide +kernel
theorem d15_30 : decode jdk_52_method_4_code 30 = .ok (.ishl, 1) := by decide +kernel
theorem d15_31 : decode jdk_52_method_4_code 31 = .ok (.istore_n 1, 1) := by decide +kernel
theorem d15_32 : decode jdk_52_method_4_code 32 = .ok (.aload_n 0, 1) := by decide +kernel
theorem d15_33 : decode jdk_52_method_4_code 33 = .ok (.iload_n 1, 1) := by decide +kernel
theorem d15_34 : decode jdk_52_method_4_code 34 = .ok (.iinc 1 1, 3) := by decide +kernel
theorem d15_37 : decode jdk_52_method_4_code 37 = .ok (.iload_n 2, 1) := by decide +kernel
theorem d15_38 : decode jdk_52_method_4_code 38 = .ok (.getstatic 59, 3) := by decide +kernel
theorem d15_41 : decode jdk_52_method_4_code 41 = .ok (.ishr, 1) := by decide +kernel
theorem d15_42 : decode jdk_52_method_4_code 42 = .ok (.i2b, 1) := by decide +kernel
theorem d15_43 : decode jdk_52_method_4_code 43 = .ok (.bastore, 1) := by decide +kernel
theorem d15_44 : decode jdk_52_method_4_code 44 = .ok (.aload_n 0, 1) := by decide +kernel
theorem d15_45 : decode jdk_52_method_4_code 45 = .ok (.iload_n 1, 1) := by decide +kernel
theorem d15_46 : decode jdk_52_method_4_code 46 = .ok (.iload_n 2, 1) := by decide +kernel
theorem d15_47 : decode jdk_52_method_4_code 47 = .ok (.getstatic 63, 3) := by decide +kernel
theorem d15_50 : decode jdk_52_method_4_code 50 = .ok (.ishr, 1) := by decide +kernel
theorem d15_51 : decode jdk_52_method_4_code 51 = .ok (.i2b, 1) := by decide +kernel
theorem d15_52 : decode jdk_52_method_4_code 52 = .ok (.bastore, 1) := by decide +kernel
theorem d15_53 : decode jdk_52_method_4_code 53 = .ok (.return_, 1) := by decide +kernel
theorem d16_0 : decode jdk_52_method_5_code 0 = .ok (.getstatic 44, 3) := by decide +kernel
theorem d16_3 : decode jdk_52_method_5_code 3 = .ok (.ifCond .ne 25, 3) := by decide +kernel
theorem d16_28 : decode jdk_52_method_5_code 28 = .ok (.iload_n 1, 1) := by decide +kernel
theorem d16_29 : decode jdk_52_method_5_code 29 = .ok (.iconst 1, 1) := by decide +kernel
theorem d16_30 : decode jdk_52_method_5_code 30 = .ok (.ishl, 1) := by decide +kernel
theorem d16_31 : decode jdk_52_method_5_code 31 = .ok (.istore_n 1, 1) := by decide +kernel
theorem d16_32 : decode jdk_52_method_5_code 32 = .ok (.aload_n 0, 1) := by decide +kernel
theorem d16_33 : decode jdk_52_method_5_code 33 = .ok (.iload_n 1, 1) := by decide +kernel
theorem d16_34 : decode jdk_52_method_5_code 34 = .ok (.iinc 1 1, 3) := by decide +kernel
theorem d16_37 : decode jdk_52_method_5_code 37 = .ok (.baload, 1) := by decide +kernel
theorem d16_38 : decode jdk_52_method_5_code 38 = .ok (.sipush 255, 3) := by decide +kernel
theorem d16_41 : decode jdk_52_method_5_code 41 = .ok (.iand, 1) := by decide +kernel
theorem d16_42 : decode jdk_52_method_5_code 42 = .ok (.getstatic 59, 3) := by decide +kernel
theorem d16_45 : decode jdk_52_method_5_code 45 = .ok (.ishl, 1) := by decide +kernel
theorem d16_46 : decode jdk_52_method_5_code 46 = .ok (.aload_n 0, 1) := by decide +kernel
theorem d16_47 : decode jdk_52_method_5_code 47 = .ok (.iload_n 1, 1) := by decide +kernel
theorem d16_48 : decode jdk_52_method_5_code 48 = .ok (.baload, 1) := by decide +kernel
theorem d16_49 : decode jdk_52_method_5_code 49 = .ok (.sipush 255, 3) := by decide +kernel
theorem d16_52 : decode jdk_52_method_5_code 52 = .ok (.iand, 1) := by decide +kernel
theorem d16_53 : decode jdk_52_method_5_code 53 = .ok (.getstatic 63, 3) := by decide +kernel
theorem d16_56 : decode jdk_52_method_5_code 56 = .ok (.ishl, 1) := by decide +kernel
theorem d16_57 : decode jdk_52_method_5_code 57 = .ok (.ior, 1) := by decide +kernel
theorem d16_58 : decode jdk_52_method_5_code 58 = .ok (.i2c, 1) := by decide +kernel
theorem d16_59 : decode jdk_52_method_5_code 59 = .ok (.ireturn, 1) := by decide +kernel
theorem d17_0 : decode jdk_42_method_54_code 0 = .ok (.aload_n 0, 1) := by decide +kernel
theorem d17_1 : decode jdk_42_method_54_code 1 = .ok (.getfield 9, 3) := by decide +kernel
theorem d17_4 : decode jdk_42_method_54_code 4 = .ok (.arraylength, 1) := by decide +kernel
theorem d17_5 : decode jdk_42_method_54_code 5 = .ok (.aload_n 0, 1) := by decide +kernel
theorem d17_6 : decode jdk_42_method_54_code 6 = .ok (.invokevirtual 335, 3) := by decide +kernel
theorem d17_9 : decode jdk_42_method_54_code 9 = .ok (.ishr, 1) := by decide +kernel
theorem d17_10 : decode jdk_42_method_54_code 10 = .ok (.ireturn, 1) := by decide +kernel
theorem d18_0 : decode jdk_42_method_152_code 0 = .ok (.getstatic 38, 3) := by decide +kernel
theorem d18_3 : decode jdk_42_method_152_code 3 = .ok (.ifCond .eq 10, 3) := by decide +kernel
theorem d18_6 : decode jdk_42_method_152_code 6 = .ok (.aload_n 0, 1) := by decide +kernel
theorem d18_7 : decode jdk_42_method_152_code 7 = .ok (.getfield 15, 3) := by decide +kernel
theorem d18_10 : decode jdk_42_method_152_code 10 = .ok (.goto 4, 3) := by decide +kernel
theorem d18_14 : decode jdk_42_method_152_code 14 = .ok (.ireturn, 1) := by decide +kernel
theorem d19_0 : decode jdk_42_method_139_code 0 = .ok (.getstatic 38, 3) := by decide +kernel
theorem d19_3 : decode jdk_42_method_139_code 3 = .ok (.ifCond .eq 23, 3) := by decide +kernel
theorem d19_6 : decode jdk_42_method_139_code 6 = .ok (.iload_n 0, 1) := by decide +kernel
theorem d19_7 : decode jdk_42_method_139_code 7 = .ok (.invokestatic 1015, 3) := by decide +kernel
theorem d19_10 : decode jdk_42_method_139_code 10 = .ok (.ifCond .eq 16, 3) := by decide +kernel
theorem d19_13 : decode jdk_42_method_139_code 13 = .ok (.new 10, 3) := by decide +kernel
theorem d19_16 : decode jdk_42_method_139_code 16 = .ok (.dup, 1) := by decide +kernel
theorem d19_17 : decode jdk_42_method_139_code 17 = .ok (.iload_n 0, 1) := by decide +kernel
theorem d19_18 : decode jdk_42_method_139_code 18 = .ok (.invokestatic 1018, 3) := by decide +kernel
theorem d19_21 : decode jdk_42_method_139_code 21 = .ok (.iconst 0, 1) := by decide +kernel
theorem d19_22 : decode jdk_42_method_139_code 22 = .ok (.invokespecial 209, 3) := by decide +kernel
theorem d19_25 : decode jdk_42_method_139_code 25 = .ok (.areturn, 1) := by decide +kernel
theorem d19_26 : decode jdk_42_method_139_code 26 = .ok (.new 10, 3) := by decide +kernel
theorem d19_29 : decode jdk_42_method_139_code 29 = .ok (.dup, 1) := by decide +kernel
theorem d19_30 : decode jdk_42_method_139_code 30 = .ok (.iload_n 0, 1) := by decide +kernel
theorem d19_31 : decode jdk_42_method_139_code 31 = .ok (.invokestatic 1021, 3) := by decide +kernel
theorem d19_34 : decode jdk_42_method_139_code 34 = .ok (.iconst 1, 1) := by decide +kernel
theorem d19_35 : decode jdk_42_method_139_code 35 = .ok (.invokespecial 209, 3) := by decide +kernel
theorem d19_38 : decode jdk_42_method_139_code 38 = .ok (.areturn, 1) := by decide +kernel
theorem d20_0 : decode jdk_43_method_3_code 0 = .ok (.iload_n 0, 1) := by decide +kernel
theorem d20_1 : decode jdk_43_method_3_code 1 = .ok (.sipush 255, 3) := by decide +kernel
theorem d20_4 : decode jdk_43_method_3_code 4 = .ok (.if_icmp .gt 7, 3) := by decide +kernel
theorem d20_7 : decode jdk_43_method_3_code 7 = .ok (.iconst 1, 1) := by decide +kernel
theorem d20_8 : decode jdk_43_method_3_code 8 = .ok (.goto 4, 3) := by decide +kernel
theorem d20_11 : decode jdk_43_method_3_code 11 = .ok (.iconst 0, 1) := by decide +kernel
theorem d20_12 : decode jdk_43_method_3_code 12 = .ok (.ireturn, 1) := by decide +kernel
theorem d21_0 : decode jdk_52_method_24_code 0 = .ok (.iconst 2, 1) := by decide +kernel
theorem d21_1 : decode jdk_52_method_24_code 1 = .ok (.newarray .byte, 2) := by decide +kernel
theorem d21_3 : decode jdk_52_method_24_code 3 = .ok (.astore_n 1, 1) := by decide +kernel
theorem d21_4 : decode jdk_52_method_24_code 4 = .ok (.aload_n 1, 1) := by decide +kernel
theorem d21_5 : decode jdk_52_method_24_code 5 = .ok (.iconst 0, 1) := by decide +kernel
theorem d21_6 : decode jdk_52_method_24_code 6 = .ok (.iload_n 0, 1) := by decide +kernel
theorem d21_7 : decode jdk_52_method_24_code 7 = .ok (.invokestatic 111, 3) := by decide +kernel
theorem d21_10 : decode jdk_52_method_24_code 10 = .ok (.aload_n 1, 1) := by decide +kernel
theorem d21_11 : decode jdk_52_method_24_code 11 = .ok (.areturn, 1) := by decide +kernel
theorem d22_0 : decode jdk_42_method_151_code 0 = .ok (.aload_n 0, 1) := by decide +kernel
theorem d22_1 : decode jdk_42_method_151_code 1 = .ok (.invokespecial 1, 3) := by decide +kernel
theorem d22_4 : decode jdk_42_method_151_code 4 = .ok (.aload_n 0, 1) := by decide +kernel
theorem d22_5 : decode jdk_42_method_151_code 5 = .ok (.aload_n 1, 1) := by decide +kernel
theorem d22_6 : decode jdk_42_method_151_code 6 = .ok (.putfield 9, 3) := by decide +kernel
theorem d22_9 : decode jdk_42_method_151_code 9 = .ok (.aload_n 0, 1) := by decide +kernel
theorem d22_10 : decode jdk_42_method_151_code 10 = .ok (.iload_n 2, 1) := by decide +kernel
theorem d22_11 : decode jdk_42_method_151_code 11 = .ok (.putfield 15, 3) := by decide +kernel
theorem d22_14 : decode jdk_42_method_151_code 14 = .ok (.return_, 1) := by decide +kernel
theorem d23_0 : decode jdk_43_method_46_code 0 = .ok (.iconst 1, 1) := by decide +kernel
theorem d23_1 : decode jdk_43_method_46_code 1 = .ok (.newarray .byte, 2) := by decide +kernel
theorem d23_3 : decode jdk_43_method_46_code 3 = .ok (.dup, 1) := by decide +kernel
theorem d23_4 : decode jdk_43_method_46_code 4 = .ok (.iconst 0, 1) := by decide +kernel
theorem d23_5 : decode jdk_43_method_46_code 5 = .ok (.iload_n 0, 1) := by decide +kernel
theorem d23_6 : decode jdk_43_method_46_code 6 = .ok (.i2b, 1) := by decide +kernel
theorem d23_7 : decode jdk_43_method_46_code 7 = .ok (.bastore, 1) := by decide +kernel
theorem d23_8 : decode jdk_43_method_46_code 8 = .ok (.areturn, 1) := by decide +kernel
theorem d24_0 : decode jdk_42_method_56_code 0 = .ok (.aload_n 0, 1) := by decide +kernel
theorem d24_1 : decode jdk_42_method_56_code 1 = .ok (.invokevirtual 492, 3) := by decide +kernel
theorem d24_4 : decode jdk_42_method_56_code 4 = .ok (.ifCond .eq 12, 3) := by decide +kernel
theorem d24_7 : decode jdk_42_method_56_code 7 = .ok (.aload_n 0, 1) := by decide +kernel
theorem d24_8 : decode jdk_42_method_56_code 8 = .ok (.getfield 9, 3) := by decide +kernel
theorem d24_11 : decode jdk_42_method_56_code 11 = .ok (.iload_n 1, 1) := by decide +kernel
theorem d24_12 : decode jdk_42_method_56_code 12 = .ok (.invokestatic 495, 3) := by decide +kernel
theorem d24_15 : decode jdk_42_method_56_code 15 = .ok (.ireturn, 1) := by decide +kernel
theorem d24_16 : decode jdk_42_method_56_code 16 = .ok (.aload_n 0, 1) := by decide +kernel
theorem d24_17 : decode jdk_42_method_56_code 17 = .ok (.getfield 9, 3) := by decide +kernel
theorem d24_20 : decode jdk_42_method_56_code 20 = .ok (.iload_n 1, 1) := by decide +kernel
theorem d24_21 : decode jdk_42_method_56_code 21 = .ok (.invokestatic 498, 3) := by decide +kernel
theorem d24_24 : decode jdk_42_method_56_code 24 = .ok (.ireturn, 1) := by decide +kernel
theorem d25_0 : decode jdk_42_method_154_code 0 = .ok (.getstatic 38, 3) := by decide +kernel
theorem d25_3 : decode jdk_42_method_154_code 3 = .ok (.ifCond .eq 14, 3) := by decide +kernel
theorem d25_6 : decode jdk_42_method_154_code 6 = .ok (.aload_n 0, 1) := by decide +kernel
theorem d25_7 : decode jdk_42_method_154_code 7 = .ok (.getfield 15, 3) := by decide +kernel
theorem d25_10 : decode jdk_42_method_154_code 10 = .ok (.ifCond .ne 7, 3) := by decide +kernel
theorem d25_13 : decode jdk_42_method_154_code 13 = .ok (.iconst 1, 1) := by decide +kernel
theorem d25_14 : decode jdk_42_method_154_code 14 = .ok (.goto 4, 3) := by decide +kernel
theorem d25_17 : decode jdk_42_method_154_code 17 = .ok (.iconst 0, 1) := by decide +kernel
theorem d25_18 : decode jdk_42_method_154_code 18 = .ok (.ireturn, 1) := by decide +kernel
theorem d26_0 : decode jdk_43_method_2_code 0 = .ok (.iload_n 1, 1) := by decide +kernel
theorem d26_1 : decode jdk_43_method_2_code 1 = .ok (.aload_n 0, 1) := by decide +kernel
theorem d26_2 : decode jdk_43_method_2_code 2 = .ok (.arraylength, 1) := by decide +kernel
theorem d26_3 : decode jdk_43_method_2_code 3 = .ok (.invokestatic 9, 3) := by decide +kernel
theorem d26_6 : decode jdk_43_method_2_code 6 = .ok (.aload_n 0, 1) := by decide +kernel
theorem d26_7 : decode jdk_43_method_2_code 7 = .ok (.iload_n 1, 1) := by decide +kernel
theorem d26_8 : decode jdk_43_method_2_code 8 = .ok (.baload, 1) := by decide +kernel
theorem d26_9 : decode jdk_43_method_2_code 9 = .ok (.sipush 255, 3) := by decide +kernel
theorem d26_12 : decode jdk_43_method_2_code 12 = .ok (.iand, 1) := by decide +kernel
theorem d26_13 : decode jdk_43_method_2_code 13 = .ok (.i2c, 1) := by decide +kernel
theorem d26_14 : decode jdk_43_method_2_code 14 = .ok (.ireturn, 1) := by decide +kernel
theorem d27_0 : decode jdk_42_method_155_code 0 = .ok (.iload_n 0, 1) := by decide +kernel
theorem d27_1 : decode jdk_42_method_155_code 1 = .ok (.iload_n 1, 1) := by decide +kernel
theorem d27_2 : decode jdk_42_method_155_code 2 = .ok (.getstatic 1053, 3) := by decide +kernel
theorem d27_5 : decode jdk_42_method_155_code 5 = .ok (.invokestatic 1059, 3) := by decide +kernel
theorem d27_8 : decode jdk_42_method_155_code 8 = .ok (.pop, 1) := by decide +kernel
theorem d27_9 : decode jdk_42_method_155_code 9 = .ok (.return_, 1) := by decide +kernel
theorem d28_0 : decode jdk_41_method_11_code 0 = .ok (.iload_n 0, 1) := by decide +kernel
theorem d28_1 : decode jdk_41_method_11_code 1 = .ok (.ifCond .lt 8, 3) := by decide +kernel
theorem d28_4 : decode jdk_41_method_11_code 4 = .ok (.iload_n 0, 1) := by decide +kernel
theorem d28_5 : decode jdk_41_method_11_code 5 = .ok (.iload_n 1, 1) := by decide +kernel
theorem d28_6 : decode jdk_41_method_11_code 6 = .ok (.if_icmp .lt 10, 3) := by decide +kernel
theorem d28_16 : decode jdk_41_method_11_code 16 = .ok (.iload_n 0, 1) := by decide +kernel
theorem d28_17 : decode jdk_41_method_11_code 17 = .ok (.ireturn, 1) := by decide +kernel
theorem d29_0 : decode jdk_52_method_83_code 0 = .ok (.iload_n 1, 1) := by decide +kernel
theorem d29_1 : decode jdk_52_method_83_code 1 = .ok (.aload_n 0, 1) := by decide +kernel
theorem d29_2 : decode jdk_52_method_83_code 2 = .ok (.invokestatic 67, 3) := by decide +kernel
theorem d29_5 : decode jdk_52_method_83_code 5 = .ok (.aload_n 0, 1) := by decide +kernel
theorem d29_6 : decode jdk_52_method_83_code 6 = .ok (.iload_n 1, 1) := by decide +kernel
theorem d29_7 : decode jdk_52_method_83_code 7 = .ok (.invokestatic 71, 3) := by decide +kernel
theorem d29_10 : decode jdk_52_method_83_code 10 = .ok (.ireturn, 1) := by decide +kernel
theorem d30_0 : decode jdk_52_method_91_code 0 = .ok (.iload_n 0, 1) := by decide +kernel
theorem d30_1 : decode jdk_52_method_91_code 1 = .ok (.aload_n 1, 1) := by decide +kernel
theorem d30_2 : decode jdk_52_method_91_code 2 = .ok (.invokestatic 48, 3) := by decide +kernel
theorem d30_5 : decode jdk_52_method_91_code 5 = .ok (.invokestatic 414, 3) := by decide +kernel
theorem d30_8 : decode jdk_52_method_91_code 8 = .ok (.return_, 1) := by decide +kernel
theorem d31_0 : decode jdk_52_method_6_code 0 = .ok (.aload_n 0, 1) := by decide +kernel
theorem d31_1 : decode jdk_52_method_6_code 1 = .ok (.arraylength, 1) := by decide +kernel
theorem d31_2 : decode jdk_52_method_6_code 2 = .ok (.iconst 1, 1) := by decide +kernel
theorem d31_3 : decode jdk_52_method_6_code 3 = .ok (.ishr, 1) := by decide +kernel
theorem d31_4 : decode jdk_52_method_6_code 4 = .ok (.ireturn, 1) := by decide +kernel
theorem pd_0 : parseMethodDescriptor "(I)I" = some ⟨[.int], (some .int)⟩ := by decide +kernel
theorem pd_1 : parseMethodDescriptor "(I)[B" = some ⟨[.int], (some (.array .byte))⟩ := by decide +kernel
theorem pd_2 : parseMethodDescriptor "([BII)V" = some ⟨[(.array .byte), .int, .int], none⟩ := by decide +kernel
theorem pd_3 : parseMethodDescriptor "([CI[BII)I" = some ⟨[(.array .char), .int, (.array .byte), .int, .int], (some .int)⟩ := by decide +kernel
theorem pd_4 : parseMethodDescriptor "([CII)[B" = some ⟨[(.array .char), .int, .int], (some (.array .byte))⟩ := by decide +kernel
theorem pd_5 : parseMethodDescriptor "([BI)C" = some ⟨[(.array .byte), .int], (some .char)⟩ := by decide +kernel
theorem pd_6 : parseMethodDescriptor "([BI)B" = some ⟨[(.array .byte), .int], (some .byte)⟩ := by decide +kernel
theorem pd_7 : parseMethodDescriptor "([CIILjava/lang/Void;)V" = some ⟨[(.array .char), .int, .int, (.object "java/lang/Void")], none⟩ := by decide +kernel
theorem pd_8 : parseMethodDescriptor "(C)Z" = some ⟨[.char], (some .boolean)⟩ := by decide +kernel
theorem pd_9 : parseMethodDescriptor "(C)[B" = some ⟨[.char], (some (.array .byte))⟩ := by decide +kernel
theorem pd_10 : parseMethodDescriptor "([BB)V" = some ⟨[(.array .byte), .byte], none⟩ := by decide +kernel
theorem pd_11 : parseMethodDescriptor "()B" = some ⟨[], (some .byte)⟩ := by decide +kernel
theorem pd_12 : parseMethodDescriptor "(IILjava/util/function/BiFunction;)I" = some ⟨[.int, .int, (.object "java/util/function/BiFunction")], (some .int)⟩ := by decide +kernel
theorem pd_13 : parseMethodDescriptor "(II)V" = some ⟨[.int, .int], none⟩ := by decide +kernel
theorem pd_14 : parseMethodDescriptor "([B)I" = some ⟨[(.array .byte)], (some .int)⟩ := by decide +kernel
theorem pd_15 : parseMethodDescriptor "(I[B)V" = some ⟨[.int, (.array .byte)], none⟩ := by decide +kernel
theorem pd_16 : parseMethodDescriptor "()Z" = some ⟨[], (some .boolean)⟩ := by decide +kernel
theorem pd_17 : parseMethodDescriptor "()V" = some ⟨[], none⟩ := by decide +kernel
theorem pd_18 : parseMethodDescriptor "(C)Ljava/lang/String;" = some ⟨[.char], (some (.object "java/lang/String"))⟩ := by decide +kernel
theorem pd_19 : parseMethodDescriptor "([C)V" = some ⟨[(.array .char)], none⟩ := by decide +kernel
theorem pd_20 : parseMethodDescriptor "()I" = some ⟨[], (some .int)⟩ := by decide +kernel
theorem pd_21 : parseMethodDescriptor "(I)C" = some ⟨[.int], (some .char)⟩ := by decide +kernel
theorem pd_22 : parseMethodDescriptor "(ICCC)Ljava/lang/String;" = some ⟨[.int, .char, .char, .char], (some (.object "java/lang/String"))⟩ := by decide +kernel
theorem pd_23 : parseMethodDescriptor "(I)Lcom/example/petrel/petrel/HoaLexer$Kind;" = some ⟨[.int], (some (.object "com/example/petrel/petrel/HoaLexer$Kind"))⟩ := by decide +kernel
theorem pd_24 : parseMethodDescriptor "(Lcom/example/petrel/petrel/HoaLexer$Kind;Ljava/lang/String;I)V" = some ⟨[(.object "com/example/petrel/petrel/HoaLexer$Kind"), (.object "java/lang/String"), .int], none⟩ := by decide +kernel
theorem pn_0 : plainName "java/lang/StringUTF16" = true := by first | (simp [plainName, overriddenIn]; done) | decide +kernel
theorem pn_1 : plainName "java/lang/String" = true := by first | (simp [plainName, overriddenIn]; done) | decide +kernel
theorem pn_2 : plainName "java/lang/StringLatin1" = true := by first | (simp [plainName, overriddenIn]; done) | decide +kernel
theorem pn_3 : plainName "jdk/internal/util/Preconditions" = true := by first | (simp [plainName, overriddenIn]; done) | decide +kernel
theorem pn_4 : plainName "java/lang/Record" = true := by first | (simp [plainName, overriddenIn]; done) | decide +kernel
theorem pn_5 : plainName "com/example/petrel/petrel/TokenIsPunctuationPinLaw" = true := by first | (simp [plainName, overriddenIn]; done) | decide +kernel
theorem pn_6 : plainName "com/example/petrel/petrel/HoaLexer$Token" = true := by first | (simp [plainName, overriddenIn]; done) | decide +kernel
theorem ew {a0 : Array Value} {Z : State} (hw : HW a0 Z) : EW Z a0 consts_1 := (EW.cons (w102 hw) (by decide) EW.nil)
theorem wS {a0 : Array Value} {Z : State} (hw : HW a0 Z) : ∀ a ∈ Bundle.stringAtoms, a.before a0 Z = true := fun d hd => hw d ((by decide +kernel : ∀ d ∈ Bundle.stringAtoms, d ∈ tables_1) d hd)
theorem pick {r : Int32} {P : Prop} (hr : (r = 1 ∧ P) ∨ (r = 0 ∧ ¬ P)) (q : P) : r = 1 := hr.elim (fun z => z.1) (fun z => absurd q z.2)
theorem pick0 {r : Int32} {P : Prop} (hr : (r = 1 ∧ P) ∨ (r = 0 ∧ ¬ P)) (q : ¬ P) : r = 0 := hr.elim (fun z => absurd z.2 q) (fun z => z.1)
theorem sta_int {args : Array Value} {s : State} {C n d : String} {v : Int32} (hv : (Jvm.Cond.eq (Term.static C n d) (Term.int v)).value args s none s [] = some true) (hi : (Jvm.Cond.initializedFor C n d).before args s = true) : Sta s s.heap C n d (.int v) := by
  obtain ⟨x, y, e1, e2, k1, k2⟩ := cmp_v (Or.inl hv)
  cases (Term.int_eval v).symm.trans e2
  obtain ⟨z, rfl⟩ := k2
  have := gotT (Cond.eq_ints e1 (Term.int_eval v)) hv
  subst this
  exact Sta.start e1 (Or.inl hi)
def kf (a0 a1 a2 a3 a4 a5 a6 a7 a8 a9 : Addr) (k : Int32) : Addr := if k = (0 : Int32) then a0 else if k = (1 : Int32) then a1 else if k = (2 : Int32) then a2 else if k = (3 : Int32) then a3 else if k = (4 : Int32) then a4 else if k = (5 : Int32) then a5 else if k = (6 : Int32) then a6 else if k = (7 : Int32) then a7 else if k = (8 : Int32) then a8 else a9
abbrev inK (k : Int32) : Prop := k = 0 ∨ k = 1 ∨ k = 2 ∨ k = 3 ∨ k = 4 ∨ k = 5 ∨ k = 6 ∨ k = 7 ∨ k = 8 ∨ k = 9
theorem kf_ord {Z : State} {h : Heap} {a0 a1 a2 a3 a4 a5 a6 a7 a8 a9 : Addr} (F0 : Fld Z h a0 "java/lang/Enum" "ordinal" "I" (.int (0 : Int32))) (F1 : Fld Z h a1 "java/lang/Enum" "ordinal" "I" (.int (1 : Int32))) (F2 : Fld Z h a2 "java/lang/Enum" "ordinal" "I" (.int (2 : Int32))) (F3 : Fld Z h a3 "java/lang/Enum" "ordinal" "I" (.int (3 : Int32))) (F4 : Fld Z h a4 "java/lang/Enum" "ordinal" "I" (.int (4 : Int32))) (F5 : Fld Z h a5 "java/lang/Enum" "ordinal" "I" (.int (5 : Int32))) (F6 : Fld Z h a6 "java/lang/Enum" "ordinal" "I" (.int (6 : Int32))) (F7 : Fld Z h a7 "java/lang/Enum" "ordinal" "I" (.int (7 : Int32))) (F8 : Fld Z h a8 "java/lang/Enum" "ordinal" "I" (.int (8 : Int32))) (F9 : Fld Z h a9 "java/lang/Enum" "ordinal" "I" (.int (9 : Int32))) {k : Int32} (q : inK k) : Fld Z h (kf a0 a1 a2 a3 a4 a5 a6 a7 a8 a9 k) "java/lang/Enum" "ordinal" "I" (.int k) := by
  rcases q with rfl | rfl | rfl | rfl | rfl | rfl | rfl | rfl | rfl | rfl
  · simpa [kf] using F0
  · simpa [kf] using F1
  · simpa [kf] using F2
  · simpa [kf] using F3
  · simpa [kf] using F4
  · simpa [kf] using F5
  · simpa [kf] using F6
  · simpa [kf] using F7
  · simpa [kf] using F8
  · simpa [kf] using F9
theorem kf_eq {Z : State} {h : Heap} {f : Int32 → Addr} (H : ∀ k, inK k → Fld Z h (f k) "java/lang/Enum" "ordinal" "I" (.int k)) {j k : Int32} (qj : inK j) (qk : inK k) : f j = f k ↔ j = k := by
  refine ⟨fun e => Classical.byContradiction fun ne => ?_, fun e => by rw [e]⟩
  exact Fld.ne (H j qj) (H k qk) (fun z => ne (Value.int.inj z)) e
theorem rem10 {x : Int32} (q : 0 ≤ x.toInt) : inK (x % (10 : Int32)) := by
  have r := (c_irem x 10 10 (by decide)).1 q
  unfold inK
  simp only [← Int32.toInt_inj]
  generalize (x % (10 : Int32)).toInt = y at *
  show y = 0 ∨ y = 1 ∨ y = 2 ∨ y = 3 ∨ y = 4 ∨ y = 5 ∨ y = 6 ∨ y = 7 ∨ y = 8 ∨ y = 9
  omega
theorem nonneg_and (x : Int32) {m : Int32} (q : 0 ≤ m.toInt) : 0 ≤ (x &&& m).toInt := (c_and x m q).1
theorem and3 (x : Int32) : (x &&& (3 : Int32)) = 0 ∨ (x &&& (3 : Int32)) = 1 ∨ (x &&& (3 : Int32)) = 2 ∨ (x &&& (3 : Int32)) = 3 := by
  have r := c_and x 3 (by decide)
  simp only [← Int32.toInt_inj]
  generalize (x &&& (3 : Int32)).toInt = y at *
  have e : (3 : Int32).toInt = 3 := rfl
  show y = 0 ∨ y = 1 ∨ y = 2 ∨ y = 3
  omega
def mtxt (n c0 c1 c2 : Int32) : List Int32 := if n = (0 : Int32) then [] else if n = (1 : Int32) then [c0] else if n = (2 : Int32) then [c0, c1] else [c0, c1, c2]
theorem mtxt_len (n c0 c1 c2 : Int32) : (mtxt n c0 c1 c2).length ≤ 4000 := by
  unfold mtxt
  split
  · exact Nat.le_of_ble_eq_true rfl
  · split
    · exact Nat.le_of_ble_eq_true rfl
    · split <;> exact Nat.le_of_ble_eq_true rfl
theorem mtxt_chp {n c0 c1 c2 : Int32} (q0 : CHP c0) (q1 : CHP c1) (q2 : CHP c2) : ∀ c ∈ mtxt n c0 c1 c2, CHP c := by
  intro c hc
  unfold mtxt at hc
  split at hc
  · exact nomatch hc
  · split at hc
    · simp at hc; rw [hc]; exact q0
    · split at hc
      · simp at hc; rcases hc with rfl | rfl <;> assumption
      · simp at hc; rcases hc with rfl | rfl | rfl <;> assumption
theorem mtxt_eq {n c0 c1 c2 q : Int32} (hn : n = 0 ∨ n = 1 ∨ n = 2 ∨ n = 3) : mtxt n c0 c1 c2 = [q] ↔ n = 1 ∧ c0 = q := by
  rcases hn with rfl | rfl | rfl | rfl <;> simp [mtxt]
theorem len1 {cs : List Int32} (hl : cs.length ≤ 4000) (q : Int32.ofNat cs.length = (1 : Int32)) : ∃ c, cs = [c] := by
  have e := congrArg Int32.toInt q
  rw [ofNat_toInt (by omega)] at e
  have : cs.length = 1 := by have e1 : (1 : Int32).toInt = 1 := rfl; omega
  exact List.length_eq_one_iff.mp this
abbrev G_putc0 (md : Md) (l : Launch) (Z : State) (n0 : Nat) (b : Addr) (c : Int32) (vs : List Value) (h0 : Heap) := Go md l Z n0 ({ frames := 0, cells := 0, slots := 0, locals := 0 } : Room) jdk_52_method_4_code 3 none "java/lang/StringUTF16" "putChar" (fun v h' _ => v = none ∧ Keep h0 h' [b] ∧ Ary Z h' b .byte ((vs.set 0 (.int (lo16 c))).set 1 (.int (hi16 c))))
theorem ef_putc0 (mid : MethodId) (b : Addr) (c : Int32) (vs : List Value)  : entryFrame mid #[(.ref b), (.int (0 : Int32)), (.int c)] 3 = mkF mid 0 #[.val (.ref b), .val (.int (0 : Int32)), .val (.int c)] [] := by first | (simp [entryFrame, mkF, argsToLocals, Value.category]; done) | rfl
set_option maxRecDepth 65536 in
set_option maxHeartbeats 40000000 in
theorem c_putc0 {md : Md} {l : Launch} {Z : State} {n0 : Nat} {a0 : Array Value} (hw : HW a0 Z) (b : Addr) (c : Int32) (vs : List Value) {h0 : Heap} (A : Ary Z h0 b .byte vs) (n0b : n0 ≤ b) (hl : 1 < vs.length) (UA : Sta Z Z.heap "java/lang/StringUTF16" "$assertionsDisabled" "Z" (.int 1)) (UH : Sta Z Z.heap "java/lang/StringUTF16" "HI_BYTE_SHIFT" "I" (.int 0)) (UL : Sta Z Z.heap "java/lang/StringUTF16" "LO_BYTE_SHIFT" "I" (.int 8))  : G_putc0 md l Z n0 b c vs h0 0 0 [b] h0 0 #[.val (.ref b), .val (.int (0 : Int32)), .val (.int c)] [] := by
  refine Go.getS 3 d15_0 rfl (w83 hw) Via.refl UA ?_
  refine Go.ifY 28 d15_3 (by decide) (by decide) (feq (by decide)).2 ?_
  refine Go.iloadN 29 d15_28 rfl rfl ?_
  refine Go.iconst 30 (1 : Int32) d15_29 rfl rfl ?_
  refine Go.ishl 31 d15_30 rfl ?_
  rw [show ((0 : Int32) <<< ((1 : Int32) &&& 31)) = (0 : Int32) from by decide]
  refine Go.istoreN 32 #[.val (.ref b), .val (.int (0 : Int32)), .val (.int c)] d15_31 rfl rfl ?_
  refine Go.aloadN 33 d15_32 rfl rfl rfl ?_
  refine Go.iloadN 34 d15_33 rfl rfl ?_
  refine Go.iinc 37 #[.val (.ref b), .val (.int ((0 : Int32) + (1 : Int32))), .val (.int c)] (1 : Int32) d15_34 rfl rfl rfl rfl ?_
  rw [show ((0 : Int32) + (1 : Int32)) = (1 : Int32) from by decide]
  refine Go.iloadN 38 d15_37 rfl rfl ?_
  refine Go.getS 41 d15_38 rfl (w84 hw) Via.refl UH ?_
  refine Go.ishr 42 d15_41 rfl ?_
  refine Go.i2b 43 d15_42 rfl ?_
  refine Go.bastore 0 44 d15_43 rfl A (by decide) (by first | omega | (simp; omega)) (List.mem_of_getElem? (i := 0) rfl) n0b (fun h_1 W_2 A_3 => ?_)
  have A_4 : Ary Z h_1 b .byte (vs.set 0 (.int (lo16 c))) := by have q_ := A_3; rw [i8_idem] at q_; exact q_
  refine Go.aloadN 45 d15_44 rfl rfl rfl ?_
  refine Go.iloadN 46 d15_45 rfl rfl ?_
  refine Go.iloadN 47 d15_46 rfl rfl ?_
  refine Go.getS 50 d15_47 rfl (w85 hw) Via.refl UL ?_
  refine Go.ishr 51 d15_50 rfl ?_
  refine Go.i2b 52 d15_51 rfl ?_
  refine Go.bastore 1 53 d15_52 rfl A_4 (by decide) (by first | omega | (simp; omega)) (List.mem_of_getElem? (i := 0) rfl) n0b (fun h_5 W_6 A_7 => ?_)
  have A_8 : Ary Z h_5 b .byte ((vs.set 0 (.int (lo16 c))).set 1 (.int (hi16 c))) := by have q_ := A_7; rw [i8_idem] at q_; exact q_
  exact Go.ret0 d15_53 rfl (sf' := []) (⟨rfl, (((Keep.refl h0 [b]).wr W_2 (Or.inl (List.mem_of_getElem? (i := 0) rfl))).wr W_6 (Or.inl (List.mem_of_getElem? (i := 0) rfl))), A_8⟩) (fun _ q => nomatch q) (Nat.le_of_ble_eq_true rfl) (Nat.le_of_ble_eq_true rfl)
abbrev G_putc1 (md : Md) (l : Launch) (Z : State) (n0 : Nat) (b : Addr) (c : Int32) (vs : List Value) (h0 : Heap) := Go md l Z n0 ({ frames := 0, cells := 0, slots := 0, locals := 0 } : Room) jdk_52_method_4_code 3 none "java/lang/StringUTF16" "putChar" (fun v h' _ => v = none ∧ Keep h0 h' [b] ∧ Ary Z h' b .byte ((vs.set 2 (.int (lo16 c))).set 3 (.int (hi16 c))))
theorem ef_putc1 (mid : MethodId) (b : Addr) (c : Int32) (vs : List Value)  : entryFrame mid #[(.ref b), (.int (1 : Int32)), (.int c)] 3 = mkF mid 0 #[.val (.ref b), .val (.int (1 : Int32)), .val (.int c)] [] := by first | (simp [entryFrame, mkF, argsToLocals, Value.category]; done) | rfl
set_option maxRecDepth 65536 in
set_option maxHeartbeats 40000000 in
theorem c_putc1 {md : Md} {l : Launch} {Z : State} {n0 : Nat} {a0 : Array Value} (hw : HW a0 Z) (b : Addr) (c : Int32) (vs : List Value) {h0 : Heap} (A : Ary Z h0 b .byte vs) (n0b : n0 ≤ b) (hl : 3 < vs.length) (UA : Sta Z Z.heap "java/lang/StringUTF16" "$assertionsDisabled" "Z" (.int 1)) (UH : Sta Z Z.heap "java/lang/StringUTF16" "HI_BYTE_SHIFT" "I" (.int 0)) (UL : Sta Z Z.heap "java/lang/StringUTF16" "LO_BYTE_SHIFT" "I" (.int 8))  : G_putc1 md l Z n0 b c vs h0 0 0 [b] h0 0 #[.val (.ref b), .val (.int (1 : Int32)), .val (.int c)] [] := by
  refine Go.getS 3 d15_0 rfl (w83 hw) Via.refl UA ?_
  refine Go.ifY 28 d15_3 (by decide) (by decide) (feq (by decide)).2 ?_
  refine Go.iloadN 29 d15_28 rfl rfl ?_
  refine Go.iconst 30 (1 : Int32) d15_29 rfl rfl ?_
  refine Go.ishl 31 d15_30 rfl ?_
  rw [show ((1 : Int32) <<< ((1 : Int32) &&& 31)) = (2 : Int32) from by decide]
  refine Go.istoreN 32 #[.val (.ref b), .val (.int (2 : Int32)), .val (.int c)] d15_31 rfl rfl ?_
  refine Go.aloadN 33 d15_32 rfl rfl rfl ?_
  refine Go.iloadN 34 d15_33 rfl rfl ?_
  refine Go.iinc 37 #[.val (.ref b), .val (.int ((2 : Int32) + (1 : Int32))), .val (.int c)] (1 : Int32) d15_34 rfl rfl rfl rfl ?_
  rw [show ((2 : Int32) + (1 : Int32)) = (3 : Int32) from by decide]
  refine Go.iloadN 38 d15_37 rfl rfl ?_
  refine Go.getS 41 d15_38 rfl (w84 hw) Via.refl UH ?_
  refine Go.ishr 42 d15_41 rfl ?_
  refine Go.i2b 43 d15_42 rfl ?_
  refine Go.bastore 2 44 d15_43 rfl A (by decide) (by first | omega | (simp; omega)) (List.mem_of_getElem? (i := 0) rfl) n0b (fun h_1 W_2 A_3 => ?_)
  have A_4 : Ary Z h_1 b .byte (vs.set 2 (.int (lo16 c))) := by have q_ := A_3; rw [i8_idem] at q_; exact q_
  refine Go.aloadN 45 d15_44 rfl rfl rfl ?_
  refine Go.iloadN 46 d15_45 rfl rfl ?_
  refine Go.iloadN 47 d15_46 rfl rfl ?_
  refine Go.getS 50 d15_47 rfl (w85 hw) Via.refl UL ?_
  refine Go.ishr 51 d15_50 rfl ?_
  refine Go.i2b 52 d15_51 rfl ?_
  refine Go.bastore 3 53 d15_52 rfl A_4 (by decide) (by first | omega | (simp; omega)) (List.mem_of_getElem? (i := 0) rfl) n0b (fun h_5 W_6 A_7 => ?_)
  have A_8 : Ary Z h_5 b .byte ((vs.set 2 (.int (lo16 c))).set 3 (.int (hi16 c))) := by have q_ := A_7; rw [i8_idem] at q_; exact q_
  exact Go.ret0 d15_53 rfl (sf' := []) (⟨rfl, (((Keep.refl h0 [b]).wr W_2 (Or.inl (List.mem_of_getElem? (i := 0) rfl))).wr W_6 (Or.inl (List.mem_of_getElem? (i := 0) rfl))), A_8⟩) (fun _ q => nomatch q) (Nat.le_of_ble_eq_true rfl) (Nat.le_of_ble_eq_true rfl)
abbrev G_putc2 (md : Md) (l : Launch) (Z : State) (n0 : Nat) (b : Addr) (c : Int32) (vs : List Value) (h0 : Heap) := Go md l Z n0 ({ frames := 0, cells := 0, slots := 0, locals := 0 } : Room) jdk_52_method_4_code 3 none "java/lang/StringUTF16" "putChar" (fun v h' _ => v = none ∧ Keep h0 h' [b] ∧ Ary Z h' b .byte ((vs.set 4 (.int (lo16 c))).set 5 (.int (hi16 c))))
theorem ef_putc2 (mid : MethodId) (b : Addr) (c : Int32) (vs : List Value)  : entryFrame mid #[(.ref b), (.int (2 : Int32)), (.int c)] 3 = mkF mid 0 #[.val (.ref b), .val (.int (2 : Int32)), .val (.int c)] [] := by first | (simp [entryFrame, mkF, argsToLocals, Value.category]; done) | rfl
set_option maxRecDepth 65536 in
set_option maxHeartbeats 40000000 in
theorem c_putc2 {md : Md} {l : Launch} {Z : State} {n0 : Nat} {a0 : Array Value} (hw : HW a0 Z) (b : Addr) (c : Int32) (vs : List Value) {h0 : Heap} (A : Ary Z h0 b .byte vs) (n0b : n0 ≤ b) (hl : 5 < vs.length) (UA : Sta Z Z.heap "java/lang/StringUTF16" "$assertionsDisabled" "Z" (.int 1)) (UH : Sta Z Z.heap "java/lang/StringUTF16" "HI_BYTE_SHIFT" "I" (.int 0)) (UL : Sta Z Z.heap "java/lang/StringUTF16" "LO_BYTE_SHIFT" "I" (.int 8))  : G_putc2 md l Z n0 b c vs h0 0 0 [b] h0 0 #[.val (.ref b), .val (.int (2 : Int32)), .val (.int c)] [] := by
  refine Go.getS 3 d15_0 rfl (w83 hw) Via.refl UA ?_
  refine Go.ifY 28 d15_3 (by decide) (by decide) (feq (by decide)).2 ?_
  refine Go.iloadN 29 d15_28 rfl rfl ?_
  refine Go.iconst 30 (1 : Int32) d15_29 rfl rfl ?_
  refine Go.ishl 31 d15_30 rfl ?_
  rw [show ((2 : Int32) <<< ((1 : Int32) &&& 31)) = (4 : Int32) from by decide]
  refine Go.istoreN 32 #[.val (.ref b), .val (.int (4 : Int32)), .val (.int c)] d15_31 rfl rfl ?_
  refine Go.aloadN 33 d15_32 rfl rfl rfl ?_
  refine Go.iloadN 34 d15_33 rfl rfl ?_
  refine Go.iinc 37 #[.val (.ref b), .val (.int ((4 : Int32) + (1 : Int32))), .val (.int c)] (1 : Int32) d15_34 rfl rfl rfl rfl ?_
  rw [show ((4 : Int32) + (1 : Int32)) = (5 : Int32) from by decide]
  refine Go.iloadN 38 d15_37 rfl rfl ?_
  refine Go.getS 41 d15_38 rfl (w84 hw) Via.refl UH ?_
  refine Go.ishr 42 d15_41 rfl ?_
  refine Go.i2b 43 d15_42 rfl ?_
  refine Go.bastore 4 44 d15_43 rfl A (by decide) (by first | omega | (simp; omega)) (List.mem_of_getElem? (i := 0) rfl) n0b (fun h_1 W_2 A_3 => ?_)
  have A_4 : Ary Z h_1 b .byte (vs.set 4 (.int (lo16 c))) := by have q_ := A_3; rw [i8_idem] at q_; exact q_
  refine Go.aloadN 45 d15_44 rfl rfl rfl ?_
  refine Go.iloadN 46 d15_45 rfl rfl ?_
  refine Go.iloadN 47 d15_46 rfl rfl ?_
  refine Go.getS 50 d15_47 rfl (w85 hw) Via.refl UL ?_
  refine Go.ishr 51 d15_50 rfl ?_
  refine Go.i2b 52 d15_51 rfl ?_
  refine Go.bastore 5 53 d15_52 rfl A_4 (by decide) (by first | omega | (simp; omega)) (List.mem_of_getElem? (i := 0) rfl) n0b (fun h_5 W_6 A_7 => ?_)
  have A_8 : Ary Z h_5 b .byte ((vs.set 4 (.int (lo16 c))).set 5 (.int (hi16 c))) := by have q_ := A_7; rw [i8_idem] at q_; exact q_
  exact Go.ret0 d15_53 rfl (sf' := []) (⟨rfl, (((Keep.refl h0 [b]).wr W_2 (Or.inl (List.mem_of_getElem? (i := 0) rfl))).wr W_6 (Or.inl (List.mem_of_getElem? (i := 0) rfl))), A_8⟩) (fun _ q => nomatch q) (Nat.le_of_ble_eq_true rfl) (Nat.le_of_ble_eq_true rfl)
abbrev G_getc0 (md : Md) (l : Launch) (Z : State) (n0 : Nat) (b : Addr) (x y : Int32) (vs : List Value) (h0 : Heap) := Go md l Z n0 ({ frames := 0, cells := 0, slots := 0, locals := 0 } : Room) jdk_52_method_5_code 2 (some .char) "java/lang/StringUTF16" "getChar" (fun v h' _ => h0 = h' ∧ v = some (.int (getc x y)))
theorem ef_getc0 (mid : MethodId) (b : Addr) (x y : Int32) (vs : List Value)  : entryFrame mid #[(.ref b), (.int (0 : Int32))] 2 = mkF mid 0 #[.val (.ref b), .val (.int (0 : Int32))] [] := by first | (simp [entryFrame, mkF, argsToLocals, Value.category]; done) | rfl
set_option maxRecDepth 65536 in
set_option maxHeartbeats 40000000 in
theorem c_getc0 {md : Md} {l : Launch} {Z : State} {n0 : Nat} {a0 : Array Value} (hw : HW a0 Z) (b : Addr) (x y : Int32) (vs : List Value) {h0 : Heap} (A : Ary Z h0 b .byte vs) (hx : vs[0]? = some (.int x)) (hy : vs[1]? = some (.int y)) (UA : Sta Z Z.heap "java/lang/StringUTF16" "$assertionsDisabled" "Z" (.int 1)) (UH : Sta Z Z.heap "java/lang/StringUTF16" "HI_BYTE_SHIFT" "I" (.int 0)) (UL : Sta Z Z.heap "java/lang/StringUTF16" "LO_BYTE_SHIFT" "I" (.int 8))  : G_getc0 md l Z n0 b x y vs h0 0 0 [] h0 0 #[.val (.ref b), .val (.int (0 : Int32))] [] := by
  refine Go.getS 3 d16_0 rfl (w83 hw) Via.refl UA ?_
  refine Go.ifY 28 d16_3 (by decide) (by decide) (feq (by decide)).2 ?_
  refine Go.iloadN 29 d16_28 rfl rfl ?_
  refine Go.iconst 30 (1 : Int32) d16_29 rfl rfl ?_
  refine Go.ishl 31 d16_30 rfl ?_
  rw [show ((0 : Int32) <<< ((1 : Int32) &&& 31)) = (0 : Int32) from by decide]
  refine Go.istoreN 32 #[.val (.ref b), .val (.int (0 : Int32))] d16_31 rfl rfl ?_
  refine Go.aloadN 33 d16_32 rfl rfl rfl ?_
  refine Go.iloadN 34 d16_33 rfl rfl ?_
  refine Go.iinc 37 #[.val (.ref b), .val (.int ((0 : Int32) + (1 : Int32)))] (1 : Int32) d16_34 rfl rfl rfl rfl ?_
  rw [show ((0 : Int32) + (1 : Int32)) = (1 : Int32) from by decide]
  refine Go.baload 0 38 d16_37 rfl A (by decide) hx ?_
  refine Go.sipush 41 (255 : Int32) d16_38 rfl rfl ?_
  refine Go.iand 42 d16_41 rfl ?_
  refine Go.getS 45 d16_42 rfl (w84 hw) Via.refl UH ?_
  refine Go.ishl 46 d16_45 rfl ?_
  refine Go.aloadN 47 d16_46 rfl rfl rfl ?_
  refine Go.iloadN 48 d16_47 rfl rfl ?_
  refine Go.baload 1 49 d16_48 rfl A (by decide) hy ?_
  refine Go.sipush 52 (255 : Int32) d16_49 rfl rfl ?_
  refine Go.iand 53 d16_52 rfl ?_
  refine Go.getS 56 d16_53 rfl (w85 hw) Via.refl UL ?_
  refine Go.ishl 57 d16_56 rfl ?_
  refine Go.ior 58 d16_57 rfl ?_
  refine Go.i2c 59 d16_58 rfl ?_
  exact Go.retN (getc x y) d16_59 rfl (t := .char) (by simp) (nar_cc (chp_chr _)) (sf' := []) (⟨rfl, rfl⟩) (fun _ q => nomatch q) (Nat.le_of_ble_eq_true rfl) (Nat.le_of_ble_eq_true rfl)
abbrev G_getc1 (md : Md) (l : Launch) (Z : State) (n0 : Nat) (b : Addr) (x y : Int32) (vs : List Value) (h0 : Heap) := Go md l Z n0 ({ frames := 0, cells := 0, slots := 0, locals := 0 } : Room) jdk_52_method_5_code 2 (some .char) "java/lang/StringUTF16" "getChar" (fun v h' _ => h0 = h' ∧ v = some (.int (getc x y)))
theorem ef_getc1 (mid : MethodId) (b : Addr) (x y : Int32) (vs : List Value)  : entryFrame mid #[(.ref b), (.int (1 : Int32))] 2 = mkF mid 0 #[.val (.ref b), .val (.int (1 : Int32))] [] := by first | (simp [entryFrame, mkF, argsToLocals, Value.category]; done) | rfl
set_option maxRecDepth 65536 in
set_option maxHeartbeats 40000000 in
theorem c_getc1 {md : Md} {l : Launch} {Z : State} {n0 : Nat} {a0 : Array Value} (hw : HW a0 Z) (b : Addr) (x y : Int32) (vs : List Value) {h0 : Heap} (A : Ary Z h0 b .byte vs) (hx : vs[2]? = some (.int x)) (hy : vs[3]? = some (.int y)) (UA : Sta Z Z.heap "java/lang/StringUTF16" "$assertionsDisabled" "Z" (.int 1)) (UH : Sta Z Z.heap "java/lang/StringUTF16" "HI_BYTE_SHIFT" "I" (.int 0)) (UL : Sta Z Z.heap "java/lang/StringUTF16" "LO_BYTE_SHIFT" "I" (.int 8))  : G_getc1 md l Z n0 b x y vs h0 0 0 [] h0 0 #[.val (.ref b), .val (.int (1 : Int32))] [] := by
  refine Go.getS 3 d16_0 rfl (w83 hw) Via.refl UA ?_
  refine Go.ifY 28 d16_3 (by decide) (by decide) (feq (by decide)).2 ?_
  refine Go.iloadN 29 d16_28 rfl rfl ?_
  refine Go.iconst 30 (1 : Int32) d16_29 rfl rfl ?_
  refine Go.ishl 31 d16_30 rfl ?_
  rw [show ((1 : Int32) <<< ((1 : Int32) &&& 31)) = (2 : Int32) from by decide]
  refine Go.istoreN 32 #[.val (.ref b), .val (.int (2 : Int32))] d16_31 rfl rfl ?_
  refine Go.aloadN 33 d16_32 rfl rfl rfl ?_
  refine Go.iloadN 34 d16_33 rfl rfl ?_
  refine Go.iinc 37 #[.val (.ref b), .val (.int ((2 : Int32) + (1 : Int32)))] (1 : Int32) d16_34 rfl rfl rfl rfl ?_
  rw [show ((2 : Int32) + (1 : Int32)) = (3 : Int32) from by decide]
  refine Go.baload 2 38 d16_37 rfl A (by decide) hx ?_
  refine Go.sipush 41 (255 : Int32) d16_38 rfl rfl ?_
  refine Go.iand 42 d16_41 rfl ?_
  refine Go.getS 45 d16_42 rfl (w84 hw) Via.refl UH ?_
  refine Go.ishl 46 d16_45 rfl ?_
  refine Go.aloadN 47 d16_46 rfl rfl rfl ?_
  refine Go.iloadN 48 d16_47 rfl rfl ?_
  refine Go.baload 3 49 d16_48 rfl A (by decide) hy ?_
  refine Go.sipush 52 (255 : Int32) d16_49 rfl rfl ?_
  refine Go.iand 53 d16_52 rfl ?_
  refine Go.getS 56 d16_53 rfl (w85 hw) Via.refl UL ?_
  refine Go.ishl 57 d16_56 rfl ?_
  refine Go.ior 58 d16_57 rfl ?_
  refine Go.i2c 59 d16_58 rfl ?_
  exact Go.retN (getc x y) d16_59 rfl (t := .char) (by simp) (nar_cc (chp_chr _)) (sf' := []) (⟨rfl, rfl⟩) (fun _ q => nomatch q) (Nat.le_of_ble_eq_true rfl) (Nat.le_of_ble_eq_true rfl)
abbrev G_getc2 (md : Md) (l : Launch) (Z : State) (n0 : Nat) (b : Addr) (x y : Int32) (vs : List Value) (h0 : Heap) := Go md l Z n0 ({ frames := 0, cells := 0, slots := 0, locals := 0 } : Room) jdk_52_method_5_code 2 (some .char) "java/lang/StringUTF16" "getChar" (fun v h' _ => h0 = h' ∧ v = some (.int (getc x y)))
theorem ef_getc2 (mid : MethodId) (b : Addr) (x y : Int32) (vs : List Value)  : entryFrame mid #[(.ref b), (.int (2 : Int32))] 2 = mkF mid 0 #[.val (.ref b), .val (.int (2 : Int32))] [] := by first | (simp [entryFrame, mkF, argsToLocals, Value.category]; done) | rfl
set_option maxRecDepth 65536 in
set_option maxHeartbeats 40000000 in
theorem c_getc2 {md : Md} {l : Launch} {Z : State} {n0 : Nat} {a0 : Array Value} (hw : HW a0 Z) (b : Addr) (x y : Int32) (vs : List Value) {h0 : Heap} (A : Ary Z h0 b .byte vs) (hx : vs[4]? = some (.int x)) (hy : vs[5]? = some (.int y)) (UA : Sta Z Z.heap "java/lang/StringUTF16" "$assertionsDisabled" "Z" (.int 1)) (UH : Sta Z Z.heap "java/lang/StringUTF16" "HI_BYTE_SHIFT" "I" (.int 0)) (UL : Sta Z Z.heap "java/lang/StringUTF16" "LO_BYTE_SHIFT" "I" (.int 8))  : G_getc2 md l Z n0 b x y vs h0 0 0 [] h0 0 #[.val (.ref b), .val (.int (2 : Int32))] [] := by
  refine Go.getS 3 d16_0 rfl (w83 hw) Via.refl UA ?_
  refine Go.ifY 28 d16_3 (by decide) (by decide) (feq (by decide)).2 ?_
  refine Go.iloadN 29 d16_28 rfl rfl ?_
  refine Go.iconst 30 (1 : Int32) d16_29 rfl rfl ?_
  refine Go.ishl 31 d16_30 rfl ?_
  rw [show ((2 : Int32) <<< ((1 : Int32) &&& 31)) = (4 : Int32) from by decide]
  refine Go.istoreN 32 #[.val (.ref b), .val (.int (4 : Int32))] d16_31 rfl rfl ?_
  refine Go.aloadN 33 d16_32 rfl rfl rfl ?_
  refine Go.iloadN 34 d16_33 rfl rfl ?_
  refine Go.iinc 37 #[.val (.ref b), .val (.int ((4 : Int32) + (1 : Int32)))] (1 : Int32) d16_34 rfl rfl rfl rfl ?_
  rw [show ((4 : Int32) + (1 : Int32)) = (5 : Int32) from by decide]
  refine Go.baload 4 38 d16_37 rfl A (by decide) hx ?_
  refine Go.sipush 41 (255 : Int32) d16_38 rfl rfl ?_
  refine Go.iand 42 d16_41 rfl ?_
  refine Go.getS 45 d16_42 rfl (w84 hw) Via.refl UH ?_
  refine Go.ishl 46 d16_45 rfl ?_
  refine Go.aloadN 47 d16_46 rfl rfl rfl ?_
  refine Go.iloadN 48 d16_47 rfl rfl ?_
  refine Go.baload 5 49 d16_48 rfl A (by decide) hy ?_
  refine Go.sipush 52 (255 : Int32) d16_49 rfl rfl ?_
  refine Go.iand 53 d16_52 rfl ?_
  refine Go.getS 56 d16_53 rfl (w85 hw) Via.refl UL ?_
  refine Go.ishl 57 d16_56 rfl ?_
  refine Go.ior 58 d16_57 rfl ?_
  refine Go.i2c 59 d16_58 rfl ?_
  exact Go.retN (getc x y) d16_59 rfl (t := .char) (by simp) (nar_cc (chp_chr _)) (sf' := []) (⟨rfl, rfl⟩) (fun _ q => nomatch q) (Nat.le_of_ble_eq_true rfl) (Nat.le_of_ble_eq_true rfl)
abbrev G_nbl2 (md : Md) (l : Launch) (Z : State) (n0 : Nat)  (h0 : Heap) := Go md l Z n0 ({ frames := 0, cells := 0, slots := 0, locals := 0 } : Room) jdk_52_method_3_code 1 (some .int) "java/lang/StringUTF16" "newBytesLength" (fun v h' _ => h0 = h' ∧ v = some (.int (4 : Int32)))
theorem ef_nbl2 (mid : MethodId)   : entryFrame mid #[(.int (2 : Int32))] 1 = mkF mid 0 #[.val (.int (2 : Int32))] [] := by first | (simp [entryFrame, mkF, argsToLocals, Value.category]; done) | rfl
set_option maxRecDepth 65536 in
set_option maxHeartbeats 40000000 in
theorem c_nbl2 {md : Md} {l : Launch} {Z : State} {n0 : Nat} {a0 : Array Value} (hw : HW a0 Z)  {h0 : Heap}  : G_nbl2 md l Z n0  h0 0 0 [] h0 0 #[.val (.int (2 : Int32))] [] := by
  refine Go.iloadN 1 d14_0 rfl rfl ?_
  refine Go.ifY 12 d14_1 (by decide) (by decide) (flt (by decide)).2.1 ?_
  refine Go.iloadN 13 d14_12 rfl rfl ?_
  refine Go.ldcI 15 d14_13 rfl (w79 hw) ?_
  refine Go.icmpY 55 d14_15 (by decide) (by decide) (tlt (by decide)).1 ?_
  refine Go.iloadN 56 d14_55 rfl rfl ?_
  refine Go.iconst 57 (1 : Int32) d14_56 rfl rfl ?_
  refine Go.ishl 58 d14_57 rfl ?_
  rw [show ((2 : Int32) <<< ((1 : Int32) &&& 31)) = (4 : Int32) from by decide]
  exact Go.retI d14_58 rfl (sf' := []) (⟨rfl, rfl⟩) (fun _ q => nomatch q) (Nat.le_of_ble_eq_true rfl) (Nat.le_of_ble_eq_true rfl)
abbrev G_nbf2 (md : Md) (l : Launch) (Z : State) (n0 : Nat)  (h0 : Heap) := Go md l Z n0 ({ frames := 1, cells := 1, slots := 4, locals := 12 } : Room) jdk_52_method_2_code 1 (some (.array .byte)) "java/lang/StringUTF16" "newBytesFor" (fun v h' sf' => ∃ x, v = some (.ref x) ∧ Ext h0 h' ∧ h0.size ≤ x ∧ Ary Z h' x .byte [(.int (0 : Int32)), (.int (0 : Int32)), (.int (0 : Int32)), (.int (0 : Int32))] ∧ sf' = [x] ∧ n0 ≤ x)
theorem ef_nbf2 (mid : MethodId)   : entryFrame mid #[(.int (2 : Int32))] 1 = mkF mid 0 #[.val (.int (2 : Int32))] [] := by first | (simp [entryFrame, mkF, argsToLocals, Value.category]; done) | rfl
set_option maxRecDepth 65536 in
set_option maxHeartbeats 40000000 in
theorem c_nbf2 {md : Md} {l : Launch} {Z : State} {n0 : Nat} {a0 : Array Value} (hw : HW a0 Z)  {h0 : Heap}  : G_nbf2 md l Z n0  h0 0 0 [] h0 0 #[.val (.int (2 : Int32))] [] := by
  refine Go.iloadN 1 d13_0 rfl rfl ?_
  refine Go.callS (S := []) 4 [(.int (2 : Int32))] d13_1 rfl rfl (w76 hw) (w77 hw) (w22 hw) (w78 hw) (by decide) (call_of_go (R := _) (len := 3) (W := 0) (plainFor_of_name pn_0) (fun mid => ef_nbl2 mid  ) (c_nbl2 hw  ) (w78 hw) (w22 hw) (by decide) (by decide)) (lenOf pd_0 rfl) (Nat.le_of_ble_eq_true rfl) rfl (Nat.le_of_ble_eq_true rfl) (Nat.le_of_ble_eq_true rfl) (fun _ q => nomatch q) (fun v h_1 sf_2 hq => ?_)
  obtain ⟨rfl, rfl⟩ := hq
  refine Go.more (sf' := []) ?_ (Nat.le_refl _) (Nat.le_refl _) (fun _ q => List.mem_append_right _ q)
  show G_nbf2 md l Z n0  h0 0 0 [] h0 4 #[.val (.int (2 : Int32))] [(.int (4 : Int32))]
  refine Go.newA 4 6 d13_4 rfl rfl (w24 hw) (by decide) 4 (Nat.le_refl _) (by decide) (Nat.le_of_ble_eq_true rfl) (Nat.le_of_ble_eq_true rfl) (fun h_3 x_4 g_5 q_6 E_7 lt_8 A_9 => ?_)
  have A_10 : Ary Z h_3 x_4 .byte [(.int (0 : Int32)), (.int (0 : Int32)), (.int (0 : Int32)), (.int (0 : Int32))] := A_9
  show G_nbf2 md l Z n0  h0 1 4 [x_4] h_3 6 #[.val (.int (2 : Int32))] [(.ref x_4)]
  exact Go.retA d13_6 rfl rfl rfl (sf' := [x_4]) (⟨_, rfl, E_7, (Nat.le_of_eq g_5), A_10, rfl, q_6⟩) (sub1 (List.mem_of_getElem? (i := 0) rfl)) (Nat.le_of_ble_eq_true rfl) (Nat.le_of_ble_eq_true rfl)
abbrev G_tob2 (md : Md) (l : Launch) (Z : State) (n0 : Nat) (b : Addr) (c0 c1 : Int32) (h0 : Heap) := Go md l Z n0 ({ frames := 2, cells := 1, slots := 4, locals := 24 } : Room) jdk_52_method_14_code 5 (some (.array .byte)) "java/lang/StringUTF16" "toBytes" (fun v h' _ => ∃ x, v = some (.ref x) ∧ Ext h0 h' ∧ h0.size ≤ x ∧ Ary Z h' x .byte [(.int (lo16 c0)), (.int (hi16 c0)), (.int (lo16 c1)), (.int (hi16 c1))])
theorem ef_tob2 (mid : MethodId) (b : Addr) (c0 c1 : Int32)  : entryFrame mid #[(.ref b), (.int (0 : Int32)), (.int (2 : Int32))] 5 = mkF mid 0 #[.val (.ref b), .val (.int (0 : Int32)), .val (.int (2 : Int32)), .unset, .unset] [] := by first | (simp [entryFrame, mkF, argsToLocals, Value.category]; done) | rfl
set_option maxRecDepth 65536 in
set_option maxHeartbeats 40000000 in
theorem c_tob2 {md : Md} {l : Launch} {Z : State} {n0 : Nat} {a0 : Array Value} (hw : HW a0 Z) (b : Addr) (c0 c1 : Int32) {h0 : Heap} (A : Ary Z h0 b .char [(.int c0), (.int c1)]) (UA : Sta Z Z.heap "java/lang/StringUTF16" "$assertionsDisabled" "Z" (.int 1)) (UH : Sta Z Z.heap "java/lang/StringUTF16" "HI_BYTE_SHIFT" "I" (.int 0)) (UL : Sta Z Z.heap "java/lang/StringUTF16" "LO_BYTE_SHIFT" "I" (.int 8))  : G_tob2 md l Z n0 b c0 c1 h0 0 0 [] h0 0 #[.val (.ref b), .val (.int (0 : Int32)), .val (.int (2 : Int32)), .unset, .unset] [] := by
  refine Go.iloadN 1 d12_0 rfl rfl ?_
  refine Go.callS (S := []) 4 [(.int (2 : Int32))] d12_1 rfl rfl (w73 hw) (w74 hw) (w22 hw) (w75 hw) (by decide) (call_of_go (R := _) (len := 3) (W := 0) (plainFor_of_name pn_0) (fun mid => ef_nbf2 mid  ) (c_nbf2 hw  ) (w75 hw) (w22 hw) (by decide) (by decide)) (lenOf pd_1 rfl) (Nat.le_of_ble_eq_true rfl) rfl (Nat.le_of_ble_eq_true rfl) (Nat.le_of_ble_eq_true rfl) (fun _ q => nomatch q) (fun v h_1 sf_2 hq => ?_)
  obtain ⟨d, rfl, X_d, le_d, A_d, rfl, n0d⟩ := hq
  have nd : d ≠ b := Nat.ne_of_gt (Nat.lt_of_lt_of_le A.lt le_d)
  show G_tob2 md l Z n0 b c0 c1 h0 1 4 [d] h_1 4 #[.val (.ref b), .val (.int (0 : Int32)), .val (.int (2 : Int32)), .unset, .unset] [(.ref d)]
  refine Go.astoreN 5 #[.val (.ref b), .val (.int (0 : Int32)), .val (.int (2 : Int32)), .val (.ref d), .unset] d12_4 rfl rfl rfl ?_
  refine Go.iconst 6 (0 : Int32) d12_5 rfl rfl ?_
  refine Go.istore 8 #[.val (.ref b), .val (.int (0 : Int32)), .val (.int (2 : Int32)), .val (.ref d), .val (.int (0 : Int32))] d12_6 rfl rfl ?_
  refine Go.iload 10 d12_8 rfl rfl ?_
  refine Go.iloadN 11 d12_10 rfl rfl ?_
  refine Go.icmpN 14 d12_11 rfl (tlt (by decide)).2.1 ?_
  refine Go.aloadN 15 d12_14 rfl rfl rfl ?_
  refine Go.iload 17 d12_15 rfl rfl ?_
  refine Go.aloadN 18 d12_17 rfl rfl rfl ?_
  refine Go.iloadN 19 d12_18 rfl rfl ?_
  have f_3 := A.ext X_d
  refine Go.caload 0 20 d12_19 rfl f_3 (by decide) rfl ?_
  refine Go.callS (S := []) 23 [(.ref d), (.int (0 : Int32)), (.int c0)] d12_20 rfl rfl (w80 hw) (w81 hw) (w22 hw) (w82 hw) (by decide) (call_of_go (R := _) (len := 3) (W := 0) (plainFor_of_name pn_0) (fun mid => ef_putc0 mid d c0 [(.int (0 : Int32)), (.int (0 : Int32)), (.int (0 : Int32)), (.int (0 : Int32))] ) (c_putc0 hw d c0 [(.int (0 : Int32)), (.int (0 : Int32)), (.int (0 : Int32)), (.int (0 : Int32))] A_d n0d (Nat.le_of_ble_eq_true rfl) UA UH UL) (w82 hw) (w22 hw) (by decide) (by decide)) (lenOf pd_2 rfl) (Nat.le_of_ble_eq_true rfl) rfl (Nat.le_of_ble_eq_true rfl) (Nat.le_of_ble_eq_true rfl) (fun _ q => q) (fun v h_7 sf_8 hq => ?_)
  obtain ⟨rfl, K_4, A_5⟩ := hq
  have A_6 : Ary Z h_7 d .byte [(.int (lo16 c0)), (.int (hi16 c0)), (.int (0 : Int32)), (.int (0 : Int32))] := A_5
  refine Go.more (sf' := [d]) ?_ (Nat.le_refl _) (Nat.le_refl _) (fun _ q => List.mem_append_right _ q)
  show G_tob2 md l Z n0 b c0 c1 h0 1 4 [d] h_7 23 #[.val (.ref b), .val (.int (0 : Int32)), .val (.int (2 : Int32)), .val (.ref d), .val (.int (0 : Int32))] []
  refine Go.iinc 26 #[.val (.ref b), .val (.int ((0 : Int32) + (1 : Int32))), .val (.int (2 : Int32)), .val (.ref d), .val (.int (0 : Int32))] (1 : Int32) d12_23 rfl rfl rfl rfl ?_
  rw [show ((0 : Int32) + (1 : Int32)) = (1 : Int32) from by decide]
  refine Go.iinc 29 #[.val (.ref b), .val (.int (1 : Int32)), .val (.int (2 : Int32)), .val (.ref d), .val (.int ((0 : Int32) + (1 : Int32)))] (1 : Int32) d12_26 rfl rfl rfl rfl ?_
  rw [show ((0 : Int32) + (1 : Int32)) = (1 : Int32) from by decide]
  refine Go.goto 8 d12_29 (by decide) (by decide) ?_
  refine Go.iload 10 d12_8 rfl rfl ?_
  refine Go.iloadN 11 d12_10 rfl rfl ?_
  refine Go.icmpN 14 d12_11 rfl (tlt (by decide)).2.1 ?_
  refine Go.aloadN 15 d12_14 rfl rfl rfl ?_
  refine Go.iload 17 d12_15 rfl rfl ?_
  refine Go.aloadN 18 d12_17 rfl rfl rfl ?_
  refine Go.iloadN 19 d12_18 rfl rfl ?_
  have X_9 : Ext h0 h_7 := extK X_d K_4 (allS le_d all0)
  have f_10 := A.ext X_9
  refine Go.caload 1 20 d12_19 rfl f_10 (by decide) rfl ?_
  refine Go.callS (S := []) 23 [(.ref d), (.int (1 : Int32)), (.int c1)] d12_20 rfl rfl (w80 hw) (w81 hw) (w22 hw) (w82 hw) (by decide) (call_of_go (R := _) (len := 3) (W := 0) (plainFor_of_name pn_0) (fun mid => ef_putc1 mid d c1 [(.int (lo16 c0)), (.int (hi16 c0)), (.int (0 : Int32)), (.int (0 : Int32))] ) (c_putc1 hw d c1 [(.int (lo16 c0)), (.int (hi16 c0)), (.int (0 : Int32)), (.int (0 : Int32))] A_6 n0d (Nat.le_of_ble_eq_true rfl) UA UH UL) (w82 hw) (w22 hw) (by decide) (by decide)) (lenOf pd_2 rfl) (Nat.le_of_ble_eq_true rfl) rfl (Nat.le_of_ble_eq_true rfl) (Nat.le_of_ble_eq_true rfl) (fun _ q => q) (fun v h_14 sf_15 hq => ?_)
  obtain ⟨rfl, K_11, A_12⟩ := hq
  have A_13 : Ary Z h_14 d .byte [(.int (lo16 c0)), (.int (hi16 c0)), (.int (lo16 c1)), (.int (hi16 c1))] := A_12
  refine Go.more (sf' := [d]) ?_ (Nat.le_refl _) (Nat.le_refl _) (fun _ q => List.mem_append_right _ q)
  show G_tob2 md l Z n0 b c0 c1 h0 1 4 [d] h_14 23 #[.val (.ref b), .val (.int (1 : Int32)), .val (.int (2 : Int32)), .val (.ref d), .val (.int (1 : Int32))] []
  refine Go.iinc 26 #[.val (.ref b), .val (.int ((1 : Int32) + (1 : Int32))), .val (.int (2 : Int32)), .val (.ref d), .val (.int (1 : Int32))] (1 : Int32) d12_23 rfl rfl rfl rfl ?_
  rw [show ((1 : Int32) + (1 : Int32)) = (2 : Int32) from by decide]
  refine Go.iinc 29 #[.val (.ref b), .val (.int (2 : Int32)), .val (.int (2 : Int32)), .val (.ref d), .val (.int ((1 : Int32) + (1 : Int32)))] (1 : Int32) d12_26 rfl rfl rfl rfl ?_
  rw [show ((1 : Int32) + (1 : Int32)) = (2 : Int32) from by decide]
  refine Go.goto 8 d12_29 (by decide) (by decide) ?_
  refine Go.iload 10 d12_8 rfl rfl ?_
  refine Go.iloadN 11 d12_10 rfl rfl ?_
  refine Go.icmpY 32 d12_11 (by decide) (by decide) (flt (by decide)).2.1 ?_
  refine Go.aloadN 33 d12_32 rfl rfl rfl ?_
  have X_16 : Ext h0 h_14 := extK X_9 K_11 (allS le_d all0)
  exact Go.retA d12_33 rfl rfl rfl (sf' := []) (⟨_, rfl, X_16, le_d, A_13⟩) (fun _ q => nomatch q) (Nat.le_of_ble_eq_true rfl) (Nat.le_of_ble_eq_true rfl)
abbrev G_cmp5_2 (md : Md) (l : Launch) (Z : State) (n0 : Nat) (b d : Addr) (c0 c1 : Int32) (h0 : Heap) := Go md l Z n0 ({ frames := 0, cells := 0, slots := 0, locals := 0 } : Room) jdk_52_method_21_code 7 (some .int) "java/lang/StringUTF16" "compress" (fun v h' _ => ∃ r : Int32, v = some (.int r) ∧ Keep h0 h' [d] ∧ ((r = (2 : Int32) ∧ (¬ (255 : Int32) < c0 ∧ ¬ (255 : Int32) < c1) ∧ Ary Z h' d .byte [(.int c0.toInt8.toInt32), (.int c1.toInt8.toInt32)]) ∨ (r = (0 : Int32) ∧ (255 : Int32) < c0) ∨ (r = (1 : Int32) ∧ (255 : Int32) < c1)))
theorem ef_cmp5_2 (mid : MethodId) (b d : Addr) (c0 c1 : Int32)  : entryFrame mid #[(.ref b), (.int (0 : Int32)), (.ref d), (.int (0 : Int32)), (.int (2 : Int32))] 7 = mkF mid 0 #[.val (.ref b), .val (.int (0 : Int32)), .val (.ref d), .val (.int (0 : Int32)), .val (.int (2 : Int32)), .unset, .unset] [] := by first | (simp [entryFrame, mkF, argsToLocals, Value.category]; done) | rfl
set_option maxRecDepth 65536 in
set_option maxHeartbeats 40000000 in
theorem c_cmp5_2 {md : Md} {l : Launch} {Z : State} {n0 : Nat} {a0 : Array Value} (hw : HW a0 Z) (b d : Addr) (c0 c1 : Int32) {h0 : Heap} (A : Ary Z h0 b .char [(.int c0), (.int c1)]) (D : Ary Z h0 d .byte [(.int (0 : Int32)), (.int (0 : Int32))]) (n0d : n0 ≤ d) (nbd : b ≠ d) : G_cmp5_2 md l Z n0 b d c0 c1 h0 0 0 [d] h0 0 #[.val (.ref b), .val (.int (0 : Int32)), .val (.ref d), .val (.int (0 : Int32)), .val (.int (2 : Int32)), .unset, .unset] [] := by
  refine Go.iconst 1 (0 : Int32) d6_0 rfl rfl ?_
  refine Go.istore 3 #[.val (.ref b), .val (.int (0 : Int32)), .val (.ref d), .val (.int (0 : Int32)), .val (.int (2 : Int32)), .val (.int (0 : Int32)), .unset] d6_1 rfl rfl ?_
  refine Go.iload 5 d6_3 rfl rfl ?_
  refine Go.iload 7 d6_5 rfl rfl ?_
  refine Go.icmpN 10 d6_7 rfl (tlt (by decide)).2.1 ?_
  refine Go.aloadN 11 d6_10 rfl rfl rfl ?_
  refine Go.iloadN 12 d6_11 rfl rfl ?_
  refine Go.caload 0 13 d6_12 rfl A (by decide) rfl ?_
  refine Go.istore 15 #[.val (.ref b), .val (.int (0 : Int32)), .val (.ref d), .val (.int (0 : Int32)), .val (.int (2 : Int32)), .val (.int (0 : Int32)), .val (.int c0)] d6_13 rfl rfl ?_
  refine Go.iload 17 d6_15 rfl rfl ?_
  refine Go.sipush 20 (255 : Int32) d6_17 rfl rfl ?_
  by_cases hb_0 : (255 : Int32) < c0
  · skip
    refine Go.icmpN 23 d6_20 rfl (tlt hb_0).2.2.2 ?_
    refine Go.iload 25 d6_23 rfl rfl ?_
    exact Go.retI d6_25 rfl (sf' := []) (⟨_, rfl, (Keep.refl h0 [d]), Or.inr (Or.inl (⟨rfl, hb_0⟩))⟩) (fun _ q => nomatch q) (Nat.le_of_ble_eq_true rfl) (Nat.le_of_ble_eq_true rfl)
  · skip
    refine Go.icmpY 26 d6_20 (by decide) (by decide) (flt hb_0).2.2.2 ?_
    refine Go.aloadN 27 d6_26 rfl rfl rfl ?_
    refine Go.iloadN 28 d6_27 rfl rfl ?_
    refine Go.iload 30 d6_28 rfl rfl ?_
    refine Go.i2b 31 d6_30 rfl ?_
    refine Go.bastore 0 32 d6_31 rfl D (by decide) (Nat.le_of_ble_eq_true rfl) (List.mem_of_getElem? (i := 0) rfl) n0d (fun h_1 W_2 A_3 => ?_)
    have A_4 : Ary Z h_1 d .byte [(.int (c0).toInt8.toInt32), (.int (0 : Int32))] := by have := A_3; rw [i8_idem _] at this; exact this
    refine Go.iinc 35 #[.val (.ref b), .val (.int ((0 : Int32) + (1 : Int32))), .val (.ref d), .val (.int (0 : Int32)), .val (.int (2 : Int32)), .val (.int (0 : Int32)), .val (.int c0)] (1 : Int32) d6_32 rfl rfl rfl rfl ?_
    rw [show ((0 : Int32) + (1 : Int32)) = (1 : Int32) from by decide]
    refine Go.iinc 38 #[.val (.ref b), .val (.int (1 : Int32)), .val (.ref d), .val (.int ((0 : Int32) + (1 : Int32))), .val (.int (2 : Int32)), .val (.int (0 : Int32)), .val (.int c0)] (1 : Int32) d6_35 rfl rfl rfl rfl ?_
    rw [show ((0 : Int32) + (1 : Int32)) = (1 : Int32) from by decide]
    refine Go.iinc 41 #[.val (.ref b), .val (.int (1 : Int32)), .val (.ref d), .val (.int (1 : Int32)), .val (.int (2 : Int32)), .val (.int ((0 : Int32) + (1 : Int32))), .val (.int c0)] (1 : Int32) d6_38 rfl rfl rfl rfl ?_
    rw [show ((0 : Int32) + (1 : Int32)) = (1 : Int32) from by decide]
    refine Go.goto 3 d6_41 (by decide) (by decide) ?_
    refine Go.iload 5 d6_3 rfl rfl ?_
    refine Go.iload 7 d6_5 rfl rfl ?_
    refine Go.icmpN 10 d6_7 rfl (tlt (by decide)).2.1 ?_
    refine Go.aloadN 11 d6_10 rfl rfl rfl ?_
    refine Go.iloadN 12 d6_11 rfl rfl ?_
    have f_5 := (A.other W_2 nbd)
    refine Go.caload 1 13 d6_12 rfl f_5 (by decide) rfl ?_
    refine Go.istore 15 #[.val (.ref b), .val (.int (1 : Int32)), .val (.ref d), .val (.int (1 : Int32)), .val (.int (2 : Int32)), .val (.int (1 : Int32)), .val (.int c1)] d6_13 rfl rfl ?_
    refine Go.iload 17 d6_15 rfl rfl ?_
    refine Go.sipush 20 (255 : Int32) d6_17 rfl rfl ?_
    by_cases hb_1 : (255 : Int32) < c1
    · skip
      refine Go.icmpN 23 d6_20 rfl (tlt hb_1).2.2.2 ?_
      refine Go.iload 25 d6_23 rfl rfl ?_
      exact Go.retI d6_25 rfl (sf' := []) (⟨_, rfl, ((Keep.refl h0 [d]).wr W_2 (Or.inl (List.mem_of_getElem? (i := 0) rfl))), Or.inr (Or.inr (⟨rfl, hb_1⟩))⟩) (fun _ q => nomatch q) (Nat.le_of_ble_eq_true rfl) (Nat.le_of_ble_eq_true rfl)
    · skip
      refine Go.icmpY 26 d6_20 (by decide) (by decide) (flt hb_1).2.2.2 ?_
      refine Go.aloadN 27 d6_26 rfl rfl rfl ?_
      refine Go.iloadN 28 d6_27 rfl rfl ?_
      refine Go.iload 30 d6_28 rfl rfl ?_
      refine Go.i2b 31 d6_30 rfl ?_
      refine Go.bastore 1 32 d6_31 rfl A_4 (by decide) (Nat.le_of_ble_eq_true rfl) (List.mem_of_getElem? (i := 0) rfl) n0d (fun h_6 W_7 A_8 => ?_)
      have A_9 : Ary Z h_6 d .byte [(.int (c0).toInt8.toInt32), (.int (c1).toInt8.toInt32)] := by have := A_8; rw [i8_idem _] at this; exact this
      refine Go.iinc 35 #[.val (.ref b), .val (.int ((1 : Int32) + (1 : Int32))), .val (.ref d), .val (.int (1 : Int32)), .val (.int (2 : Int32)), .val (.int (1 : Int32)), .val (.int c1)] (1 : Int32) d6_32 rfl rfl rfl rfl ?_
      rw [show ((1 : Int32) + (1 : Int32)) = (2 : Int32) from by decide]
      refine Go.iinc 38 #[.val (.ref b), .val (.int (2 : Int32)), .val (.ref d), .val (.int ((1 : Int32) + (1 : Int32))), .val (.int (2 : Int32)), .val (.int (1 : Int32)), .val (.int c1)] (1 : Int32) d6_35 rfl rfl rfl rfl ?_
      rw [show ((1 : Int32) + (1 : Int32)) = (2 : Int32) from by decide]
      refine Go.iinc 41 #[.val (.ref b), .val (.int (2 : Int32)), .val (.ref d), .val (.int (2 : Int32)), .val (.int (2 : Int32)), .val (.int ((1 : Int32) + (1 : Int32))), .val (.int c1)] (1 : Int32) d6_38 rfl rfl rfl rfl ?_
      rw [show ((1 : Int32) + (1 : Int32)) = (2 : Int32) from by decide]
      refine Go.goto 3 d6_41 (by decide) (by decide) ?_
      refine Go.iload 5 d6_3 rfl rfl ?_
      refine Go.iload 7 d6_5 rfl rfl ?_
      refine Go.icmpY 44 d6_7 (by decide) (by decide) (flt (by decide)).2.1 ?_
      refine Go.iload 46 d6_44 rfl rfl ?_
      exact Go.retI d6_46 rfl (sf' := []) (⟨_, rfl, (((Keep.refl h0 [d]).wr W_2 (Or.inl (List.mem_of_getElem? (i := 0) rfl))).wr W_7 (Or.inl (List.mem_of_getElem? (i := 0) rfl))), Or.inl ⟨rfl, ⟨hb_0, hb_1⟩, A_9⟩⟩) (fun _ q => nomatch q) (Nat.le_of_ble_eq_true rfl) (Nat.le_of_ble_eq_true rfl)
abbrev G_cmp3_2 (md : Md) (l : Launch) (Z : State) (n0 : Nat) (b : Addr) (c0 c1 : Int32) (h0 : Heap) := Go md l Z n0 ({ frames := 3, cells := 2, slots := 6, locals := 40 } : Room) jdk_52_method_16_code 6 (some (.array .byte)) "java/lang/StringUTF16" "compress" (fun v h' _ => ∃ x, v = some (.ref x) ∧ Ext h0 h' ∧ h0.size ≤ x ∧ (((¬ (255 : Int32) < c0 ∧ ¬ (255 : Int32) < c1) ∧ Ary Z h' x .byte [(.int c0.toInt8.toInt32), (.int c1.toInt8.toInt32)]) ∨ (((255 : Int32) < c0 ∨ (255 : Int32) < c1) ∧ Ary Z h' x .byte [(.int (lo16 c0)), (.int (hi16 c0)), (.int (lo16 c1)), (.int (hi16 c1))])))
theorem ef_cmp3_2 (mid : MethodId) (b : Addr) (c0 c1 : Int32)  : entryFrame mid #[(.ref b), (.int (0 : Int32)), (.int (2 : Int32))] 6 = mkF mid 0 #[.val (.ref b), .val (.int (0 : Int32)), .val (.int (2 : Int32)), .unset, .unset, .unset] [] := by first | (simp [entryFrame, mkF, argsToLocals, Value.category]; done) | rfl
set_option maxRecDepth 65536 in
set_option maxHeartbeats 40000000 in
theorem c_cmp3_2 {md : Md} {l : Launch} {Z : State} {n0 : Nat} {a0 : Array Value} (hw : HW a0 Z) (b : Addr) (c0 c1 : Int32) {h0 : Heap} (A : Ary Z h0 b .char [(.int c0), (.int c1)]) (b_c0 : CHP c0) (b_c1 : CHP c1) (UA : Sta Z Z.heap "java/lang/StringUTF16" "$assertionsDisabled" "Z" (.int 1)) (UH : Sta Z Z.heap "java/lang/StringUTF16" "HI_BYTE_SHIFT" "I" (.int 0)) (UL : Sta Z Z.heap "java/lang/StringUTF16" "LO_BYTE_SHIFT" "I" (.int 8))  : G_cmp3_2 md l Z n0 b c0 c1 h0 0 0 [] h0 0 #[.val (.ref b), .val (.int (0 : Int32)), .val (.int (2 : Int32)), .unset, .unset, .unset] [] := by
  refine Go.iloadN 1 d5_0 rfl rfl ?_
  refine Go.newA 2 3 d5_1 rfl rfl (w24 hw) (by decide) 2 (Nat.le_refl _) (by decide) (Nat.le_of_ble_eq_true rfl) (Nat.le_of_ble_eq_true rfl) (fun h_1 x_2 g_3 q_4 E_5 lt_6 A_7 => ?_)
  have A_8 : Ary Z h_1 x_2 .byte [(.int (0 : Int32)), (.int (0 : Int32))] := A_7
  show G_cmp3_2 md l Z n0 b c0 c1 h0 1 2 [x_2] h_1 3 #[.val (.ref b), .val (.int (0 : Int32)), .val (.int (2 : Int32)), .unset, .unset, .unset] [(.ref x_2)]
  refine Go.astoreN 4 #[.val (.ref b), .val (.int (0 : Int32)), .val (.int (2 : Int32)), .val (.ref x_2), .unset, .unset] d5_3 rfl rfl rfl ?_
  refine Go.aloadN 5 d5_4 rfl rfl rfl ?_
  refine Go.iloadN 6 d5_5 rfl rfl ?_
  refine Go.aloadN 7 d5_6 rfl rfl rfl ?_
  refine Go.iconst 8 (0 : Int32) d5_7 rfl rfl ?_
  refine Go.iloadN 9 d5_8 rfl rfl ?_
  have f_9 := A.ext E_5
  have nbd : b ≠ x_2 := Nat.ne_of_lt (Nat.lt_of_lt_of_le A.lt (Nat.le_of_eq g_3))
  refine Go.callS (S := []) 12 [(.ref b), (.int (0 : Int32)), (.ref x_2), (.int (0 : Int32)), (.int (2 : Int32))] d5_9 rfl rfl (w25 hw) (w26 hw) (w22 hw) (w27 hw) (by decide) (call_of_go (R := _) (len := 3) (W := 0) (plainFor_of_name pn_0) (fun mid => ef_cmp5_2 mid b x_2 c0 c1 ) (c_cmp5_2 hw b x_2 c0 c1 f_9 A_8 q_4 nbd) (w27 hw) (w22 hw) (by decide) (by decide)) (lenOf pd_3 rfl) (Nat.le_of_ble_eq_true rfl) rfl (Nat.le_of_ble_eq_true rfl) (Nat.le_of_ble_eq_true rfl) (fun _ q => q) (fun v h_10 sf_11 hq => ?_)
  obtain ⟨r, rfl, K5, ⟨rfl, hlat, D5⟩ | ⟨rfl, hbig⟩ | ⟨rfl, hbig⟩⟩ := hq
  · skip
    refine Go.more (sf' := [x_2]) ?_ (Nat.le_refl _) (Nat.le_refl _) (fun _ q => List.mem_append_right _ q)
    show G_cmp3_2 md l Z n0 b c0 c1 h0 1 2 [x_2] h_10 12 #[.val (.ref b), .val (.int (0 : Int32)), .val (.int (2 : Int32)), .val (.ref x_2), .unset, .unset] [(.int (2 : Int32))]
    refine Go.istore 14 #[.val (.ref b), .val (.int (0 : Int32)), .val (.int (2 : Int32)), .val (.ref x_2), .val (.int (2 : Int32)), .unset] d5_12 rfl rfl ?_
    refine Go.iload 16 d5_14 rfl rfl ?_
    refine Go.iloadN 17 d5_16 rfl rfl ?_
    refine Go.icmpY 57 d5_17 (by decide) (by decide) (teq (by decide)).1 ?_
    refine Go.aloadN 58 d5_57 rfl rfl rfl ?_
    have X_12 : Ext h0 h_10 := extK E_5 K5 (allS (Nat.le_of_eq g_3) all0)
    exact Go.retA d5_58 rfl rfl rfl (sf' := []) (⟨_, rfl, X_12, (Nat.le_of_eq g_3), Or.inl ⟨hlat, D5⟩⟩) (fun _ q => nomatch q) (Nat.le_of_ble_eq_true rfl) (Nat.le_of_ble_eq_true rfl)
  · skip
    refine Go.more (sf' := [x_2]) ?_ (Nat.le_refl _) (Nat.le_refl _) (fun _ q => List.mem_append_right _ q)
    show G_cmp3_2 md l Z n0 b c0 c1 h0 1 2 [x_2] h_10 12 #[.val (.ref b), .val (.int (0 : Int32)), .val (.int (2 : Int32)), .val (.ref x_2), .unset, .unset] [(.int (0 : Int32))]
    refine Go.istore 14 #[.val (.ref b), .val (.int (0 : Int32)), .val (.int (2 : Int32)), .val (.ref x_2), .val (.int (0 : Int32)), .unset] d5_12 rfl rfl ?_
    refine Go.iload 16 d5_14 rfl rfl ?_
    refine Go.iloadN 17 d5_16 rfl rfl ?_
    refine Go.icmpN 20 d5_17 rfl (feq (by decide)).1 ?_
    refine Go.aloadN 21 d5_20 rfl rfl rfl ?_
    refine Go.iloadN 22 d5_21 rfl rfl ?_
    refine Go.iloadN 23 d5_22 rfl rfl ?_
    have X_13 : Ext h0 h_10 := extK E_5 K5 (allS (Nat.le_of_eq g_3) all0)
    have f_14 := A.ext X_13
    refine Go.callS (S := []) 26 [(.ref b), (.int (0 : Int32)), (.int (2 : Int32))] d5_23 rfl rfl (w70 hw) (w71 hw) (w22 hw) (w72 hw) (by decide) (call_of_go (R := _) (len := 3) (W := 0) (plainFor_of_name pn_0) (fun mid => ef_tob2 mid b c0 c1 ) (c_tob2 hw b c0 c1 f_14 UA UH UL) (w72 hw) (w22 hw) (by decide) (by decide)) (lenOf pd_4 rfl) (Nat.le_of_ble_eq_true rfl) rfl (Nat.le_of_ble_eq_true rfl) (Nat.le_of_ble_eq_true rfl) (fun _ q => nomatch q) (fun v h_15 sf_20 hq => ?_)
    obtain ⟨x_16, rfl, E_17, le_18, A_19⟩ := hq
    refine Go.more (sf' := [x_2]) ?_ (Nat.le_refl _) (Nat.le_refl _) (fun _ q => List.mem_append_right _ q)
    show G_cmp3_2 md l Z n0 b c0 c1 h0 2 6 [x_2] h_15 26 #[.val (.ref b), .val (.int (0 : Int32)), .val (.int (2 : Int32)), .val (.ref x_2), .val (.int (0 : Int32)), .unset] [(.ref x_16)]
    refine Go.astore 28 #[.val (.ref b), .val (.int (0 : Int32)), .val (.int (2 : Int32)), .val (.ref x_2), .val (.int (0 : Int32)), .val (.ref x_16)] d5_26 rfl rfl rfl ?_
    refine Go.aload 30 d5_28 rfl rfl rfl ?_
    refine Go.iload 32 d5_30 rfl rfl ?_
    refine Go.callS (S := []) 35 [(.ref x_16), (.int (0 : Int32))] d5_32 rfl rfl (w86 hw) (w87 hw) (w22 hw) (w88 hw) (by decide) (call_of_go (R := _) (len := 3) (W := 0) (plainFor_of_name pn_0) (fun mid => ef_getc0 mid x_16 (lo16 c0) (hi16 c0) [(.int (lo16 c0)), (.int (hi16 c0)), (.int (lo16 c1)), (.int (hi16 c1))] ) (c_getc0 hw x_16 (lo16 c0) (hi16 c0) [(.int (lo16 c0)), (.int (hi16 c0)), (.int (lo16 c1)), (.int (hi16 c1))] A_19 rfl rfl UA UH UL) (w88 hw) (w22 hw) (by decide) (by decide)) (lenOf pd_5 rfl) (Nat.le_of_ble_eq_true rfl) rfl (Nat.le_of_ble_eq_true rfl) (Nat.le_of_ble_eq_true rfl) (fun _ q => nomatch q) (fun v h_21 sf_22 hq => ?_)
    obtain ⟨rfl, rfl⟩ := hq
    rw [rt16 b_c0]
    refine Go.more (sf' := [x_2]) ?_ (Nat.le_refl _) (Nat.le_refl _) (fun _ q => List.mem_append_right _ q)
    show G_cmp3_2 md l Z n0 b c0 c1 h0 2 6 [x_2] h_15 35 #[.val (.ref b), .val (.int (0 : Int32)), .val (.int (2 : Int32)), .val (.ref x_2), .val (.int (0 : Int32)), .val (.ref x_16)] [(.int c0)]
    refine Go.sipush 38 (255 : Int32) d5_35 rfl rfl ?_
    refine Go.icmpY 54 d5_38 (by decide) (by decide) (tlt hbig).2.2.1 ?_
    refine Go.aload 56 d5_54 rfl rfl rfl ?_
    have X_23 : Ext h0 h_15 := extT X_13 E_17
    exact Go.retA d5_56 rfl rfl rfl (sf' := []) (⟨_, rfl, X_23, (Nat.le_trans X_13.1 le_18), Or.inr ⟨Or.inl (hbig), A_19⟩⟩) (fun _ q => nomatch q) (Nat.le_of_ble_eq_true rfl) (Nat.le_of_ble_eq_true rfl)
  · skip
    refine Go.more (sf' := [x_2]) ?_ (Nat.le_refl _) (Nat.le_refl _) (fun _ q => List.mem_append_right _ q)
    show G_cmp3_2 md l Z n0 b c0 c1 h0 1 2 [x_2] h_10 12 #[.val (.ref b), .val (.int (0 : Int32)), .val (.int (2 : Int32)), .val (.ref x_2), .unset, .unset] [(.int (1 : Int32))]
    refine Go.istore 14 #[.val (.ref b), .val (.int (0 : Int32)), .val (.int (2 : Int32)), .val (.ref x_2), .val (.int (1 : Int32)), .unset] d5_12 rfl rfl ?_
    refine Go.iload 16 d5_14 rfl rfl ?_
    refine Go.iloadN 17 d5_16 rfl rfl ?_
    refine Go.icmpN 20 d5_17 rfl (feq (by decide)).1 ?_
    refine Go.aloadN 21 d5_20 rfl rfl rfl ?_
    refine Go.iloadN 22 d5_21 rfl rfl ?_
    refine Go.iloadN 23 d5_22 rfl rfl ?_
    have X_24 : Ext h0 h_10 := extK E_5 K5 (allS (Nat.le_of_eq g_3) all0)
    have f_25 := A.ext X_24
    refine Go.callS (S := []) 26 [(.ref b), (.int (0 : Int32)), (.int (2 : Int32))] d5_23 rfl rfl (w70 hw) (w71 hw) (w22 hw) (w72 hw) (by decide) (call_of_go (R := _) (len := 3) (W := 0) (plainFor_of_name pn_0) (fun mid => ef_tob2 mid b c0 c1 ) (c_tob2 hw b c0 c1 f_25 UA UH UL) (w72 hw) (w22 hw) (by decide) (by decide)) (lenOf pd_4 rfl) (Nat.le_of_ble_eq_true rfl) rfl (Nat.le_of_ble_eq_true rfl) (Nat.le_of_ble_eq_true rfl) (fun _ q => nomatch q) (fun v h_26 sf_31 hq => ?_)
    obtain ⟨x_27, rfl, E_28, le_29, A_30⟩ := hq
    refine Go.more (sf' := [x_2]) ?_ (Nat.le_refl _) (Nat.le_refl _) (fun _ q => List.mem_append_right _ q)
    show G_cmp3_2 md l Z n0 b c0 c1 h0 2 6 [x_2] h_26 26 #[.val (.ref b), .val (.int (0 : Int32)), .val (.int (2 : Int32)), .val (.ref x_2), .val (.int (1 : Int32)), .unset] [(.ref x_27)]
    refine Go.astore 28 #[.val (.ref b), .val (.int (0 : Int32)), .val (.int (2 : Int32)), .val (.ref x_2), .val (.int (1 : Int32)), .val (.ref x_27)] d5_26 rfl rfl rfl ?_
    refine Go.aload 30 d5_28 rfl rfl rfl ?_
    refine Go.iload 32 d5_30 rfl rfl ?_
    refine Go.callS (S := []) 35 [(.ref x_27), (.int (1 : Int32))] d5_32 rfl rfl (w86 hw) (w87 hw) (w22 hw) (w88 hw) (by decide) (call_of_go (R := _) (len := 3) (W := 0) (plainFor_of_name pn_0) (fun mid => ef_getc1 mid x_27 (lo16 c1) (hi16 c1) [(.int (lo16 c0)), (.int (hi16 c0)), (.int (lo16 c1)), (.int (hi16 c1))] ) (c_getc1 hw x_27 (lo16 c1) (hi16 c1) [(.int (lo16 c0)), (.int (hi16 c0)), (.int (lo16 c1)), (.int (hi16 c1))] A_30 rfl rfl UA UH UL) (w88 hw) (w22 hw) (by decide) (by decide)) (lenOf pd_5 rfl) (Nat.le_of_ble_eq_true rfl) rfl (Nat.le_of_ble_eq_true rfl) (Nat.le_of_ble_eq_true rfl) (fun _ q => nomatch q) (fun v h_32 sf_33 hq => ?_)
    obtain ⟨rfl, rfl⟩ := hq
    rw [rt16 b_c1]
    refine Go.more (sf' := [x_2]) ?_ (Nat.le_refl _) (Nat.le_refl _) (fun _ q => List.mem_append_right _ q)
    show G_cmp3_2 md l Z n0 b c0 c1 h0 2 6 [x_2] h_26 35 #[.val (.ref b), .val (.int (0 : Int32)), .val (.int (2 : Int32)), .val (.ref x_2), .val (.int (1 : Int32)), .val (.ref x_27)] [(.int c1)]
    refine Go.sipush 38 (255 : Int32) d5_35 rfl rfl ?_
    refine Go.icmpY 54 d5_38 (by decide) (by decide) (tlt hbig).2.2.1 ?_
    refine Go.aload 56 d5_54 rfl rfl rfl ?_
    have X_34 : Ext h0 h_26 := extT X_24 E_28
    exact Go.retA d5_56 rfl rfl rfl (sf' := []) (⟨_, rfl, X_34, (Nat.le_trans X_24.1 le_29), Or.inr ⟨Or.inr (hbig), A_30⟩⟩) (fun _ q => nomatch q) (Nat.le_of_ble_eq_true rfl) (Nat.le_of_ble_eq_true rfl)
abbrev G_cfl2_0 (md : Md) (l : Launch) (Z : State) (n0 : Nat) (d : Addr) (vs : List Value) (h0 : Heap) := Go md l Z n0 ({ frames := 0, cells := 0, slots := 0, locals := 0 } : Room) jdk_52_method_15_code 2 (some .byte) "java/lang/StringUTF16" "coderFromArrayLen" (fun v h' _ => h0 = h' ∧ v = some (.int 0))
theorem ef_cfl2_0 (mid : MethodId) (d : Addr) (vs : List Value)  : entryFrame mid #[(.ref d), (.int (2 : Int32))] 2 = mkF mid 0 #[.val (.ref d), .val (.int (2 : Int32))] [] := by first | (simp [entryFrame, mkF, argsToLocals, Value.category]; done) | rfl
set_option maxRecDepth 65536 in
set_option maxHeartbeats 40000000 in
theorem c_cfl2_0 {md : Md} {l : Launch} {Z : State} {n0 : Nat} {a0 : Array Value} (hw : HW a0 Z) (d : Addr) (vs : List Value) {h0 : Heap} (A : Ary Z h0 d .byte vs) (hl : vs.length = 2) : G_cfl2_0 md l Z n0 d vs h0 0 0 [] h0 0 #[.val (.ref d), .val (.int (2 : Int32))] [] := by
  refine Go.iloadN 1 d7_0 rfl rfl ?_
  refine Go.aloadN 2 d7_1 rfl rfl rfl ?_
  refine Go.alen 3 (2 : Int32) d7_2 rfl A (by rw [hl]; rfl) ?_
  refine Go.isub 4 d7_3 rfl ?_
  rw [show ((2 : Int32) - (2 : Int32)) = (0 : Int32) from by decide]
  refine Go.bipush 6 (31 : Int32) d7_4 rfl rfl ?_
  refine Go.iushr 7 d7_6 rfl ?_
  refine Go.i2b 8 d7_7 rfl ?_
  exact Go.retN (0 : Int32) d7_8 rfl (t := .byte) (by simp) (by decide) (sf' := []) (⟨rfl, rfl⟩) (fun _ q => nomatch q) (Nat.le_of_ble_eq_true rfl) (Nat.le_of_ble_eq_true rfl)
abbrev G_cfl2_1 (md : Md) (l : Launch) (Z : State) (n0 : Nat) (d : Addr) (vs : List Value) (h0 : Heap) := Go md l Z n0 ({ frames := 0, cells := 0, slots := 0, locals := 0 } : Room) jdk_52_method_15_code 2 (some .byte) "java/lang/StringUTF16" "coderFromArrayLen" (fun v h' _ => h0 = h' ∧ v = some (.int 1))
theorem ef_cfl2_1 (mid : MethodId) (d : Addr) (vs : List Value)  : entryFrame mid #[(.ref d), (.int (2 : Int32))] 2 = mkF mid 0 #[.val (.ref d), .val (.int (2 : Int32))] [] := by first | (simp [entryFrame, mkF, argsToLocals, Value.category]; done) | rfl
set_option maxRecDepth 65536 in
set_option maxHeartbeats 40000000 in
theorem c_cfl2_1 {md : Md} {l : Launch} {Z : State} {n0 : Nat} {a0 : Array Value} (hw : HW a0 Z) (d : Addr) (vs : List Value) {h0 : Heap} (A : Ary Z h0 d .byte vs) (hl : vs.length = 4) : G_cfl2_1 md l Z n0 d vs h0 0 0 [] h0 0 #[.val (.ref d), .val (.int (2 : Int32))] [] := by
  refine Go.iloadN 1 d7_0 rfl rfl ?_
  refine Go.aloadN 2 d7_1 rfl rfl rfl ?_
  refine Go.alen 3 (4 : Int32) d7_2 rfl A (by rw [hl]; rfl) ?_
  refine Go.isub 4 d7_3 rfl ?_
  rw [show ((2 : Int32) - (4 : Int32)) = (-2 : Int32) from by decide]
  refine Go.bipush 6 (31 : Int32) d7_4 rfl rfl ?_
  refine Go.iushr 7 d7_6 rfl ?_
  refine Go.i2b 8 d7_7 rfl ?_
  exact Go.retN (1 : Int32) d7_8 rfl (t := .byte) (by simp) (by decide) (sf' := []) (⟨rfl, rfl⟩) (fun _ q => nomatch q) (Nat.le_of_ble_eq_true rfl) (Nat.le_of_ble_eq_true rfl)
abbrev G_new4_2 (md : Md) (l : Launch) (Z : State) (n0 : Nat) (x b : Addr) (z : Int32) (c0 c1 : Int32) (h0 : Heap) := Go md l Z n0 ({ frames := 4, cells := 2, slots := 6, locals := 57 } : Room) jdk_42_method_149_code 6 none "java/lang/String" "<init>" (fun v h' _ => v = none ∧ Keep h0 h' [x] ∧ Gst Z h' x [c0, c1])
theorem ef_new4_2 (mid : MethodId) (x b : Addr) (z : Int32) (c0 c1 : Int32)  : entryFrame mid #[(.ref x), (.ref b), (.int (0 : Int32)), (.int (2 : Int32)), .null] 6 = mkF mid 0 #[.val (.ref x), .val (.ref b), .val (.int (0 : Int32)), .val (.int (2 : Int32)), .val .null, .unset] [] := by first | (simp [entryFrame, mkF, argsToLocals, Value.category]; done) | rfl
set_option maxRecDepth 65536 in
set_option maxHeartbeats 40000000 in
theorem c_new4_2 {md : Md} {l : Launch} {Z : State} {n0 : Nat} {a0 : Array Value} (hw : HW a0 Z) (x b : Addr) (z : Int32) (c0 c1 : Int32) {h0 : Heap} (E : Exa Z h0 x "java/lang/String") (n0x : n0 ≤ x) {v0 c0_ : Value} (V : Fld Z h0 x "java/lang/String" "value" "[B" v0) (C : Fld Z h0 x "java/lang/String" "coder" "B" c0_) (A : Ary Z h0 b .char [(.int c0), (.int c1)]) (b_c0 : CHP c0) (b_c1 : CHP c1) (SC : Sta Z Z.heap "java/lang/String" "COMPACT_STRINGS" "Z" (.int z)) (hz : ¬ z = 0) (UA : Sta Z Z.heap "java/lang/StringUTF16" "$assertionsDisabled" "Z" (.int 1)) (UH : Sta Z Z.heap "java/lang/StringUTF16" "HI_BYTE_SHIFT" "I" (.int 0)) (UL : Sta Z Z.heap "java/lang/StringUTF16" "LO_BYTE_SHIFT" "I" (.int 8))  : G_new4_2 md l Z n0 x b z c0 c1 h0 0 0 [x] h0 0 #[.val (.ref x), .val (.ref b), .val (.int (0 : Int32)), .val (.int (2 : Int32)), .val .null, .unset] [] := by
  refine Go.aloadN 1 d3_0 rfl rfl rfl ?_
  refine Go.initO (W := 0) 4 d3_1 rfl (w16 hw) (w17 hw) (w18 hw) rfl (by decide) (Nat.le_of_ble_eq_true rfl) (by decide) ?_
  refine Go.iloadN 5 d3_4 rfl rfl ?_
  refine Go.ifY 27 d3_5 (by decide) (by decide) (feq (by decide)).2 ?_
  refine Go.getS 30 d3_27 rfl (w19 hw) Via.refl SC ?_
  refine Go.ifN 33 d3_30 rfl (feq hz).1 ?_
  refine Go.aloadN 34 d3_33 rfl rfl rfl ?_
  refine Go.iloadN 35 d3_34 rfl rfl ?_
  refine Go.iloadN 36 d3_35 rfl rfl ?_
  refine Go.callS (S := []) 39 [(.ref b), (.int (0 : Int32)), (.int (2 : Int32))] d3_36 rfl rfl (w20 hw) (w21 hw) (w22 hw) (w23 hw) (by decide) (call_of_go (R := _) (len := 3) (W := 0) (plainFor_of_name pn_0) (fun mid => ef_cmp3_2 mid b c0 c1 ) (c_cmp3_2 hw b c0 c1 A b_c0 b_c1 UA UH UL) (w23 hw) (w22 hw) (by decide) (by decide)) (lenOf pd_4 rfl) (Nat.le_of_ble_eq_true rfl) rfl (Nat.le_of_ble_eq_true rfl) (Nat.le_of_ble_eq_true rfl) (fun _ q => nomatch q) (fun v h_1 sf_2 hq => ?_)
  obtain ⟨y, rfl, X3, le3, ⟨hlat, A3⟩ | ⟨hbig, A3⟩⟩ := hq
  · skip
    refine Go.more (sf' := [x]) ?_ (Nat.le_refl _) (Nat.le_refl _) (fun _ q => List.mem_append_right _ q)
    show G_new4_2 md l Z n0 x b z c0 c1 h0 2 6 [x] h_1 39 #[.val (.ref x), .val (.ref b), .val (.int (0 : Int32)), .val (.int (2 : Int32)), .val .null, .unset] [(.ref y)]
    have nyx : y ≠ x := Nat.ne_of_gt (Nat.lt_of_lt_of_le E.lt le3)
    refine Go.astore 41 #[.val (.ref x), .val (.ref b), .val (.int (0 : Int32)), .val (.int (2 : Int32)), .val .null, .val (.ref y)] d3_39 rfl rfl rfl ?_
    refine Go.aloadN 42 d3_41 rfl rfl rfl ?_
    refine Go.aload 44 d3_42 rfl rfl rfl ?_
    refine Go.iloadN 45 d3_44 rfl rfl ?_
    refine Go.callS (S := [(.ref x)]) 48 [(.ref y), (.int (2 : Int32))] d3_45 rfl rfl (w28 hw) (w29 hw) (w22 hw) (w30 hw) (by decide) (call_of_go (R := _) (len := 3) (W := 1) (plainFor_of_name pn_0) (fun mid => ef_cfl2_0 mid y [(.int c0.toInt8.toInt32), (.int c1.toInt8.toInt32)] ) (c_cfl2_0 hw y [(.int c0.toInt8.toInt32), (.int c1.toInt8.toInt32)] A3 rfl) (w30 hw) (w22 hw) (by decide) (by decide)) (lenOf pd_6 rfl) (Nat.le_of_ble_eq_true rfl) rfl (Nat.le_of_ble_eq_true rfl) (Nat.le_of_ble_eq_true rfl) (fun _ q => nomatch q) (fun v h_3 sf_4 hq => ?_)
    obtain ⟨rfl, rfl⟩ := hq
    refine Go.more (sf' := [x]) ?_ (Nat.le_refl _) (Nat.le_refl _) (fun _ q => List.mem_append_right _ q)
    show G_new4_2 md l Z n0 x b z c0 c1 h0 2 6 [x] h_1 48 #[.val (.ref x), .val (.ref b), .val (.int (0 : Int32)), .val (.int (2 : Int32)), .val .null, .val (.ref y)] [(.int (0 : Int32)), (.ref x)]
    have f_5 := E.ext X3
    have f_6 := C.ext X3
    refine Go.putF 51 (.int (0 : Int32)) d3_48 rfl (w31 hw) Via.refl f_6 f_5 (Or.inr ⟨(w32 hw), rfl, rfl⟩) (w6 hw) (ty := .byte) (by decide) rfl rfl (List.mem_of_getElem? (i := 0) rfl) n0x (fun h_7 W_8 => ?_)
    refine Go.aloadN 52 d3_51 rfl rfl rfl ?_
    refine Go.aload 54 d3_52 rfl rfl rfl ?_
    have f_9 := (f_5.wr W_8)
    have f_10 := ((V.ext X3).other W_8 (Or.inr (slot_ne (Or.inr (w34 hw)) (Or.inr (w32 hw)) (by decide) (t := (.array .byte)) (t' := .byte) (by decide) (by decide))))
    refine Go.putF 57 (.ref y) d3_54 rfl (w33 hw) Via.refl f_10 f_9 (Or.inr ⟨(w34 hw), rfl, rfl⟩) (w6 hw) (ty := (.array .byte)) (by decide) rfl rfl (List.mem_of_getElem? (i := 0) rfl) n0x (fun h_11 W_12 => ?_)
    have f_13 := (f_9.wr W_12)
    have f_14 := ((f_6.same W_8).other W_12 (Or.inr (slot_ne (Or.inr (w32 hw)) (Or.inr (w34 hw)) (by decide) (t := .byte) (t' := (.array .byte)) (by decide) (by decide))))
    have f_15 := ((A3.other W_8 nyx).other W_12 nyx)
    exact Go.ret0 d3_57 rfl (sf' := []) (⟨rfl, ((((Keep.refl h0 [x]).ext X3).wr W_8 (Or.inl (List.mem_of_getElem? (i := 0) rfl))).wr W_12 (Or.inl (List.mem_of_getElem? (i := 0) rfl))), y, (0 : Int32), _, f_13, f_14, (f_10.same W_12), f_15, Or.inl ⟨rfl, rfl, (latC ⟨chp0 b_c0, hlat.1⟩ (latC ⟨chp0 b_c1, hlat.2⟩ latN))⟩⟩) (fun _ q => nomatch q) (Nat.le_of_ble_eq_true rfl) (Nat.le_of_ble_eq_true rfl)
  · skip
    refine Go.more (sf' := [x]) ?_ (Nat.le_refl _) (Nat.le_refl _) (fun _ q => List.mem_append_right _ q)
    show G_new4_2 md l Z n0 x b z c0 c1 h0 2 6 [x] h_1 39 #[.val (.ref x), .val (.ref b), .val (.int (0 : Int32)), .val (.int (2 : Int32)), .val .null, .unset] [(.ref y)]
    have nyx : y ≠ x := Nat.ne_of_gt (Nat.lt_of_lt_of_le E.lt le3)
    refine Go.astore 41 #[.val (.ref x), .val (.ref b), .val (.int (0 : Int32)), .val (.int (2 : Int32)), .val .null, .val (.ref y)] d3_39 rfl rfl rfl ?_
    refine Go.aloadN 42 d3_41 rfl rfl rfl ?_
    refine Go.aload 44 d3_42 rfl rfl rfl ?_
    refine Go.iloadN 45 d3_44 rfl rfl ?_
    refine Go.callS (S := [(.ref x)]) 48 [(.ref y), (.int (2 : Int32))] d3_45 rfl rfl (w28 hw) (w29 hw) (w22 hw) (w30 hw) (by decide) (call_of_go (R := _) (len := 3) (W := 1) (plainFor_of_name pn_0) (fun mid => ef_cfl2_1 mid y [(.int (lo16 c0)), (.int (hi16 c0)), (.int (lo16 c1)), (.int (hi16 c1))] ) (c_cfl2_1 hw y [(.int (lo16 c0)), (.int (hi16 c0)), (.int (lo16 c1)), (.int (hi16 c1))] A3 rfl) (w30 hw) (w22 hw) (by decide) (by decide)) (lenOf pd_6 rfl) (Nat.le_of_ble_eq_true rfl) rfl (Nat.le_of_ble_eq_true rfl) (Nat.le_of_ble_eq_true rfl) (fun _ q => nomatch q) (fun v h_16 sf_17 hq => ?_)
    obtain ⟨rfl, rfl⟩ := hq
    refine Go.more (sf' := [x]) ?_ (Nat.le_refl _) (Nat.le_refl _) (fun _ q => List.mem_append_right _ q)
    show G_new4_2 md l Z n0 x b z c0 c1 h0 2 6 [x] h_1 48 #[.val (.ref x), .val (.ref b), .val (.int (0 : Int32)), .val (.int (2 : Int32)), .val .null, .val (.ref y)] [(.int (1 : Int32)), (.ref x)]
    have f_18 := E.ext X3
    have f_19 := C.ext X3
    refine Go.putF 51 (.int (1 : Int32)) d3_48 rfl (w31 hw) Via.refl f_19 f_18 (Or.inr ⟨(w32 hw), rfl, rfl⟩) (w6 hw) (ty := .byte) (by decide) rfl rfl (List.mem_of_getElem? (i := 0) rfl) n0x (fun h_20 W_21 => ?_)
    refine Go.aloadN 52 d3_51 rfl rfl rfl ?_
    refine Go.aload 54 d3_52 rfl rfl rfl ?_
    have f_22 := (f_18.wr W_21)
    have f_23 := ((V.ext X3).other W_21 (Or.inr (slot_ne (Or.inr (w34 hw)) (Or.inr (w32 hw)) (by decide) (t := (.array .byte)) (t' := .byte) (by decide) (by decide))))
    refine Go.putF 57 (.ref y) d3_54 rfl (w33 hw) Via.refl f_23 f_22 (Or.inr ⟨(w34 hw), rfl, rfl⟩) (w6 hw) (ty := (.array .byte)) (by decide) rfl rfl (List.mem_of_getElem? (i := 0) rfl) n0x (fun h_24 W_25 => ?_)
    have f_26 := (f_22.wr W_25)
    have f_27 := ((f_19.same W_21).other W_25 (Or.inr (slot_ne (Or.inr (w32 hw)) (Or.inr (w34 hw)) (by decide) (t := .byte) (t' := (.array .byte)) (by decide) (by decide))))
    have f_28 := ((A3.other W_21 nyx).other W_25 nyx)
    exact Go.ret0 d3_57 rfl (sf' := []) (⟨rfl, ((((Keep.refl h0 [x]).ext X3).wr W_21 (Or.inl (List.mem_of_getElem? (i := 0) rfl))).wr W_25 (Or.inl (List.mem_of_getElem? (i := 0) rfl))), y, (1 : Int32), _, f_26, f_27, (f_23.same W_25), f_28, Or.inr ⟨rfl, rfl, by rcases hbig with hbig | hbig <;> exact ⟨_, by simp, hbig⟩⟩⟩) (fun _ q => nomatch q) (Nat.le_of_ble_eq_true rfl) (Nat.le_of_ble_eq_true rfl)
abbrev G_new1_2 (md : Md) (l : Launch) (Z : State) (n0 : Nat) (x b : Addr) (z : Int32) (c0 c1 : Int32) (h0 : Heap) := Go md l Z n0 ({ frames := 5, cells := 2, slots := 6, locals := 74 } : Room) jdk_42_method_3_code 2 none "java/lang/String" "<init>" (fun v h' _ => v = none ∧ Keep h0 h' [x] ∧ Gst Z h' x [c0, c1])
theorem ef_new1_2 (mid : MethodId) (x b : Addr) (z : Int32) (c0 c1 : Int32)  : entryFrame mid #[(.ref x), (.ref b)] 2 = mkF mid 0 #[.val (.ref x), .val (.ref b)] [] := by first | (simp [entryFrame, mkF, argsToLocals, Value.category]; done) | rfl
set_option maxRecDepth 65536 in
set_option maxHeartbeats 40000000 in
theorem c_new1_2 {md : Md} {l : Launch} {Z : State} {n0 : Nat} {a0 : Array Value} (hw : HW a0 Z) (x b : Addr) (z : Int32) (c0 c1 : Int32) {h0 : Heap} (E : Exa Z h0 x "java/lang/String") (n0x : n0 ≤ x) {v0 c0_ : Value} (V : Fld Z h0 x "java/lang/String" "value" "[B" v0) (C : Fld Z h0 x "java/lang/String" "coder" "B" c0_) (A : Ary Z h0 b .char [(.int c0), (.int c1)]) (b_c0 : CHP c0) (b_c1 : CHP c1) (SC : Sta Z Z.heap "java/lang/String" "COMPACT_STRINGS" "Z" (.int z)) (hz : ¬ z = 0) (UA : Sta Z Z.heap "java/lang/StringUTF16" "$assertionsDisabled" "Z" (.int 1)) (UH : Sta Z Z.heap "java/lang/StringUTF16" "HI_BYTE_SHIFT" "I" (.int 0)) (UL : Sta Z Z.heap "java/lang/StringUTF16" "LO_BYTE_SHIFT" "I" (.int 8))  : G_new1_2 md l Z n0 x b z c0 c1 h0 0 0 [x] h0 0 #[.val (.ref x), .val (.ref b)] [] := by
  refine Go.aloadN 1 d2_0 rfl rfl rfl ?_
  refine Go.aloadN 2 d2_1 rfl rfl rfl ?_
  refine Go.iconst 3 (0 : Int32) d2_2 rfl rfl ?_
  refine Go.aloadN 4 d2_3 rfl rfl rfl ?_
  refine Go.alen 5 (2 : Int32) d2_4 rfl A rfl ?_
  refine Go.aconstNull 6 d2_5 rfl ?_
  refine Go.callC (S := []) (a := x) 9 [(.ref b), (.int (0 : Int32)), (.int (2 : Int32)), .null] d2_6 rfl rfl rfl (w12 hw) (w13 hw) (w15 hw) (by decide) (call_of_go (R := _) (len := 3) (W := 0) (plainFor_of_name pn_1) (fun mid => ef_new4_2 mid x b z c0 c1 ) (c_new4_2 hw x b z c0 c1 E n0x V C A b_c0 b_c1 SC hz UA UH UL) (w15 hw) (w7 hw) (by decide) (by decide)) (lenOf pd_7 rfl) (Nat.le_of_ble_eq_true rfl) rfl (Nat.le_of_ble_eq_true rfl) (Nat.le_of_ble_eq_true rfl) (fun _ q => q) (fun v h_1 sf_2 hq => ?_)
  obtain ⟨rfl, K2, S2⟩ := hq
  refine Go.more (sf' := [x]) ?_ (Nat.le_refl _) (Nat.le_refl _) (fun _ q => List.mem_append_right _ q)
  show G_new1_2 md l Z n0 x b z c0 c1 h0 2 6 [x] h_1 9 #[.val (.ref x), .val (.ref b)] []
  exact Go.ret0 d2_9 rfl (sf' := []) (⟨rfl, K2, S2⟩) (fun _ q => nomatch q) (Nat.le_of_ble_eq_true rfl) (Nat.le_of_ble_eq_true rfl)
abbrev G_nbl3 (md : Md) (l : Launch) (Z : State) (n0 : Nat)  (h0 : Heap) := Go md l Z n0 ({ frames := 0, cells := 0, slots := 0, locals := 0 } : Room) jdk_52_method_3_code 1 (some .int) "java/lang/StringUTF16" "newBytesLength" (fun v h' _ => h0 = h' ∧ v = some (.int (6 : Int32)))
theorem ef_nbl3 (mid : MethodId)   : entryFrame mid #[(.int (3 : Int32))] 1 = mkF mid 0 #[.val (.int (3 : Int32))] [] := by first | (simp [entryFrame, mkF, argsToLocals, Value.category]; done) | rfl
set_option maxRecDepth 65536 in
set_option maxHeartbeats 40000000 in
theorem c_nbl3 {md : Md} {l : Launch} {Z : State} {n0 : Nat} {a0 : Array Value} (hw : HW a0 Z)  {h0 : Heap}  : G_nbl3 md l Z n0  h0 0 0 [] h0 0 #[.val (.int (3 : Int32))] [] := by
  refine Go.iloadN 1 d14_0 rfl rfl ?_
  refine Go.ifY 12 d14_1 (by decide) (by decide) (flt (by decide)).2.1 ?_
  refine Go.iloadN 13 d14_12 rfl rfl ?_
  refine Go.ldcI 15 d14_13 rfl (w79 hw) ?_
  refine Go.icmpY 55 d14_15 (by decide) (by decide) (tlt (by decide)).1 ?_
  refine Go.iloadN 56 d14_55 rfl rfl ?_
  refine Go.iconst 57 (1 : Int32) d14_56 rfl rfl ?_
  refine Go.ishl 58 d14_57 rfl ?_
  rw [show ((3 : Int32) <<< ((1 : Int32) &&& 31)) = (6 : Int32) from by decide]
  exact Go.retI d14_58 rfl (sf' := []) (⟨rfl, rfl⟩) (fun _ q => nomatch q) (Nat.le_of_ble_eq_true rfl) (Nat.le_of_ble_eq_true rfl)
abbrev G_nbf3 (md : Md) (l : Launch) (Z : State) (n0 : Nat)  (h0 : Heap) := Go md l Z n0 ({ frames := 1, cells := 1, slots := 6, locals := 12 } : Room) jdk_52_method_2_code 1 (some (.array .byte)) "java/lang/StringUTF16" "newBytesFor" (fun v h' sf' => ∃ x, v = some (.ref x) ∧ Ext h0 h' ∧ h0.size ≤ x ∧ Ary Z h' x .byte [(.int (0 : Int32)), (.int (0 : Int32)), (.int (0 : Int32)), (.int (0 : Int32)), (.int (0 : Int32)), (.int (0 : Int32))] ∧ sf' = [x] ∧ n0 ≤ x)
theorem ef_nbf3 (mid : MethodId)   : entryFrame mid #[(.int (3 : Int32))] 1 = mkF mid 0 #[.val (.int (3 : Int32))] [] := by first | (simp [entryFrame, mkF, argsToLocals, Value.category]; done) | rfl
set_option maxRecDepth 65536 in
set_option maxHeartbeats 40000000 in
theorem c_nbf3 {md : Md} {l : Launch} {Z : State} {n0 : Nat} {a0 : Array Value} (hw : HW a0 Z)  {h0 : Heap}  : G_nbf3 md l Z n0  h0 0 0 [] h0 0 #[.val (.int (3 : Int32))] [] := by
  refine Go.iloadN 1 d13_0 rfl rfl ?_
  refine Go.callS (S := []) 4 [(.int (3 : Int32))] d13_1 rfl rfl (w76 hw) (w77 hw) (w22 hw) (w78 hw) (by decide) (call_of_go (R := _) (len := 3) (W := 0) (plainFor_of_name pn_0) (fun mid => ef_nbl3 mid  ) (c_nbl3 hw  ) (w78 hw) (w22 hw) (by decide) (by decide)) (lenOf pd_0 rfl) (Nat.le_of_ble_eq_true rfl) rfl (Nat.le_of_ble_eq_true rfl) (Nat.le_of_ble_eq_true rfl) (fun _ q => nomatch q) (fun v h_1 sf_2 hq => ?_)
  obtain ⟨rfl, rfl⟩ := hq
  refine Go.more (sf' := []) ?_ (Nat.le_refl _) (Nat.le_refl _) (fun _ q => List.mem_append_right _ q)
  show G_nbf3 md l Z n0  h0 0 0 [] h0 4 #[.val (.int (3 : Int32))] [(.int (6 : Int32))]
  refine Go.newA 6 6 d13_4 rfl rfl (w24 hw) (by decide) 6 (Nat.le_refl _) (by decide) (Nat.le_of_ble_eq_true rfl) (Nat.le_of_ble_eq_true rfl) (fun h_3 x_4 g_5 q_6 E_7 lt_8 A_9 => ?_)
  have A_10 : Ary Z h_3 x_4 .byte [(.int (0 : Int32)), (.int (0 : Int32)), (.int (0 : Int32)), (.int (0 : Int32)), (.int (0 : Int32)), (.int (0 : Int32))] := A_9
  show G_nbf3 md l Z n0  h0 1 6 [x_4] h_3 6 #[.val (.int (3 : Int32))] [(.ref x_4)]
  exact Go.retA d13_6 rfl rfl rfl (sf' := [x_4]) (⟨_, rfl, E_7, (Nat.le_of_eq g_5), A_10, rfl, q_6⟩) (sub1 (List.mem_of_getElem? (i := 0) rfl)) (Nat.le_of_ble_eq_true rfl) (Nat.le_of_ble_eq_true rfl)
abbrev G_tob3 (md : Md) (l : Launch) (Z : State) (n0 : Nat) (b : Addr) (c0 c1 c2 : Int32) (h0 : Heap) := Go md l Z n0 ({ frames := 2, cells := 1, slots := 6, locals := 24 } : Room) jdk_52_method_14_code 5 (some (.array .byte)) "java/lang/StringUTF16" "toBytes" (fun v h' _ => ∃ x, v = some (.ref x) ∧ Ext h0 h' ∧ h0.size ≤ x ∧ Ary Z h' x .byte [(.int (lo16 c0)), (.int (hi16 c0)), (.int (lo16 c1)), (.int (hi16 c1)), (.int (lo16 c2)), (.int (hi16 c2))])
theorem ef_tob3 (mid : MethodId) (b : Addr) (c0 c1 c2 : Int32)  : entryFrame mid #[(.ref b), (.int (0 : Int32)), (.int (3 : Int32))] 5 = mkF mid 0 #[.val (.ref b), .val (.int (0 : Int32)), .val (.int (3 : Int32)), .unset, .unset] [] := by first | (simp [entryFrame, mkF, argsToLocals, Value.category]; done) | rfl
set_option maxRecDepth 65536 in
set_option maxHeartbeats 40000000 in
theorem c_tob3 {md : Md} {l : Launch} {Z : State} {n0 : Nat} {a0 : Array Value} (hw : HW a0 Z) (b : Addr) (c0 c1 c2 : Int32) {h0 : Heap} (A : Ary Z h0 b .char [(.int c0), (.int c1), (.int c2)]) (UA : Sta Z Z.heap "java/lang/StringUTF16" "$assertionsDisabled" "Z" (.int 1)) (UH : Sta Z Z.heap "java/lang/StringUTF16" "HI_BYTE_SHIFT" "I" (.int 0)) (UL : Sta Z Z.heap "java/lang/StringUTF16" "LO_BYTE_SHIFT" "I" (.int 8))  : G_tob3 md l Z n0 b c0 c1 c2 h0 0 0 [] h0 0 #[.val (.ref b), .val (.int (0 : Int32)), .val (.int (3 : Int32)), .unset, .unset] [] := by
  refine Go.iloadN 1 d12_0 rfl rfl ?_
  refine Go.callS (S := []) 4 [(.int (3 : Int32))] d12_1 rfl rfl (w73 hw) (w74 hw) (w22 hw) (w75 hw) (by decide) (call_of_go (R := _) (len := 3) (W := 0) (plainFor_of_name pn_0) (fun mid => ef_nbf3 mid  ) (c_nbf3 hw  ) (w75 hw) (w22 hw) (by decide) (by decide)) (lenOf pd_1 rfl) (Nat.le_of_ble_eq_true rfl) rfl (Nat.le_of_ble_eq_true rfl) (Nat.le_of_ble_eq_true rfl) (fun _ q => nomatch q) (fun v h_1 sf_2 hq => ?_)
  obtain ⟨d, rfl, X_d, le_d, A_d, rfl, n0d⟩ := hq
  have nd : d ≠ b := Nat.ne_of_gt (Nat.lt_of_lt_of_le A.lt le_d)
  show G_tob3 md l Z n0 b c0 c1 c2 h0 1 6 [d] h_1 4 #[.val (.ref b), .val (.int (0 : Int32)), .val (.int (3 : Int32)), .unset, .unset] [(.ref d)]
  refine Go.astoreN 5 #[.val (.ref b), .val (.int (0 : Int32)), .val (.int (3 : Int32)), .val (.ref d), .unset] d12_4 rfl rfl rfl ?_
  refine Go.iconst 6 (0 : Int32) d12_5 rfl rfl ?_
  refine Go.istore 8 #[.val (.ref b), .val (.int (0 : Int32)), .val (.int (3 : Int32)), .val (.ref d), .val (.int (0 : Int32))] d12_6 rfl rfl ?_
  refine Go.iload 10 d12_8 rfl rfl ?_
  refine Go.iloadN 11 d12_10 rfl rfl ?_
  refine Go.icmpN 14 d12_11 rfl (tlt (by decide)).2.1 ?_
  refine Go.aloadN 15 d12_14 rfl rfl rfl ?_
  refine Go.iload 17 d12_15 rfl rfl ?_
  refine Go.aloadN 18 d12_17 rfl rfl rfl ?_
  refine Go.iloadN 19 d12_18 rfl rfl ?_
  have f_3 := A.ext X_d
  refine Go.caload 0 20 d12_19 rfl f_3 (by decide) rfl ?_
  refine Go.callS (S := []) 23 [(.ref d), (.int (0 : Int32)), (.int c0)] d12_20 rfl rfl (w80 hw) (w81 hw) (w22 hw) (w82 hw) (by decide) (call_of_go (R := _) (len := 3) (W := 0) (plainFor_of_name pn_0) (fun mid => ef_putc0 mid d c0 [(.int (0 : Int32)), (.int (0 : Int32)), (.int (0 : Int32)), (.int (0 : Int32)), (.int (0 : Int32)), (.int (0 : Int32))] ) (c_putc0 hw d c0 [(.int (0 : Int32)), (.int (0 : Int32)), (.int (0 : Int32)), (.int (0 : Int32)), (.int (0 : Int32)), (.int (0 : Int32))] A_d n0d (Nat.le_of_ble_eq_true rfl) UA UH UL) (w82 hw) (w22 hw) (by decide) (by decide)) (lenOf pd_2 rfl) (Nat.le_of_ble_eq_true rfl) rfl (Nat.le_of_ble_eq_true rfl) (Nat.le_of_ble_eq_true rfl) (fun _ q => q) (fun v h_7 sf_8 hq => ?_)
  obtain ⟨rfl, K_4, A_5⟩ := hq
  have A_6 : Ary Z h_7 d .byte [(.int (lo16 c0)), (.int (hi16 c0)), (.int (0 : Int32)), (.int (0 : Int32)), (.int (0 : Int32)), (.int (0 : Int32))] := A_5
  refine Go.more (sf' := [d]) ?_ (Nat.le_refl _) (Nat.le_refl _) (fun _ q => List.mem_append_right _ q)
  show G_tob3 md l Z n0 b c0 c1 c2 h0 1 6 [d] h_7 23 #[.val (.ref b), .val (.int (0 : Int32)), .val (.int (3 : Int32)), .val (.ref d), .val (.int (0 : Int32))] []
  refine Go.iinc 26 #[.val (.ref b), .val (.int ((0 : Int32) + (1 : Int32))), .val (.int (3 : Int32)), .val (.ref d), .val (.int (0 : Int32))] (1 : Int32) d12_23 rfl rfl rfl rfl ?_
  rw [show ((0 : Int32) + (1 : Int32)) = (1 : Int32) from by decide]
  refine Go.iinc 29 #[.val (.ref b), .val (.int (1 : Int32)), .val (.int (3 : Int32)), .val (.ref d), .val (.int ((0 : Int32) + (1 : Int32)))] (1 : Int32) d12_26 rfl rfl rfl rfl ?_
  rw [show ((0 : Int32) + (1 : Int32)) = (1 : Int32) from by decide]
  refine Go.goto 8 d12_29 (by decide) (by decide) ?_
  refine Go.iload 10 d12_8 rfl rfl ?_
  refine Go.iloadN 11 d12_10 rfl rfl ?_
  refine Go.icmpN 14 d12_11 rfl (tlt (by decide)).2.1 ?_
  refine Go.aloadN 15 d12_14 rfl rfl rfl ?_
  refine Go.iload 17 d12_15 rfl rfl ?_
  refine Go.aloadN 18 d12_17 rfl rfl rfl ?_
  refine Go.iloadN 19 d12_18 rfl rfl ?_
  have X_9 : Ext h0 h_7 := extK X_d K_4 (allS le_d all0)
  have f_10 := A.ext X_9
  refine Go.caload 1 20 d12_19 rfl f_10 (by decide) rfl ?_
  refine Go.callS (S := []) 23 [(.ref d), (.int (1 : Int32)), (.int c1)] d12_20 rfl rfl (w80 hw) (w81 hw) (w22 hw) (w82 hw) (by decide) (call_of_go (R := _) (len := 3) (W := 0) (plainFor_of_name pn_0) (fun mid => ef_putc1 mid d c1 [(.int (lo16 c0)), (.int (hi16 c0)), (.int (0 : Int32)), (.int (0 : Int32)), (.int (0 : Int32)), (.int (0 : Int32))] ) (c_putc1 hw d c1 [(.int (lo16 c0)), (.int (hi16 c0)), (.int (0 : Int32)), (.int (0 : Int32)), (.int (0 : Int32)), (.int (0 : Int32))] A_6 n0d (Nat.le_of_ble_eq_true rfl) UA UH UL) (w82 hw) (w22 hw) (by decide) (by decide)) (lenOf pd_2 rfl) (Nat.le_of_ble_eq_true rfl) rfl (Nat.le_of_ble_eq_true rfl) (Nat.le_of_ble_eq_true rfl) (fun _ q => q) (fun v h_14 sf_15 hq => ?_)
  obtain ⟨rfl, K_11, A_12⟩ := hq
  have A_13 : Ary Z h_14 d .byte [(.int (lo16 c0)), (.int (hi16 c0)), (.int (lo16 c1)), (.int (hi16 c1)), (.int (0 : Int32)), (.int (0 : Int32))] := A_12
  refine Go.more (sf' := [d]) ?_ (Nat.le_refl _) (Nat.le_refl _) (fun _ q => List.mem_append_right _ q)
  show G_tob3 md l Z n0 b c0 c1 c2 h0 1 6 [d] h_14 23 #[.val (.ref b), .val (.int (1 : Int32)), .val (.int (3 : Int32)), .val (.ref d), .val (.int (1 : Int32))] []
  refine Go.iinc 26 #[.val (.ref b), .val (.int ((1 : Int32) + (1 : Int32))), .val (.int (3 : Int32)), .val (.ref d), .val (.int (1 : Int32))] (1 : Int32) d12_23 rfl rfl rfl rfl ?_
  rw [show ((1 : Int32) + (1 : Int32)) = (2 : Int32) from by decide]
  refine Go.iinc 29 #[.val (.ref b), .val (.int (2 : Int32)), .val (.int (3 : Int32)), .val (.ref d), .val (.int ((1 : Int32) + (1 : Int32)))] (1 : Int32) d12_26 rfl rfl rfl rfl ?_
  rw [show ((1 : Int32) + (1 : Int32)) = (2 : Int32) from by decide]
  refine Go.goto 8 d12_29 (by decide) (by decide) ?_
  refine Go.iload 10 d12_8 rfl rfl ?_
  refine Go.iloadN 11 d12_10 rfl rfl ?_
  refine Go.icmpN 14 d12_11 rfl (tlt (by decide)).2.1 ?_
  refine Go.aloadN 15 d12_14 rfl rfl rfl ?_
  refine Go.iload 17 d12_15 rfl rfl ?_
  refine Go.aloadN 18 d12_17 rfl rfl rfl ?_
  refine Go.iloadN 19 d12_18 rfl rfl ?_
  have X_16 : Ext h0 h_14 := extK X_9 K_11 (allS le_d all0)
  have f_17 := A.ext X_16
  refine Go.caload 2 20 d12_19 rfl f_17 (by decide) rfl ?_
  refine Go.callS (S := []) 23 [(.ref d), (.int (2 : Int32)), (.int c2)] d12_20 rfl rfl (w80 hw) (w81 hw) (w22 hw) (w82 hw) (by decide) (call_of_go (R := _) (len := 3) (W := 0) (plainFor_of_name pn_0) (fun mid => ef_putc2 mid d c2 [(.int (lo16 c0)), (.int (hi16 c0)), (.int (lo16 c1)), (.int (hi16 c1)), (.int (0 : Int32)), (.int (0 : Int32))] ) (c_putc2 hw d c2 [(.int (lo16 c0)), (.int (hi16 c0)), (.int (lo16 c1)), (.int (hi16 c1)), (.int (0 : Int32)), (.int (0 : Int32))] A_13 n0d (Nat.le_of_ble_eq_true rfl) UA UH UL) (w82 hw) (w22 hw) (by decide) (by decide)) (lenOf pd_2 rfl) (Nat.le_of_ble_eq_true rfl) rfl (Nat.le_of_ble_eq_true rfl) (Nat.le_of_ble_eq_true rfl) (fun _ q => q) (fun v h_21 sf_22 hq => ?_)
  obtain ⟨rfl, K_18, A_19⟩ := hq
  have A_20 : Ary Z h_21 d .byte [(.int (lo16 c0)), (.int (hi16 c0)), (.int (lo16 c1)), (.int (hi16 c1)), (.int (lo16 c2)), (.int (hi16 c2))] := A_19
  refine Go.more (sf' := [d]) ?_ (Nat.le_refl _) (Nat.le_refl _) (fun _ q => List.mem_append_right _ q)
  show G_tob3 md l Z n0 b c0 c1 c2 h0 1 6 [d] h_21 23 #[.val (.ref b), .val (.int (2 : Int32)), .val (.int (3 : Int32)), .val (.ref d), .val (.int (2 : Int32))] []
  refine Go.iinc 26 #[.val (.ref b), .val (.int ((2 : Int32) + (1 : Int32))), .val (.int (3 : Int32)), .val (.ref d), .val (.int (2 : Int32))] (1 : Int32) d12_23 rfl rfl rfl rfl ?_
  rw [show ((2 : Int32) + (1 : Int32)) = (3 : Int32) from by decide]
  refine Go.iinc 29 #[.val (.ref b), .val (.int (3 : Int32)), .val (.int (3 : Int32)), .val (.ref d), .val (.int ((2 : Int32) + (1 : Int32)))] (1 : Int32) d12_26 rfl rfl rfl rfl ?_
  rw [show ((2 : Int32) + (1 : Int32)) = (3 : Int32) from by decide]
  refine Go.goto 8 d12_29 (by decide) (by decide) ?_
  refine Go.iload 10 d12_8 rfl rfl ?_
  refine Go.iloadN 11 d12_10 rfl rfl ?_
  refine Go.icmpY 32 d12_11 (by decide) (by decide) (flt (by decide)).2.1 ?_
  refine Go.aloadN 33 d12_32 rfl rfl rfl ?_
  have X_23 : Ext h0 h_21 := extK X_16 K_18 (allS le_d all0)
  exact Go.retA d12_33 rfl rfl rfl (sf' := []) (⟨_, rfl, X_23, le_d, A_20⟩) (fun _ q => nomatch q) (Nat.le_of_ble_eq_true rfl) (Nat.le_of_ble_eq_true rfl)
abbrev G_cmp5_3 (md : Md) (l : Launch) (Z : State) (n0 : Nat) (b d : Addr) (c0 c1 c2 : Int32) (h0 : Heap) := Go md l Z n0 ({ frames := 0, cells := 0, slots := 0, locals := 0 } : Room) jdk_52_method_21_code 7 (some .int) "java/lang/StringUTF16" "compress" (fun v h' _ => ∃ r : Int32, v = some (.int r) ∧ Keep h0 h' [d] ∧ ((r = (3 : Int32) ∧ (¬ (255 : Int32) < c0 ∧ ¬ (255 : Int32) < c1 ∧ ¬ (255 : Int32) < c2) ∧ Ary Z h' d .byte [(.int c0.toInt8.toInt32), (.int c1.toInt8.toInt32), (.int c2.toInt8.toInt32)]) ∨ (r = (0 : Int32) ∧ (255 : Int32) < c0) ∨ (r = (1 : Int32) ∧ (255 : Int32) < c1) ∨ (r = (2 : Int32) ∧ (255 : Int32) < c2)))
theorem ef_cmp5_3 (mid : MethodId) (b d : Addr) (c0 c1 c2 : Int32)  : entryFrame mid #[(.ref b), (.int (0 : Int32)), (.ref d), (.int (0 : Int32)), (.int (3 : Int32))] 7 = mkF mid 0 #[.val (.ref b), .val (.int (0 : Int32)), .val (.ref d), .val (.int (0 : Int32)), .val (.int (3 : Int32)), .unset, .unset] [] := by first | (simp [entryFrame, mkF, argsToLocals, Value.category]; done) | rfl
set_option maxRecDepth 65536 in
set_option maxHeartbeats 40000000 in
theorem c_cmp5_3 {md : Md} {l : Launch} {Z : State} {n0 : Nat} {a0 : Array Value} (hw : HW a0 Z) (b d : Addr) (c0 c1 c2 : Int32) {h0 : Heap} (A : Ary Z h0 b .char [(.int c0), (.int c1), (.int c2)]) (D : Ary Z h0 d .byte [(.int (0 : Int32)), (.int (0 : Int32)), (.int (0 : Int32))]) (n0d : n0 ≤ d) (nbd : b ≠ d) : G_cmp5_3 md l Z n0 b d c0 c1 c2 h0 0 0 [d] h0 0 #[.val (.ref b), .val (.int (0 : Int32)), .val (.ref d), .val (.int (0 : Int32)), .val (.int (3 : Int32)), .unset, .unset] [] := by
  refine Go.iconst 1 (0 : Int32) d6_0 rfl rfl ?_
  refine Go.istore 3 #[.val (.ref b), .val (.int (0 : Int32)), .val (.ref d), .val (.int (0 : Int32)), .val (.int (3 : Int32)), .val (.int (0 : Int32)), .unset] d6_1 rfl rfl ?_
  refine Go.iload 5 d6_3 rfl rfl ?_
  refine Go.iload 7 d6_5 rfl rfl ?_
  refine Go.icmpN 10 d6_7 rfl (tlt (by decide)).2.1 ?_
  refine Go.aloadN 11 d6_10 rfl rfl rfl ?_
  refine Go.iloadN 12 d6_11 rfl rfl ?_
  refine Go.caload 0 13 d6_12 rfl A (by decide) rfl ?_
  refine Go.istore 15 #[.val (.ref b), .val (.int (0 : Int32)), .val (.ref d), .val (.int (0 : Int32)), .val (.int (3 : Int32)), .val (.int (0 : Int32)), .val (.int c0)] d6_13 rfl rfl ?_
  refine Go.iload 17 d6_15 rfl rfl ?_
  refine Go.sipush 20 (255 : Int32) d6_17 rfl rfl ?_
  by_cases hb_0 : (255 : Int32) < c0
  · skip
    refine Go.icmpN 23 d6_20 rfl (tlt hb_0).2.2.2 ?_
    refine Go.iload 25 d6_23 rfl rfl ?_
    exact Go.retI d6_25 rfl (sf' := []) (⟨_, rfl, (Keep.refl h0 [d]), Or.inr (Or.inl (⟨rfl, hb_0⟩))⟩) (fun _ q => nomatch q) (Nat.le_of_ble_eq_true rfl) (Nat.le_of_ble_eq_true rfl)
  · skip
    refine Go.icmpY 26 d6_20 (by decide) (by decide) (flt hb_0).2.2.2 ?_
    refine Go.aloadN 27 d6_26 rfl rfl rfl ?_
    refine Go.iloadN 28 d6_27 rfl rfl ?_
    refine Go.iload 30 d6_28 rfl rfl ?_
    refine Go.i2b 31 d6_30 rfl ?_
    refine Go.bastore 0 32 d6_31 rfl D (by decide) (Nat.le_of_ble_eq_true rfl) (List.mem_of_getElem? (i := 0) rfl) n0d (fun h_1 W_2 A_3 => ?_)
    have A_4 : Ary Z h_1 d .byte [(.int (c0).toInt8.toInt32), (.int (0 : Int32)), (.int (0 : Int32))] := by have := A_3; rw [i8_idem _] at this; exact this
    refine Go.iinc 35 #[.val (.ref b), .val (.int ((0 : Int32) + (1 : Int32))), .val (.ref d), .val (.int (0 : Int32)), .val (.int (3 : Int32)), .val (.int (0 : Int32)), .val (.int c0)] (1 : Int32) d6_32 rfl rfl rfl rfl ?_
    rw [show ((0 : Int32) + (1 : Int32)) = (1 : Int32) from by decide]
    refine Go.iinc 38 #[.val (.ref b), .val (.int (1 : Int32)), .val (.ref d), .val (.int ((0 : Int32) + (1 : Int32))), .val (.int (3 : Int32)), .val (.int (0 : Int32)), .val (.int c0)] (1 : Int32) d6_35 rfl rfl rfl rfl ?_
    rw [show ((0 : Int32) + (1 : Int32)) = (1 : Int32) from by decide]
    refine Go.iinc 41 #[.val (.ref b), .val (.int (1 : Int32)), .val (.ref d), .val (.int (1 : Int32)), .val (.int (3 : Int32)), .val (.int ((0 : Int32) + (1 : Int32))), .val (.int c0)] (1 : Int32) d6_38 rfl rfl rfl rfl ?_
    rw [show ((0 : Int32) + (1 : Int32)) = (1 : Int32) from by decide]
    refine Go.goto 3 d6_41 (by decide) (by decide) ?_
    refine Go.iload 5 d6_3 rfl rfl ?_
    refine Go.iload 7 d6_5 rfl rfl ?_
    refine Go.icmpN 10 d6_7 rfl (tlt (by decide)).2.1 ?_
    refine Go.aloadN 11 d6_10 rfl rfl rfl ?_
    refine Go.iloadN 12 d6_11 rfl rfl ?_
    have f_5 := (A.other W_2 nbd)
    refine Go.caload 1 13 d6_12 rfl f_5 (by decide) rfl ?_
    refine Go.istore 15 #[.val (.ref b), .val (.int (1 : Int32)), .val (.ref d), .val (.int (1 : Int32)), .val (.int (3 : Int32)), .val (.int (1 : Int32)), .val (.int c1)] d6_13 rfl rfl ?_
    refine Go.iload 17 d6_15 rfl rfl ?_
    refine Go.sipush 20 (255 : Int32) d6_17 rfl rfl ?_
    by_cases hb_1 : (255 : Int32) < c1
    · skip
      refine Go.icmpN 23 d6_20 rfl (tlt hb_1).2.2.2 ?_
      refine Go.iload 25 d6_23 rfl rfl ?_
      exact Go.retI d6_25 rfl (sf' := []) (⟨_, rfl, ((Keep.refl h0 [d]).wr W_2 (Or.inl (List.mem_of_getElem? (i := 0) rfl))), Or.inr (Or.inr (Or.inl (⟨rfl, hb_1⟩)))⟩) (fun _ q => nomatch q) (Nat.le_of_ble_eq_true rfl) (Nat.le_of_ble_eq_true rfl)
    · skip
      refine Go.icmpY 26 d6_20 (by decide) (by decide) (flt hb_1).2.2.2 ?_
      refine Go.aloadN 27 d6_26 rfl rfl rfl ?_
      refine Go.iloadN 28 d6_27 rfl rfl ?_
      refine Go.iload 30 d6_28 rfl rfl ?_
      refine Go.i2b 31 d6_30 rfl ?_
      refine Go.bastore 1 32 d6_31 rfl A_4 (by decide) (Nat.le_of_ble_eq_true rfl) (List.mem_of_getElem? (i := 0) rfl) n0d (fun h_6 W_7 A_8 => ?_)
      have A_9 : Ary Z h_6 d .byte [(.int (c0).toInt8.toInt32), (.int (c1).toInt8.toInt32), (.int (0 : Int32))] := by have := A_8; rw [i8_idem _] at this; exact this
      refine Go.iinc 35 #[.val (.ref b), .val (.int ((1 : Int32) + (1 : Int32))), .val (.ref d), .val (.int (1 : Int32)), .val (.int (3 : Int32)), .val (.int (1 : Int32)), .val (.int c1)] (1 : Int32) d6_32 rfl rfl rfl rfl ?_
      rw [show ((1 : Int32) + (1 : Int32)) = (2 : Int32) from by decide]
      refine Go.iinc 38 #[.val (.ref b), .val (.int (2 : Int32)), .val (.ref d), .val (.int ((1 : Int32) + (1 : Int32))), .val (.int (3 : Int32)), .val (.int (1 : Int32)), .val (.int c1)] (1 : Int32) d6_35 rfl rfl rfl rfl ?_
      rw [show ((1 : Int32) + (1 : Int32)) = (2 : Int32) from by decide]
      refine Go.iinc 41 #[.val (.ref b), .val (.int (2 : Int32)), .val (.ref d), .val (.int (2 : Int32)), .val (.int (3 : Int32)), .val (.int ((1 : Int32) + (1 : Int32))), .val (.int c1)] (1 : Int32) d6_38 rfl rfl rfl rfl ?_
      rw [show ((1 : Int32) + (1 : Int32)) = (2 : Int32) from by decide]
      refine Go.goto 3 d6_41 (by decide) (by decide) ?_
      refine Go.iload 5 d6_3 rfl rfl ?_
      refine Go.iload 7 d6_5 rfl rfl ?_
      refine Go.icmpN 10 d6_7 rfl (tlt (by decide)).2.1 ?_
      refine Go.aloadN 11 d6_10 rfl rfl rfl ?_
      refine Go.iloadN 12 d6_11 rfl rfl ?_
      have f_10 := (f_5.other W_7 nbd)
      refine Go.caload 2 13 d6_12 rfl f_10 (by decide) rfl ?_
      refine Go.istore 15 #[.val (.ref b), .val (.int (2 : Int32)), .val (.ref d), .val (.int (2 : Int32)), .val (.int (3 : Int32)), .val (.int (2 : Int32)), .val (.int c2)] d6_13 rfl rfl ?_
      refine Go.iload 17 d6_15 rfl rfl ?_
      refine Go.sipush 20 (255 : Int32) d6_17 rfl rfl ?_
      by_cases hb_2 : (255 : Int32) < c2
      · skip
        refine Go.icmpN 23 d6_20 rfl (tlt hb_2).2.2.2 ?_
        refine Go.iload 25 d6_23 rfl rfl ?_
        exact Go.retI d6_25 rfl (sf' := []) (⟨_, rfl, (((Keep.refl h0 [d]).wr W_2 (Or.inl (List.mem_of_getElem? (i := 0) rfl))).wr W_7 (Or.inl (List.mem_of_getElem? (i := 0) rfl))), Or.inr (Or.inr (Or.inr (⟨rfl, hb_2⟩)))⟩) (fun _ q => nomatch q) (Nat.le_of_ble_eq_true rfl) (Nat.le_of_ble_eq_true rfl)
      · skip
        refine Go.icmpY 26 d6_20 (by decide) (by decide) (flt hb_2).2.2.2 ?_
        refine Go.aloadN 27 d6_26 rfl rfl rfl ?_
        refine Go.iloadN 28 d6_27 rfl rfl ?_
        refine Go.iload 30 d6_28 rfl rfl ?_
        refine Go.i2b 31 d6_30 rfl ?_
        refine Go.bastore 2 32 d6_31 rfl A_9 (by decide) (Nat.le_of_ble_eq_true rfl) (List.mem_of_getElem? (i := 0) rfl) n0d (fun h_11 W_12 A_13 => ?_)
        have A_14 : Ary Z h_11 d .byte [(.int (c0).toInt8.toInt32), (.int (c1).toInt8.toInt32), (.int (c2).toInt8.toInt32)] := by have := A_13; rw [i8_idem _] at this; exact this
        refine Go.iinc 35 #[.val (.ref b), .val (.int ((2 : Int32) + (1 : Int32))), .val (.ref d), .val (.int (2 : Int32)), .val (.int (3 : Int32)), .val (.int (2 : Int32)), .val (.int c2)] (1 : Int32) d6_32 rfl rfl rfl rfl ?_
        rw [show ((2 : Int32) + (1 : Int32)) = (3 : Int32) from by decide]
        refine Go.iinc 38 #[.val (.ref b), .val (.int (3 : Int32)), .val (.ref d), .val (.int ((2 : Int32) + (1 : Int32))), .val (.int (3 : Int32)), .val (.int (2 : Int32)), .val (.int c2)] (1 : Int32) d6_35 rfl rfl rfl rfl ?_
        rw [show ((2 : Int32) + (1 : Int32)) = (3 : Int32) from by decide]
        refine Go.iinc 41 #[.val (.ref b), .val (.int (3 : Int32)), .val (.ref d), .val (.int (3 : Int32)), .val (.int (3 : Int32)), .val (.int ((2 : Int32) + (1 : Int32))), .val (.int c2)] (1 : Int32) d6_38 rfl rfl rfl rfl ?_
        rw [show ((2 : Int32) + (1 : Int32)) = (3 : Int32) from by decide]
        refine Go.goto 3 d6_41 (by decide) (by decide) ?_
        refine Go.iload 5 d6_3 rfl rfl ?_
        refine Go.iload 7 d6_5 rfl rfl ?_
        refine Go.icmpY 44 d6_7 (by decide) (by decide) (flt (by decide)).2.1 ?_
        refine Go.iload 46 d6_44 rfl rfl ?_
        exact Go.retI d6_46 rfl (sf' := []) (⟨_, rfl, ((((Keep.refl h0 [d]).wr W_2 (Or.inl (List.mem_of_getElem? (i := 0) rfl))).wr W_7 (Or.inl (List.mem_of_getElem? (i := 0) rfl))).wr W_12 (Or.inl (List.mem_of_getElem? (i := 0) rfl))), Or.inl ⟨rfl, ⟨hb_0, hb_1, hb_2⟩, A_14⟩⟩) (fun _ q => nomatch q) (Nat.le_of_ble_eq_true rfl) (Nat.le_of_ble_eq_true rfl)
abbrev G_cmp3_3 (md : Md) (l : Launch) (Z : State) (n0 : Nat) (b : Addr) (c0 c1 c2 : Int32) (h0 : Heap) := Go md l Z n0 ({ frames := 3, cells := 2, slots := 9, locals := 40 } : Room) jdk_52_method_16_code 6 (some (.array .byte)) "java/lang/StringUTF16" "compress" (fun v h' _ => ∃ x, v = some (.ref x) ∧ Ext h0 h' ∧ h0.size ≤ x ∧ (((¬ (255 : Int32) < c0 ∧ ¬ (255 : Int32) < c1 ∧ ¬ (255 : Int32) < c2) ∧ Ary Z h' x .byte [(.int c0.toInt8.toInt32), (.int c1.toInt8.toInt32), (.int c2.toInt8.toInt32)]) ∨ (((255 : Int32) < c0 ∨ (255 : Int32) < c1 ∨ (255 : Int32) < c2) ∧ Ary Z h' x .byte [(.int (lo16 c0)), (.int (hi16 c0)), (.int (lo16 c1)), (.int (hi16 c1)), (.int (lo16 c2)), (.int (hi16 c2))])))
theorem ef_cmp3_3 (mid : MethodId) (b : Addr) (c0 c1 c2 : Int32)  : entryFrame mid #[(.ref b), (.int (0 : Int32)), (.int (3 : Int32))] 6 = mkF mid 0 #[.val (.ref b), .val (.int (0 : Int32)), .val (.int (3 : Int32)), .unset, .unset, .unset] [] := by first | (simp [entryFrame, mkF, argsToLocals, Value.category]; done) | rfl
set_option maxRecDepth 65536 in
set_option maxHeartbeats 40000000 in
theorem c_cmp3_3 {md : Md} {l : Launch} {Z : State} {n0 : Nat} {a0 : Array Value} (hw : HW a0 Z) (b : Addr) (c0 c1 c2 : Int32) {h0 : Heap} (A : Ary Z h0 b .char [(.int c0), (.int c1), (.int c2)]) (b_c0 : CHP c0) (b_c1 : CHP c1) (b_c2 : CHP c2) (UA : Sta Z Z.heap "java/lang/StringUTF16" "$assertionsDisabled" "Z" (.int 1)) (UH : Sta Z Z.heap "java/lang/StringUTF16" "HI_BYTE_SHIFT" "I" (.int 0)) (UL : Sta Z Z.heap "java/lang/StringUTF16" "LO_BYTE_SHIFT" "I" (.int 8))  : G_cmp3_3 md l Z n0 b c0 c1 c2 h0 0 0 [] h0 0 #[.val (.ref b), .val (.int (0 : Int32)), .val (.int (3 : Int32)), .unset, .unset, .unset] [] := by
  refine Go.iloadN 1 d5_0 rfl rfl ?_
  refine Go.newA 3 3 d5_1 rfl rfl (w24 hw) (by decide) 3 (Nat.le_refl _) (by decide) (Nat.le_of_ble_eq_true rfl) (Nat.le_of_ble_eq_true rfl) (fun h_1 x_2 g_3 q_4 E_5 lt_6 A_7 => ?_)
  have A_8 : Ary Z h_1 x_2 .byte [(.int (0 : Int32)), (.int (0 : Int32)), (.int (0 : Int32))] := A_7
  show G_cmp3_3 md l Z n0 b c0 c1 c2 h0 1 3 [x_2] h_1 3 #[.val (.ref b), .val (.int (0 : Int32)), .val (.int (3 : Int32)), .unset, .unset, .unset] [(.ref x_2)]
  refine Go.astoreN 4 #[.val (.ref b), .val (.int (0 : Int32)), .val (.int (3 : Int32)), .val (.ref x_2), .unset, .unset] d5_3 rfl rfl rfl ?_
  refine Go.aloadN 5 d5_4 rfl rfl rfl ?_
  refine Go.iloadN 6 d5_5 rfl rfl ?_
  refine Go.aloadN 7 d5_6 rfl rfl rfl ?_
  refine Go.iconst 8 (0 : Int32) d5_7 rfl rfl ?_
  refine Go.iloadN 9 d5_8 rfl rfl ?_
  have f_9 := A.ext E_5
  have nbd : b ≠ x_2 := Nat.ne_of_lt (Nat.lt_of_lt_of_le A.lt (Nat.le_of_eq g_3))
  refine Go.callS (S := []) 12 [(.ref b), (.int (0 : Int32)), (.ref x_2), (.int (0 : Int32)), (.int (3 : Int32))] d5_9 rfl rfl (w25 hw) (w26 hw) (w22 hw) (w27 hw) (by decide) (call_of_go (R := _) (len := 3) (W := 0) (plainFor_of_name pn_0) (fun mid => ef_cmp5_3 mid b x_2 c0 c1 c2 ) (c_cmp5_3 hw b x_2 c0 c1 c2 f_9 A_8 q_4 nbd) (w27 hw) (w22 hw) (by decide) (by decide)) (lenOf pd_3 rfl) (Nat.le_of_ble_eq_true rfl) rfl (Nat.le_of_ble_eq_true rfl) (Nat.le_of_ble_eq_true rfl) (fun _ q => q) (fun v h_10 sf_11 hq => ?_)
  obtain ⟨r, rfl, K5, ⟨rfl, hlat, D5⟩ | ⟨rfl, hbig⟩ | ⟨rfl, hbig⟩ | ⟨rfl, hbig⟩⟩ := hq
  · skip
    refine Go.more (sf' := [x_2]) ?_ (Nat.le_refl _) (Nat.le_refl _) (fun _ q => List.mem_append_right _ q)
    show G_cmp3_3 md l Z n0 b c0 c1 c2 h0 1 3 [x_2] h_10 12 #[.val (.ref b), .val (.int (0 : Int32)), .val (.int (3 : Int32)), .val (.ref x_2), .unset, .unset] [(.int (3 : Int32))]
    refine Go.istore 14 #[.val (.ref b), .val (.int (0 : Int32)), .val (.int (3 : Int32)), .val (.ref x_2), .val (.int (3 : Int32)), .unset] d5_12 rfl rfl ?_
    refine Go.iload 16 d5_14 rfl rfl ?_
    refine Go.iloadN 17 d5_16 rfl rfl ?_
    refine Go.icmpY 57 d5_17 (by decide) (by decide) (teq (by decide)).1 ?_
    refine Go.aloadN 58 d5_57 rfl rfl rfl ?_
    have X_12 : Ext h0 h_10 := extK E_5 K5 (allS (Nat.le_of_eq g_3) all0)
    exact Go.retA d5_58 rfl rfl rfl (sf' := []) (⟨_, rfl, X_12, (Nat.le_of_eq g_3), Or.inl ⟨hlat, D5⟩⟩) (fun _ q => nomatch q) (Nat.le_of_ble_eq_true rfl) (Nat.le_of_ble_eq_true rfl)
  · skip
    refine Go.more (sf' := [x_2]) ?_ (Nat.le_refl _) (Nat.le_refl _) (fun _ q => List.mem_append_right _ q)
    show G_cmp3_3 md l Z n0 b c0 c1 c2 h0 1 3 [x_2] h_10 12 #[.val (.ref b), .val (.int (0 : Int32)), .val (.int (3 : Int32)), .val (.ref x_2), .unset, .unset] [(.int (0 : Int32))]
    refine Go.istore 14 #[.val (.ref b), .val (.int (0 : Int32)), .val (.int (3 : Int32)), .val (.ref x_2), .val (.int (0 : Int32)), .unset] d5_12 rfl rfl ?_
    refine Go.iload 16 d5_14 rfl rfl ?_
    refine Go.iloadN 17 d5_16 rfl rfl ?_
    refine Go.icmpN 20 d5_17 rfl (feq (by decide)).1 ?_
    refine Go.aloadN 21 d5_20 rfl rfl rfl ?_
    refine Go.iloadN 22 d5_21 rfl rfl ?_
    refine Go.iloadN 23 d5_22 rfl rfl ?_
    have X_13 : Ext h0 h_10 := extK E_5 K5 (allS (Nat.le_of_eq g_3) all0)
    have f_14 := A.ext X_13
    refine Go.callS (S := []) 26 [(.ref b), (.int (0 : Int32)), (.int (3 : Int32))] d5_23 rfl rfl (w70 hw) (w71 hw) (w22 hw) (w72 hw) (by decide) (call_of_go (R := _) (len := 3) (W := 0) (plainFor_of_name pn_0) (fun mid => ef_tob3 mid b c0 c1 c2 ) (c_tob3 hw b c0 c1 c2 f_14 UA UH UL) (w72 hw) (w22 hw) (by decide) (by decide)) (lenOf pd_4 rfl) (Nat.le_of_ble_eq_true rfl) rfl (Nat.le_of_ble_eq_true rfl) (Nat.le_of_ble_eq_true rfl) (fun _ q => nomatch q) (fun v h_15 sf_20 hq => ?_)
    obtain ⟨x_16, rfl, E_17, le_18, A_19⟩ := hq
    refine Go.more (sf' := [x_2]) ?_ (Nat.le_refl _) (Nat.le_refl _) (fun _ q => List.mem_append_right _ q)
    show G_cmp3_3 md l Z n0 b c0 c1 c2 h0 2 9 [x_2] h_15 26 #[.val (.ref b), .val (.int (0 : Int32)), .val (.int (3 : Int32)), .val (.ref x_2), .val (.int (0 : Int32)), .unset] [(.ref x_16)]
    refine Go.astore 28 #[.val (.ref b), .val (.int (0 : Int32)), .val (.int (3 : Int32)), .val (.ref x_2), .val (.int (0 : Int32)), .val (.ref x_16)] d5_26 rfl rfl rfl ?_
    refine Go.aload 30 d5_28 rfl rfl rfl ?_
    refine Go.iload 32 d5_30 rfl rfl ?_
    refine Go.callS (S := []) 35 [(.ref x_16), (.int (0 : Int32))] d5_32 rfl rfl (w86 hw) (w87 hw) (w22 hw) (w88 hw) (by decide) (call_of_go (R := _) (len := 3) (W := 0) (plainFor_of_name pn_0) (fun mid => ef_getc0 mid x_16 (lo16 c0) (hi16 c0) [(.int (lo16 c0)), (.int (hi16 c0)), (.int (lo16 c1)), (.int (hi16 c1)), (.int (lo16 c2)), (.int (hi16 c2))] ) (c_getc0 hw x_16 (lo16 c0) (hi16 c0) [(.int (lo16 c0)), (.int (hi16 c0)), (.int (lo16 c1)), (.int (hi16 c1)), (.int (lo16 c2)), (.int (hi16 c2))] A_19 rfl rfl UA UH UL) (w88 hw) (w22 hw) (by decide) (by decide)) (lenOf pd_5 rfl) (Nat.le_of_ble_eq_true rfl) rfl (Nat.le_of_ble_eq_true rfl) (Nat.le_of_ble_eq_true rfl) (fun _ q => nomatch q) (fun v h_21 sf_22 hq => ?_)
    obtain ⟨rfl, rfl⟩ := hq
    rw [rt16 b_c0]
    refine Go.more (sf' := [x_2]) ?_ (Nat.le_refl _) (Nat.le_refl _) (fun _ q => List.mem_append_right _ q)
    show G_cmp3_3 md l Z n0 b c0 c1 c2 h0 2 9 [x_2] h_15 35 #[.val (.ref b), .val (.int (0 : Int32)), .val (.int (3 : Int32)), .val (.ref x_2), .val (.int (0 : Int32)), .val (.ref x_16)] [(.int c0)]
    refine Go.sipush 38 (255 : Int32) d5_35 rfl rfl ?_
    refine Go.icmpY 54 d5_38 (by decide) (by decide) (tlt hbig).2.2.1 ?_
    refine Go.aload 56 d5_54 rfl rfl rfl ?_
    have X_23 : Ext h0 h_15 := extT X_13 E_17
    exact Go.retA d5_56 rfl rfl rfl (sf' := []) (⟨_, rfl, X_23, (Nat.le_trans X_13.1 le_18), Or.inr ⟨Or.inl (hbig), A_19⟩⟩) (fun _ q => nomatch q) (Nat.le_of_ble_eq_true rfl) (Nat.le_of_ble_eq_true rfl)
  · skip
    refine Go.more (sf' := [x_2]) ?_ (Nat.le_refl _) (Nat.le_refl _) (fun _ q => List.mem_append_right _ q)
    show G_cmp3_3 md l Z n0 b c0 c1 c2 h0 1 3 [x_2] h_10 12 #[.val (.ref b), .val (.int (0 : Int32)), .val (.int (3 : Int32)), .val (.ref x_2), .unset, .unset] [(.int (1 : Int32))]
    refine Go.istore 14 #[.val (.ref b), .val (.int (0 : Int32)), .val (.int (3 : Int32)), .val (.ref x_2), .val (.int (1 : Int32)), .unset] d5_12 rfl rfl ?_
    refine Go.iload 16 d5_14 rfl rfl ?_
    refine Go.iloadN 17 d5_16 rfl rfl ?_
    refine Go.icmpN 20 d5_17 rfl (feq (by decide)).1 ?_
    refine Go.aloadN 21 d5_20 rfl rfl rfl ?_
    refine Go.iloadN 22 d5_21 rfl rfl ?_
    refine Go.iloadN 23 d5_22 rfl rfl ?_
    have X_24 : Ext h0 h_10 := extK E_5 K5 (allS (Nat.le_of_eq g_3) all0)
    have f_25 := A.ext X_24
    refine Go.callS (S := []) 26 [(.ref b), (.int (0 : Int32)), (.int (3 : Int32))] d5_23 rfl rfl (w70 hw) (w71 hw) (w22 hw) (w72 hw) (by decide) (call_of_go (R := _) (len := 3) (W := 0) (plainFor_of_name pn_0) (fun mid => ef_tob3 mid b c0 c1 c2 ) (c_tob3 hw b c0 c1 c2 f_25 UA UH UL) (w72 hw) (w22 hw) (by decide) (by decide)) (lenOf pd_4 rfl) (Nat.le_of_ble_eq_true rfl) rfl (Nat.le_of_ble_eq_true rfl) (Nat.le_of_ble_eq_true rfl) (fun _ q => nomatch q) (fun v h_26 sf_31 hq => ?_)
    obtain ⟨x_27, rfl, E_28, le_29, A_30⟩ := hq
    refine Go.more (sf' := [x_2]) ?_ (Nat.le_refl _) (Nat.le_refl _) (fun _ q => List.mem_append_right _ q)
    show G_cmp3_3 md l Z n0 b c0 c1 c2 h0 2 9 [x_2] h_26 26 #[.val (.ref b), .val (.int (0 : Int32)), .val (.int (3 : Int32)), .val (.ref x_2), .val (.int (1 : Int32)), .unset] [(.ref x_27)]
    refine Go.astore 28 #[.val (.ref b), .val (.int (0 : Int32)), .val (.int (3 : Int32)), .val (.ref x_2), .val (.int (1 : Int32)), .val (.ref x_27)] d5_26 rfl rfl rfl ?_
    refine Go.aload 30 d5_28 rfl rfl rfl ?_
    refine Go.iload 32 d5_30 rfl rfl ?_
    refine Go.callS (S := []) 35 [(.ref x_27), (.int (1 : Int32))] d5_32 rfl rfl (w86 hw) (w87 hw) (w22 hw) (w88 hw) (by decide) (call_of_go (R := _) (len := 3) (W := 0) (plainFor_of_name pn_0) (fun mid => ef_getc1 mid x_27 (lo16 c1) (hi16 c1) [(.int (lo16 c0)), (.int (hi16 c0)), (.int (lo16 c1)), (.int (hi16 c1)), (.int (lo16 c2)), (.int (hi16 c2))] ) (c_getc1 hw x_27 (lo16 c1) (hi16 c1) [(.int (lo16 c0)), (.int (hi16 c0)), (.int (lo16 c1)), (.int (hi16 c1)), (.int (lo16 c2)), (.int (hi16 c2))] A_30 rfl rfl UA UH UL) (w88 hw) (w22 hw) (by decide) (by decide)) (lenOf pd_5 rfl) (Nat.le_of_ble_eq_true rfl) rfl (Nat.le_of_ble_eq_true rfl) (Nat.le_of_ble_eq_true rfl) (fun _ q => nomatch q) (fun v h_32 sf_33 hq => ?_)
    obtain ⟨rfl, rfl⟩ := hq
    rw [rt16 b_c1]
    refine Go.more (sf' := [x_2]) ?_ (Nat.le_refl _) (Nat.le_refl _) (fun _ q => List.mem_append_right _ q)
    show G_cmp3_3 md l Z n0 b c0 c1 c2 h0 2 9 [x_2] h_26 35 #[.val (.ref b), .val (.int (0 : Int32)), .val (.int (3 : Int32)), .val (.ref x_2), .val (.int (1 : Int32)), .val (.ref x_27)] [(.int c1)]
    refine Go.sipush 38 (255 : Int32) d5_35 rfl rfl ?_
    refine Go.icmpY 54 d5_38 (by decide) (by decide) (tlt hbig).2.2.1 ?_
    refine Go.aload 56 d5_54 rfl rfl rfl ?_
    have X_34 : Ext h0 h_26 := extT X_24 E_28
    exact Go.retA d5_56 rfl rfl rfl (sf' := []) (⟨_, rfl, X_34, (Nat.le_trans X_24.1 le_29), Or.inr ⟨Or.inr (Or.inl (hbig)), A_30⟩⟩) (fun _ q => nomatch q) (Nat.le_of_ble_eq_true rfl) (Nat.le_of_ble_eq_true rfl)
  · skip
    refine Go.more (sf' := [x_2]) ?_ (Nat.le_refl _) (Nat.le_refl _) (fun _ q => List.mem_append_right _ q)
    show G_cmp3_3 md l Z n0 b c0 c1 c2 h0 1 3 [x_2] h_10 12 #[.val (.ref b), .val (.int (0 : Int32)), .val (.int (3 : Int32)), .val (.ref x_2), .unset, .unset] [(.int (2 : Int32))]
    refine Go.istore 14 #[.val (.ref b), .val (.int (0 : Int32)), .val (.int (3 : Int32)), .val (.ref x_2), .val (.int (2 : Int32)), .unset] d5_12 rfl rfl ?_
    refine Go.iload 16 d5_14 rfl rfl ?_
    refine Go.iloadN 17 d5_16 rfl rfl ?_
    refine Go.icmpN 20 d5_17 rfl (feq (by decide)).1 ?_
    refine Go.aloadN 21 d5_20 rfl rfl rfl ?_
    refine Go.iloadN 22 d5_21 rfl rfl ?_
    refine Go.iloadN 23 d5_22 rfl rfl ?_
    have X_35 : Ext h0 h_10 := extK E_5 K5 (allS (Nat.le_of_eq g_3) all0)
    have f_36 := A.ext X_35
    refine Go.callS (S := []) 26 [(.ref b), (.int (0 : Int32)), (.int (3 : Int32))] d5_23 rfl rfl (w70 hw) (w71 hw) (w22 hw) (w72 hw) (by decide) (call_of_go (R := _) (len := 3) (W := 0) (plainFor_of_name pn_0) (fun mid => ef_tob3 mid b c0 c1 c2 ) (c_tob3 hw b c0 c1 c2 f_36 UA UH UL) (w72 hw) (w22 hw) (by decide) (by decide)) (lenOf pd_4 rfl) (Nat.le_of_ble_eq_true rfl) rfl (Nat.le_of_ble_eq_true rfl) (Nat.le_of_ble_eq_true rfl) (fun _ q => nomatch q) (fun v h_37 sf_42 hq => ?_)
    obtain ⟨x_38, rfl, E_39, le_40, A_41⟩ := hq
    refine Go.more (sf' := [x_2]) ?_ (Nat.le_refl _) (Nat.le_refl _) (fun _ q => List.mem_append_right _ q)
    show G_cmp3_3 md l Z n0 b c0 c1 c2 h0 2 9 [x_2] h_37 26 #[.val (.ref b), .val (.int (0 : Int32)), .val (.int (3 : Int32)), .val (.ref x_2), .val (.int (2 : Int32)), .unset] [(.ref x_38)]
    refine Go.astore 28 #[.val (.ref b), .val (.int (0 : Int32)), .val (.int (3 : Int32)), .val (.ref x_2), .val (.int (2 : Int32)), .val (.ref x_38)] d5_26 rfl rfl rfl ?_
    refine Go.aload 30 d5_28 rfl rfl rfl ?_
    refine Go.iload 32 d5_30 rfl rfl ?_
    refine Go.callS (S := []) 35 [(.ref x_38), (.int (2 : Int32))] d5_32 rfl rfl (w86 hw) (w87 hw) (w22 hw) (w88 hw) (by decide) (call_of_go (R := _) (len := 3) (W := 0) (plainFor_of_name pn_0) (fun mid => ef_getc2 mid x_38 (lo16 c2) (hi16 c2) [(.int (lo16 c0)), (.int (hi16 c0)), (.int (lo16 c1)), (.int (hi16 c1)), (.int (lo16 c2)), (.int (hi16 c2))] ) (c_getc2 hw x_38 (lo16 c2) (hi16 c2) [(.int (lo16 c0)), (.int (hi16 c0)), (.int (lo16 c1)), (.int (hi16 c1)), (.int (lo16 c2)), (.int (hi16 c2))] A_41 rfl rfl UA UH UL) (w88 hw) (w22 hw) (by decide) (by decide)) (lenOf pd_5 rfl) (Nat.le_of_ble_eq_true rfl) rfl (Nat.le_of_ble_eq_true rfl) (Nat.le_of_ble_eq_true rfl) (fun _ q => nomatch q) (fun v h_43 sf_44 hq => ?_)
    obtain ⟨rfl, rfl⟩ := hq
    rw [rt16 b_c2]
    refine Go.more (sf' := [x_2]) ?_ (Nat.le_refl _) (Nat.le_refl _) (fun _ q => List.mem_append_right _ q)
    show G_cmp3_3 md l Z n0 b c0 c1 c2 h0 2 9 [x_2] h_37 35 #[.val (.ref b), .val (.int (0 : Int32)), .val (.int (3 : Int32)), .val (.ref x_2), .val (.int (2 : Int32)), .val (.ref x_38)] [(.int c2)]
    refine Go.sipush 38 (255 : Int32) d5_35 rfl rfl ?_
    refine Go.icmpY 54 d5_38 (by decide) (by decide) (tlt hbig).2.2.1 ?_
    refine Go.aload 56 d5_54 rfl rfl rfl ?_
    have X_45 : Ext h0 h_37 := extT X_35 E_39
    exact Go.retA d5_56 rfl rfl rfl (sf' := []) (⟨_, rfl, X_45, (Nat.le_trans X_35.1 le_40), Or.inr ⟨Or.inr (Or.inr (hbig)), A_41⟩⟩) (fun _ q => nomatch q) (Nat.le_of_ble_eq_true rfl) (Nat.le_of_ble_eq_true rfl)
abbrev G_cfl3_0 (md : Md) (l : Launch) (Z : State) (n0 : Nat) (d : Addr) (vs : List Value) (h0 : Heap) := Go md l Z n0 ({ frames := 0, cells := 0, slots := 0, locals := 0 } : Room) jdk_52_method_15_code 2 (some .byte) "java/lang/StringUTF16" "coderFromArrayLen" (fun v h' _ => h0 = h' ∧ v = some (.int 0))
theorem ef_cfl3_0 (mid : MethodId) (d : Addr) (vs : List Value)  : entryFrame mid #[(.ref d), (.int (3 : Int32))] 2 = mkF mid 0 #[.val (.ref d), .val (.int (3 : Int32))] [] := by first | (simp [entryFrame, mkF, argsToLocals, Value.category]; done) | rfl
set_option maxRecDepth 65536 in
set_option maxHeartbeats 40000000 in
theorem c_cfl3_0 {md : Md} {l : Launch} {Z : State} {n0 : Nat} {a0 : Array Value} (hw : HW a0 Z) (d : Addr) (vs : List Value) {h0 : Heap} (A : Ary Z h0 d .byte vs) (hl : vs.length = 3) : G_cfl3_0 md l Z n0 d vs h0 0 0 [] h0 0 #[.val (.ref d), .val (.int (3 : Int32))] [] := by
  refine Go.iloadN 1 d7_0 rfl rfl ?_
  refine Go.aloadN 2 d7_1 rfl rfl rfl ?_
  refine Go.alen 3 (3 : Int32) d7_2 rfl A (by rw [hl]; rfl) ?_
  refine Go.isub 4 d7_3 rfl ?_
  rw [show ((3 : Int32) - (3 : Int32)) = (0 : Int32) from by decide]
  refine Go.bipush 6 (31 : Int32) d7_4 rfl rfl ?_
  refine Go.iushr 7 d7_6 rfl ?_
  refine Go.i2b 8 d7_7 rfl ?_
  exact Go.retN (0 : Int32) d7_8 rfl (t := .byte) (by simp) (by decide) (sf' := []) (⟨rfl, rfl⟩) (fun _ q => nomatch q) (Nat.le_of_ble_eq_true rfl) (Nat.le_of_ble_eq_true rfl)
abbrev G_cfl3_1 (md : Md) (l : Launch) (Z : State) (n0 : Nat) (d : Addr) (vs : List Value) (h0 : Heap) := Go md l Z n0 ({ frames := 0, cells := 0, slots := 0, locals := 0 } : Room) jdk_52_method_15_code 2 (some .byte) "java/lang/StringUTF16" "coderFromArrayLen" (fun v h' _ => h0 = h' ∧ v = some (.int 1))
theorem ef_cfl3_1 (mid : MethodId) (d : Addr) (vs : List Value)  : entryFrame mid #[(.ref d), (.int (3 : Int32))] 2 = mkF mid 0 #[.val (.ref d), .val (.int (3 : Int32))] [] := by first | (simp [entryFrame, mkF, argsToLocals, Value.category]; done) | rfl
set_option maxRecDepth 65536 in
set_option maxHeartbeats 40000000 in
theorem c_cfl3_1 {md : Md} {l : Launch} {Z : State} {n0 : Nat} {a0 : Array Value} (hw : HW a0 Z) (d : Addr) (vs : List Value) {h0 : Heap} (A : Ary Z h0 d .byte vs) (hl : vs.length = 6) : G_cfl3_1 md l Z n0 d vs h0 0 0 [] h0 0 #[.val (.ref d), .val (.int (3 : Int32))] [] := by
  refine Go.iloadN 1 d7_0 rfl rfl ?_
  refine Go.aloadN 2 d7_1 rfl rfl rfl ?_
  refine Go.alen 3 (6 : Int32) d7_2 rfl A (by rw [hl]; rfl) ?_
  refine Go.isub 4 d7_3 rfl ?_
  rw [show ((3 : Int32) - (6 : Int32)) = (-3 : Int32) from by decide]
  refine Go.bipush 6 (31 : Int32) d7_4 rfl rfl ?_
  refine Go.iushr 7 d7_6 rfl ?_
  refine Go.i2b 8 d7_7 rfl ?_
  exact Go.retN (1 : Int32) d7_8 rfl (t := .byte) (by simp) (by decide) (sf' := []) (⟨rfl, rfl⟩) (fun _ q => nomatch q) (Nat.le_of_ble_eq_true rfl) (Nat.le_of_ble_eq_true rfl)
abbrev G_new4_3 (md : Md) (l : Launch) (Z : State) (n0 : Nat) (x b : Addr) (z : Int32) (c0 c1 c2 : Int32) (h0 : Heap) := Go md l Z n0 ({ frames := 4, cells := 2, slots := 9, locals := 57 } : Room) jdk_42_method_149_code 6 none "java/lang/String" "<init>" (fun v h' _ => v = none ∧ Keep h0 h' [x] ∧ Gst Z h' x [c0, c1, c2])
theorem ef_new4_3 (mid : MethodId) (x b : Addr) (z : Int32) (c0 c1 c2 : Int32)  : entryFrame mid #[(.ref x), (.ref b), (.int (0 : Int32)), (.int (3 : Int32)), .null] 6 = mkF mid 0 #[.val (.ref x), .val (.ref b), .val (.int (0 : Int32)), .val (.int (3 : Int32)), .val .null, .unset] [] := by first | (simp [entryFrame, mkF, argsToLocals, Value.category]; done) | rfl
set_option maxRecDepth 65536 in
set_option maxHeartbeats 40000000 in
theorem c_new4_3 {md : Md} {l : Launch} {Z : State} {n0 : Nat} {a0 : Array Value} (hw : HW a0 Z) (x b : Addr) (z : Int32) (c0 c1 c2 : Int32) {h0 : Heap} (E : Exa Z h0 x "java/lang/String") (n0x : n0 ≤ x) {v0 c0_ : Value} (V : Fld Z h0 x "java/lang/String" "value" "[B" v0) (C : Fld Z h0 x "java/lang/String" "coder" "B" c0_) (A : Ary Z h0 b .char [(.int c0), (.int c1), (.int c2)]) (b_c0 : CHP c0) (b_c1 : CHP c1) (b_c2 : CHP c2) (SC : Sta Z Z.heap "java/lang/String" "COMPACT_STRINGS" "Z" (.int z)) (hz : ¬ z = 0) (UA : Sta Z Z.heap "java/lang/StringUTF16" "$assertionsDisabled" "Z" (.int 1)) (UH : Sta Z Z.heap "java/lang/StringUTF16" "HI_BYTE_SHIFT" "I" (.int 0)) (UL : Sta Z Z.heap "java/lang/StringUTF16" "LO_BYTE_SHIFT" "I" (.int 8))  : G_new4_3 md l Z n0 x b z c0 c1 c2 h0 0 0 [x] h0 0 #[.val (.ref x), .val (.ref b), .val (.int (0 : Int32)), .val (.int (3 : Int32)), .val .null, .unset] [] := by
  refine Go.aloadN 1 d3_0 rfl rfl rfl ?_
  refine Go.initO (W := 0) 4 d3_1 rfl (w16 hw) (w17 hw) (w18 hw) rfl (by decide) (Nat.le_of_ble_eq_true rfl) (by decide) ?_
  refine Go.iloadN 5 d3_4 rfl rfl ?_
  refine Go.ifY 27 d3_5 (by decide) (by decide) (feq (by decide)).2 ?_
  refine Go.getS 30 d3_27 rfl (w19 hw) Via.refl SC ?_
  refine Go.ifN 33 d3_30 rfl (feq hz).1 ?_
  refine Go.aloadN 34 d3_33 rfl rfl rfl ?_
  refine Go.iloadN 35 d3_34 rfl rfl ?_
  refine Go.iloadN 36 d3_35 rfl rfl ?_
  refine Go.callS (S := []) 39 [(.ref b), (.int (0 : Int32)), (.int (3 : Int32))] d3_36 rfl rfl (w20 hw) (w21 hw) (w22 hw) (w23 hw) (by decide) (call_of_go (R := _) (len := 3) (W := 0) (plainFor_of_name pn_0) (fun mid => ef_cmp3_3 mid b c0 c1 c2 ) (c_cmp3_3 hw b c0 c1 c2 A b_c0 b_c1 b_c2 UA UH UL) (w23 hw) (w22 hw) (by decide) (by decide)) (lenOf pd_4 rfl) (Nat.le_of_ble_eq_true rfl) rfl (Nat.le_of_ble_eq_true rfl) (Nat.le_of_ble_eq_true rfl) (fun _ q => nomatch q) (fun v h_1 sf_2 hq => ?_)
  obtain ⟨y, rfl, X3, le3, ⟨hlat, A3⟩ | ⟨hbig, A3⟩⟩ := hq
  · skip
    refine Go.more (sf' := [x]) ?_ (Nat.le_refl _) (Nat.le_refl _) (fun _ q => List.mem_append_right _ q)
    show G_new4_3 md l Z n0 x b z c0 c1 c2 h0 2 9 [x] h_1 39 #[.val (.ref x), .val (.ref b), .val (.int (0 : Int32)), .val (.int (3 : Int32)), .val .null, .unset] [(.ref y)]
    have nyx : y ≠ x := Nat.ne_of_gt (Nat.lt_of_lt_of_le E.lt le3)
    refine Go.astore 41 #[.val (.ref x), .val (.ref b), .val (.int (0 : Int32)), .val (.int (3 : Int32)), .val .null, .val (.ref y)] d3_39 rfl rfl rfl ?_
    refine Go.aloadN 42 d3_41 rfl rfl rfl ?_
    refine Go.aload 44 d3_42 rfl rfl rfl ?_
    refine Go.iloadN 45 d3_44 rfl rfl ?_
    refine Go.callS (S := [(.ref x)]) 48 [(.ref y), (.int (3 : Int32))] d3_45 rfl rfl (w28 hw) (w29 hw) (w22 hw) (w30 hw) (by decide) (call_of_go (R := _) (len := 3) (W := 1) (plainFor_of_name pn_0) (fun mid => ef_cfl3_0 mid y [(.int c0.toInt8.toInt32), (.int c1.toInt8.toInt32), (.int c2.toInt8.toInt32)] ) (c_cfl3_0 hw y [(.int c0.toInt8.toInt32), (.int c1.toInt8.toInt32), (.int c2.toInt8.toInt32)] A3 rfl) (w30 hw) (w22 hw) (by decide) (by decide)) (lenOf pd_6 rfl) (Nat.le_of_ble_eq_true rfl) rfl (Nat.le_of_ble_eq_true rfl) (Nat.le_of_ble_eq_true rfl) (fun _ q => nomatch q) (fun v h_3 sf_4 hq => ?_)
    obtain ⟨rfl, rfl⟩ := hq
    refine Go.more (sf' := [x]) ?_ (Nat.le_refl _) (Nat.le_refl _) (fun _ q => List.mem_append_right _ q)
    show G_new4_3 md l Z n0 x b z c0 c1 c2 h0 2 9 [x] h_1 48 #[.val (.ref x), .val (.ref b), .val (.int (0 : Int32)), .val (.int (3 : Int32)), .val .null, .val (.ref y)] [(.int (0 : Int32)), (.ref x)]
    have f_5 := E.ext X3
    have f_6 := C.ext X3
    refine Go.putF 51 (.int (0 : Int32)) d3_48 rfl (w31 hw) Via.refl f_6 f_5 (Or.inr ⟨(w32 hw), rfl, rfl⟩) (w6 hw) (ty := .byte) (by decide) rfl rfl (List.mem_of_getElem? (i := 0) rfl) n0x (fun h_7 W_8 => ?_)
    refine Go.aloadN 52 d3_51 rfl rfl rfl ?_
    refine Go.aload 54 d3_52 rfl rfl rfl ?_
    have f_9 := (f_5.wr W_8)
    have f_10 := ((V.ext X3).other W_8 (Or.inr (slot_ne (Or.inr (w34 hw)) (Or.inr (w32 hw)) (by decide) (t := (.array .byte)) (t' := .byte) (by decide) (by decide))))
    refine Go.putF 57 (.ref y) d3_54 rfl (w33 hw) Via.refl f_10 f_9 (Or.inr ⟨(w34 hw), rfl, rfl⟩) (w6 hw) (ty := (.array .byte)) (by decide) rfl rfl (List.mem_of_getElem? (i := 0) rfl) n0x (fun h_11 W_12 => ?_)
    have f_13 := (f_9.wr W_12)
    have f_14 := ((f_6.same W_8).other W_12 (Or.inr (slot_ne (Or.inr (w32 hw)) (Or.inr (w34 hw)) (by decide) (t := .byte) (t' := (.array .byte)) (by decide) (by decide))))
    have f_15 := ((A3.other W_8 nyx).other W_12 nyx)
    exact Go.ret0 d3_57 rfl (sf' := []) (⟨rfl, ((((Keep.refl h0 [x]).ext X3).wr W_8 (Or.inl (List.mem_of_getElem? (i := 0) rfl))).wr W_12 (Or.inl (List.mem_of_getElem? (i := 0) rfl))), y, (0 : Int32), _, f_13, f_14, (f_10.same W_12), f_15, Or.inl ⟨rfl, rfl, (latC ⟨chp0 b_c0, hlat.1⟩ (latC ⟨chp0 b_c1, hlat.2.1⟩ (latC ⟨chp0 b_c2, hlat.2.2⟩ latN)))⟩⟩) (fun _ q => nomatch q) (Nat.le_of_ble_eq_true rfl) (Nat.le_of_ble_eq_true rfl)
  · skip
    refine Go.more (sf' := [x]) ?_ (Nat.le_refl _) (Nat.le_refl _) (fun _ q => List.mem_append_right _ q)
    show G_new4_3 md l Z n0 x b z c0 c1 c2 h0 2 9 [x] h_1 39 #[.val (.ref x), .val (.ref b), .val (.int (0 : Int32)), .val (.int (3 : Int32)), .val .null, .unset] [(.ref y)]
    have nyx : y ≠ x := Nat.ne_of_gt (Nat.lt_of_lt_of_le E.lt le3)
    refine Go.astore 41 #[.val (.ref x), .val (.ref b), .val (.int (0 : Int32)), .val (.int (3 : Int32)), .val .null, .val (.ref y)] d3_39 rfl rfl rfl ?_
    refine Go.aloadN 42 d3_41 rfl rfl rfl ?_
    refine Go.aload 44 d3_42 rfl rfl rfl ?_
    refine Go.iloadN 45 d3_44 rfl rfl ?_
    refine Go.callS (S := [(.ref x)]) 48 [(.ref y), (.int (3 : Int32))] d3_45 rfl rfl (w28 hw) (w29 hw) (w22 hw) (w30 hw) (by decide) (call_of_go (R := _) (len := 3) (W := 1) (plainFor_of_name pn_0) (fun mid => ef_cfl3_1 mid y [(.int (lo16 c0)), (.int (hi16 c0)), (.int (lo16 c1)), (.int (hi16 c1)), (.int (lo16 c2)), (.int (hi16 c2))] ) (c_cfl3_1 hw y [(.int (lo16 c0)), (.int (hi16 c0)), (.int (lo16 c1)), (.int (hi16 c1)), (.int (lo16 c2)), (.int (hi16 c2))] A3 rfl) (w30 hw) (w22 hw) (by decide) (by decide)) (lenOf pd_6 rfl) (Nat.le_of_ble_eq_true rfl) rfl (Nat.le_of_ble_eq_true rfl) (Nat.le_of_ble_eq_true rfl) (fun _ q => nomatch q) (fun v h_16 sf_17 hq => ?_)
    obtain ⟨rfl, rfl⟩ := hq
    refine Go.more (sf' := [x]) ?_ (Nat.le_refl _) (Nat.le_refl _) (fun _ q => List.mem_append_right _ q)
    show G_new4_3 md l Z n0 x b z c0 c1 c2 h0 2 9 [x] h_1 48 #[.val (.ref x), .val (.ref b), .val (.int (0 : Int32)), .val (.int (3 : Int32)), .val .null, .val (.ref y)] [(.int (1 : Int32)), (.ref x)]
    have f_18 := E.ext X3
    have f_19 := C.ext X3
    refine Go.putF 51 (.int (1 : Int32)) d3_48 rfl (w31 hw) Via.refl f_19 f_18 (Or.inr ⟨(w32 hw), rfl, rfl⟩) (w6 hw) (ty := .byte) (by decide) rfl rfl (List.mem_of_getElem? (i := 0) rfl) n0x (fun h_20 W_21 => ?_)
    refine Go.aloadN 52 d3_51 rfl rfl rfl ?_
    refine Go.aload 54 d3_52 rfl rfl rfl ?_
    have f_22 := (f_18.wr W_21)
    have f_23 := ((V.ext X3).other W_21 (Or.inr (slot_ne (Or.inr (w34 hw)) (Or.inr (w32 hw)) (by decide) (t := (.array .byte)) (t' := .byte) (by decide) (by decide))))
    refine Go.putF 57 (.ref y) d3_54 rfl (w33 hw) Via.refl f_23 f_22 (Or.inr ⟨(w34 hw), rfl, rfl⟩) (w6 hw) (ty := (.array .byte)) (by decide) rfl rfl (List.mem_of_getElem? (i := 0) rfl) n0x (fun h_24 W_25 => ?_)
    have f_26 := (f_22.wr W_25)
    have f_27 := ((f_19.same W_21).other W_25 (Or.inr (slot_ne (Or.inr (w32 hw)) (Or.inr (w34 hw)) (by decide) (t := .byte) (t' := (.array .byte)) (by decide) (by decide))))
    have f_28 := ((A3.other W_21 nyx).other W_25 nyx)
    exact Go.ret0 d3_57 rfl (sf' := []) (⟨rfl, ((((Keep.refl h0 [x]).ext X3).wr W_21 (Or.inl (List.mem_of_getElem? (i := 0) rfl))).wr W_25 (Or.inl (List.mem_of_getElem? (i := 0) rfl))), y, (1 : Int32), _, f_26, f_27, (f_23.same W_25), f_28, Or.inr ⟨rfl, rfl, by rcases hbig with hbig | hbig | hbig <;> exact ⟨_, by simp, hbig⟩⟩⟩) (fun _ q => nomatch q) (Nat.le_of_ble_eq_true rfl) (Nat.le_of_ble_eq_true rfl)
abbrev G_new1_3 (md : Md) (l : Launch) (Z : State) (n0 : Nat) (x b : Addr) (z : Int32) (c0 c1 c2 : Int32) (h0 : Heap) := Go md l Z n0 ({ frames := 5, cells := 2, slots := 9, locals := 74 } : Room) jdk_42_method_3_code 2 none "java/lang/String" "<init>" (fun v h' _ => v = none ∧ Keep h0 h' [x] ∧ Gst Z h' x [c0, c1, c2])
theorem ef_new1_3 (mid : MethodId) (x b : Addr) (z : Int32) (c0 c1 c2 : Int32)  : entryFrame mid #[(.ref x), (.ref b)] 2 = mkF mid 0 #[.val (.ref x), .val (.ref b)] [] := by first | (simp [entryFrame, mkF, argsToLocals, Value.category]; done) | rfl
set_option maxRecDepth 65536 in
set_option maxHeartbeats 40000000 in
theorem c_new1_3 {md : Md} {l : Launch} {Z : State} {n0 : Nat} {a0 : Array Value} (hw : HW a0 Z) (x b : Addr) (z : Int32) (c0 c1 c2 : Int32) {h0 : Heap} (E : Exa Z h0 x "java/lang/String") (n0x : n0 ≤ x) {v0 c0_ : Value} (V : Fld Z h0 x "java/lang/String" "value" "[B" v0) (C : Fld Z h0 x "java/lang/String" "coder" "B" c0_) (A : Ary Z h0 b .char [(.int c0), (.int c1), (.int c2)]) (b_c0 : CHP c0) (b_c1 : CHP c1) (b_c2 : CHP c2) (SC : Sta Z Z.heap "java/lang/String" "COMPACT_STRINGS" "Z" (.int z)) (hz : ¬ z = 0) (UA : Sta Z Z.heap "java/lang/StringUTF16" "$assertionsDisabled" "Z" (.int 1)) (UH : Sta Z Z.heap "java/lang/StringUTF16" "HI_BYTE_SHIFT" "I" (.int 0)) (UL : Sta Z Z.heap "java/lang/StringUTF16" "LO_BYTE_SHIFT" "I" (.int 8))  : G_new1_3 md l Z n0 x b z c0 c1 c2 h0 0 0 [x] h0 0 #[.val (.ref x), .val (.ref b)] [] := by
  refine Go.aloadN 1 d2_0 rfl rfl rfl ?_
  refine Go.aloadN 2 d2_1 rfl rfl rfl ?_
  refine Go.iconst 3 (0 : Int32) d2_2 rfl rfl ?_
  refine Go.aloadN 4 d2_3 rfl rfl rfl ?_
  refine Go.alen 5 (3 : Int32) d2_4 rfl A rfl ?_
  refine Go.aconstNull 6 d2_5 rfl ?_
  refine Go.callC (S := []) (a := x) 9 [(.ref b), (.int (0 : Int32)), (.int (3 : Int32)), .null] d2_6 rfl rfl rfl (w12 hw) (w13 hw) (w15 hw) (by decide) (call_of_go (R := _) (len := 3) (W := 0) (plainFor_of_name pn_1) (fun mid => ef_new4_3 mid x b z c0 c1 c2 ) (c_new4_3 hw x b z c0 c1 c2 E n0x V C A b_c0 b_c1 b_c2 SC hz UA UH UL) (w15 hw) (w7 hw) (by decide) (by decide)) (lenOf pd_7 rfl) (Nat.le_of_ble_eq_true rfl) rfl (Nat.le_of_ble_eq_true rfl) (Nat.le_of_ble_eq_true rfl) (fun _ q => q) (fun v h_1 sf_2 hq => ?_)
  obtain ⟨rfl, K2, S2⟩ := hq
  refine Go.more (sf' := [x]) ?_ (Nat.le_refl _) (Nat.le_refl _) (fun _ q => List.mem_append_right _ q)
  show G_new1_3 md l Z n0 x b z c0 c1 c2 h0 2 9 [x] h_1 9 #[.val (.ref x), .val (.ref b)] []
  exact Go.ret0 d2_9 rfl (sf' := []) (⟨rfl, K2, S2⟩) (fun _ q => nomatch q) (Nat.le_of_ble_eq_true rfl) (Nat.le_of_ble_eq_true rfl)
abbrev G_canenc (md : Md) (l : Launch) (Z : State) (n0 : Nat) (c : Int32) (h0 : Heap) := Go md l Z n0 ({ frames := 0, cells := 0, slots := 0, locals := 0 } : Room) jdk_43_method_3_code 1 (some .boolean) "java/lang/StringLatin1" "canEncode" (fun v h' _ => h0 = h' ∧ ∃ r : Int32, v = some (.int r) ∧ ((r = 1 ∧ ¬ (255 : Int32) < c) ∨ (r = 0 ∧ (255 : Int32) < c)))
theorem ef_canenc (mid : MethodId) (c : Int32)  : entryFrame mid #[(.int c)] 1 = mkF mid 0 #[.val (.int c)] [] := by first | (simp [entryFrame, mkF, argsToLocals, Value.category]; done) | rfl
set_option maxRecDepth 65536 in
set_option maxHeartbeats 40000000 in
theorem c_canenc {md : Md} {l : Launch} {Z : State} {n0 : Nat} {a0 : Array Value} (hw : HW a0 Z) (c : Int32) {h0 : Heap}  : G_canenc md l Z n0 c h0 0 0 [] h0 0 #[.val (.int c)] [] := by
  refine Go.iloadN 1 d20_0 rfl rfl ?_
  refine Go.sipush 4 (255 : Int32) d20_1 rfl rfl ?_
  by_cases hc4 : (255 : Int32) < c
  · skip
    refine Go.icmpY 11 d20_4 (by decide) (by decide) (tlt hc4).2.2.1 ?_
    refine Go.iconst 12 (0 : Int32) d20_11 rfl rfl ?_
    exact Go.retN (0 : Int32) d20_12 rfl (t := .boolean) (by simp) rfl (sf' := []) (⟨rfl, _, rfl, Or.inr ⟨rfl, hc4⟩⟩) (fun _ q => nomatch q) (Nat.le_of_ble_eq_true rfl) (Nat.le_of_ble_eq_true rfl)
  · skip
    refine Go.icmpN 7 d20_4 rfl (flt hc4).2.2.1 ?_
    refine Go.iconst 8 (1 : Int32) d20_7 rfl rfl ?_
    refine Go.goto 12 d20_8 (by decide) (by decide) ?_
    exact Go.retN (1 : Int32) d20_12 rfl (t := .boolean) (by simp) rfl (sf' := []) (⟨rfl, _, rfl, Or.inl ⟨rfl, hc4⟩⟩) (fun _ q => nomatch q) (Nat.le_of_ble_eq_true rfl) (Nat.le_of_ble_eq_true rfl)
abbrev G_l1tob (md : Md) (l : Launch) (Z : State) (n0 : Nat) (c : Int32) (h0 : Heap) := Go md l Z n0 ({ frames := 0, cells := 1, slots := 1, locals := 0 } : Room) jdk_43_method_46_code 1 (some (.array .byte)) "java/lang/StringLatin1" "toBytes" (fun v h' _ => ∃ x, v = some (.ref x) ∧ Ext h0 h' ∧ h0.size ≤ x ∧ Ary Z h' x .byte [(.int c.toInt8.toInt32)])
theorem ef_l1tob (mid : MethodId) (c : Int32)  : entryFrame mid #[(.int c)] 1 = mkF mid 0 #[.val (.int c)] [] := by first | (simp [entryFrame, mkF, argsToLocals, Value.category]; done) | rfl
set_option maxRecDepth 65536 in
set_option maxHeartbeats 40000000 in
theorem c_l1tob {md : Md} {l : Launch} {Z : State} {n0 : Nat} {a0 : Array Value} (hw : HW a0 Z) (c : Int32) {h0 : Heap}  : G_l1tob md l Z n0 c h0 0 0 [] h0 0 #[.val (.int c)] [] := by
  refine Go.iconst 1 (1 : Int32) d23_0 rfl rfl ?_
  refine Go.newA 1 3 d23_1 rfl rfl (w24 hw) (by decide) 1 (Nat.le_refl _) (by decide) (Nat.le_of_ble_eq_true rfl) (Nat.le_of_ble_eq_true rfl) (fun h_1 x_2 g_3 q_4 E_5 lt_6 A_7 => ?_)
  have A_8 : Ary Z h_1 x_2 .byte [(.int (0 : Int32))] := A_7
  show G_l1tob md l Z n0 c h0 1 1 [x_2] h_1 3 #[.val (.int c)] [(.ref x_2)]
  refine Go.dup 4 d23_3 rfl rfl ?_
  refine Go.iconst 5 (0 : Int32) d23_4 rfl rfl ?_
  refine Go.iloadN 6 d23_5 rfl rfl ?_
  refine Go.i2b 7 d23_6 rfl ?_
  refine Go.bastore 0 8 d23_7 rfl A_8 (by decide) (Nat.le_of_ble_eq_true rfl) (List.mem_of_getElem? (i := 0) rfl) q_4 (fun h_9 W_10 A_11 => ?_)
  have A_12 : Ary Z h_9 x_2 .byte [(.int (c).toInt8.toInt32)] := by have := A_11; rw [i8_idem _] at this; exact this
  have X_13 : Ext h0 h_9 := extW E_5 W_10 (Nat.le_of_eq g_3)
  exact Go.retA d23_8 rfl rfl rfl (sf' := []) (⟨_, rfl, X_13, (Nat.le_of_eq g_3), A_12⟩) (fun _ q => nomatch q) (Nat.le_of_ble_eq_true rfl) (Nat.le_of_ble_eq_true rfl)
abbrev G_u16tob (md : Md) (l : Launch) (Z : State) (n0 : Nat) (c : Int32) (h0 : Heap) := Go md l Z n0 ({ frames := 1, cells := 1, slots := 2, locals := 14 } : Room) jdk_52_method_24_code 2 (some (.array .byte)) "java/lang/StringUTF16" "toBytes" (fun v h' _ => ∃ x, v = some (.ref x) ∧ Ext h0 h' ∧ h0.size ≤ x ∧ Ary Z h' x .byte [(.int (lo16 c)), (.int (hi16 c))])
theorem ef_u16tob (mid : MethodId) (c : Int32)  : entryFrame mid #[(.int c)] 2 = mkF mid 0 #[.val (.int c), .unset] [] := by first | (simp [entryFrame, mkF, argsToLocals, Value.category]; done) | rfl
set_option maxRecDepth 65536 in
set_option maxHeartbeats 40000000 in
theorem c_u16tob {md : Md} {l : Launch} {Z : State} {n0 : Nat} {a0 : Array Value} (hw : HW a0 Z) (c : Int32) {h0 : Heap} (UA : Sta Z Z.heap "java/lang/StringUTF16" "$assertionsDisabled" "Z" (.int 1)) (UH : Sta Z Z.heap "java/lang/StringUTF16" "HI_BYTE_SHIFT" "I" (.int 0)) (UL : Sta Z Z.heap "java/lang/StringUTF16" "LO_BYTE_SHIFT" "I" (.int 8))  : G_u16tob md l Z n0 c h0 0 0 [] h0 0 #[.val (.int c), .unset] [] := by
  refine Go.iconst 1 (2 : Int32) d21_0 rfl rfl ?_
  refine Go.newA 2 3 d21_1 rfl rfl (w24 hw) (by decide) 2 (Nat.le_refl _) (by decide) (Nat.le_of_ble_eq_true rfl) (Nat.le_of_ble_eq_true rfl) (fun h_1 x_2 g_3 q_4 E_5 lt_6 A_7 => ?_)
  have A_8 : Ary Z h_1 x_2 .byte [(.int (0 : Int32)), (.int (0 : Int32))] := A_7
  show G_u16tob md l Z n0 c h0 1 2 [x_2] h_1 3 #[.val (.int c), .unset] [(.ref x_2)]
  refine Go.astoreN 4 #[.val (.int c), .val (.ref x_2)] d21_3 rfl rfl rfl ?_
  refine Go.aloadN 5 d21_4 rfl rfl rfl ?_
  refine Go.iconst 6 (0 : Int32) d21_5 rfl rfl ?_
  refine Go.iloadN 7 d21_6 rfl rfl ?_
  refine Go.callS (S := []) 10 [(.ref x_2), (.int (0 : Int32)), (.int c)] d21_7 rfl rfl (w80 hw) (w81 hw) (w22 hw) (w82 hw) (by decide) (call_of_go (R := _) (len := 3) (W := 0) (plainFor_of_name pn_0) (fun mid => ef_putc0 mid x_2 c [(.int (0 : Int32)), (.int (0 : Int32))] ) (c_putc0 hw x_2 c [(.int (0 : Int32)), (.int (0 : Int32))] A_8 q_4 (Nat.le_of_ble_eq_true rfl) UA UH UL) (w82 hw) (w22 hw) (by decide) (by decide)) (lenOf pd_2 rfl) (Nat.le_of_ble_eq_true rfl) rfl (Nat.le_of_ble_eq_true rfl) (Nat.le_of_ble_eq_true rfl) (fun _ q => q) (fun v h_12 sf_13 hq => ?_)
  obtain ⟨rfl, K_9, A_10⟩ := hq
  have A_11 : Ary Z h_12 x_2 .byte [(.int (lo16 c)), (.int (hi16 c))] := A_10
  refine Go.more (sf' := [x_2]) ?_ (Nat.le_refl _) (Nat.le_refl _) (fun _ q => List.mem_append_right _ q)
  show G_u16tob md l Z n0 c h0 1 2 [x_2] h_12 10 #[.val (.int c), .val (.ref x_2)] []
  refine Go.aloadN 11 d21_10 rfl rfl rfl ?_
  have X_14 : Ext h0 h_12 := extK E_5 K_9 (allS (Nat.le_of_eq g_3) all0)
  exact Go.retA d21_11 rfl rfl rfl (sf' := []) (⟨_, rfl, X_14, (Nat.le_of_eq g_3), A_11⟩) (fun _ q => nomatch q) (Nat.le_of_ble_eq_true rfl) (Nat.le_of_ble_eq_true rfl)
abbrev G_strbb0 (md : Md) (l : Launch) (Z : State) (n0 : Nat) (x t : Addr) (h0 : Heap) := Go md l Z n0 ({ frames := 1, cells := 0, slots := 0, locals := 12 } : Room) jdk_42_method_151_code 3 none "java/lang/String" "<init>" (fun v h' _ => v = none ∧ Keep h0 h' [x] ∧ Exa Z h' x "java/lang/String" ∧ Fld Z h' x "java/lang/String" "coder" "B" (.int 0) ∧ Fld Z h' x "java/lang/String" "value" "[B" (.ref t))
theorem ef_strbb0 (mid : MethodId) (x t : Addr)  : entryFrame mid #[(.ref x), (.ref t), (.int (0 : Int32))] 3 = mkF mid 0 #[.val (.ref x), .val (.ref t), .val (.int (0 : Int32))] [] := by first | (simp [entryFrame, mkF, argsToLocals, Value.category]; done) | rfl
set_option maxRecDepth 65536 in
set_option maxHeartbeats 40000000 in
theorem c_strbb0 {md : Md} {l : Launch} {Z : State} {n0 : Nat} {a0 : Array Value} (hw : HW a0 Z) (x t : Addr) {h0 : Heap} (E : Exa Z h0 x "java/lang/String") (n0x : n0 ≤ x) {v0 c0 : Value} (V : Fld Z h0 x "java/lang/String" "value" "[B" v0) (C : Fld Z h0 x "java/lang/String" "coder" "B" c0) : G_strbb0 md l Z n0 x t h0 0 0 [x] h0 0 #[.val (.ref x), .val (.ref t), .val (.int (0 : Int32))] [] := by
  refine Go.aloadN 1 d22_0 rfl rfl rfl ?_
  refine Go.initO (W := 0) 4 d22_1 rfl (w16 hw) (w17 hw) (w18 hw) rfl (by decide) (Nat.le_of_ble_eq_true rfl) (by decide) ?_
  refine Go.aloadN 5 d22_4 rfl rfl rfl ?_
  refine Go.aloadN 6 d22_5 rfl rfl rfl ?_
  refine Go.putF 9 (.ref t) d22_6 rfl (w33 hw) Via.refl V E (Or.inr ⟨(w34 hw), rfl, rfl⟩) (w6 hw) (ty := (.array .byte)) (by decide) rfl rfl (List.mem_of_getElem? (i := 0) rfl) n0x (fun h_1 W_2 => ?_)
  refine Go.aloadN 10 d22_9 rfl rfl rfl ?_
  refine Go.iloadN 11 d22_10 rfl rfl ?_
  have f_3 := (E.wr W_2)
  have f_4 := (C.other W_2 (Or.inr (slot_ne (Or.inr (w32 hw)) (Or.inr (w34 hw)) (by decide) (t := .byte) (t' := (.array .byte)) (by decide) (by decide))))
  refine Go.putF 14 (.int (0 : Int32)) d22_11 rfl (w31 hw) Via.refl f_4 f_3 (Or.inr ⟨(w32 hw), rfl, rfl⟩) (w6 hw) (ty := .byte) (by decide) rfl rfl (List.mem_of_getElem? (i := 0) rfl) n0x (fun h_5 W_6 => ?_)
  have f_7 := (f_3.wr W_6)
  have f_8 := ((V.same W_2).other W_6 (Or.inr (slot_ne (Or.inr (w34 hw)) (Or.inr (w32 hw)) (by decide) (t := (.array .byte)) (t' := .byte) (by decide) (by decide))))
  exact Go.ret0 d22_14 rfl (sf' := []) (⟨rfl, (((Keep.refl h0 [x]).wr W_2 (Or.inl (List.mem_of_getElem? (i := 0) rfl))).wr W_6 (Or.inl (List.mem_of_getElem? (i := 0) rfl))), f_7, (f_4.same W_6), f_8⟩) (fun _ q => nomatch q) (Nat.le_of_ble_eq_true rfl) (Nat.le_of_ble_eq_true rfl)
abbrev G_strbb1 (md : Md) (l : Launch) (Z : State) (n0 : Nat) (x t : Addr) (h0 : Heap) := Go md l Z n0 ({ frames := 1, cells := 0, slots := 0, locals := 12 } : Room) jdk_42_method_151_code 3 none "java/lang/String" "<init>" (fun v h' _ => v = none ∧ Keep h0 h' [x] ∧ Exa Z h' x "java/lang/String" ∧ Fld Z h' x "java/lang/String" "coder" "B" (.int 1) ∧ Fld Z h' x "java/lang/String" "value" "[B" (.ref t))
theorem ef_strbb1 (mid : MethodId) (x t : Addr)  : entryFrame mid #[(.ref x), (.ref t), (.int (1 : Int32))] 3 = mkF mid 0 #[.val (.ref x), .val (.ref t), .val (.int (1 : Int32))] [] := by first | (simp [entryFrame, mkF, argsToLocals, Value.category]; done) | rfl
set_option maxRecDepth 65536 in
set_option maxHeartbeats 40000000 in
theorem c_strbb1 {md : Md} {l : Launch} {Z : State} {n0 : Nat} {a0 : Array Value} (hw : HW a0 Z) (x t : Addr) {h0 : Heap} (E : Exa Z h0 x "java/lang/String") (n0x : n0 ≤ x) {v0 c0 : Value} (V : Fld Z h0 x "java/lang/String" "value" "[B" v0) (C : Fld Z h0 x "java/lang/String" "coder" "B" c0) : G_strbb1 md l Z n0 x t h0 0 0 [x] h0 0 #[.val (.ref x), .val (.ref t), .val (.int (1 : Int32))] [] := by
  refine Go.aloadN 1 d22_0 rfl rfl rfl ?_
  refine Go.initO (W := 0) 4 d22_1 rfl (w16 hw) (w17 hw) (w18 hw) rfl (by decide) (Nat.le_of_ble_eq_true rfl) (by decide) ?_
  refine Go.aloadN 5 d22_4 rfl rfl rfl ?_
  refine Go.aloadN 6 d22_5 rfl rfl rfl ?_
  refine Go.putF 9 (.ref t) d22_6 rfl (w33 hw) Via.refl V E (Or.inr ⟨(w34 hw), rfl, rfl⟩) (w6 hw) (ty := (.array .byte)) (by decide) rfl rfl (List.mem_of_getElem? (i := 0) rfl) n0x (fun h_1 W_2 => ?_)
  refine Go.aloadN 10 d22_9 rfl rfl rfl ?_
  refine Go.iloadN 11 d22_10 rfl rfl ?_
  have f_3 := (E.wr W_2)
  have f_4 := (C.other W_2 (Or.inr (slot_ne (Or.inr (w32 hw)) (Or.inr (w34 hw)) (by decide) (t := .byte) (t' := (.array .byte)) (by decide) (by decide))))
  refine Go.putF 14 (.int (1 : Int32)) d22_11 rfl (w31 hw) Via.refl f_4 f_3 (Or.inr ⟨(w32 hw), rfl, rfl⟩) (w6 hw) (ty := .byte) (by decide) rfl rfl (List.mem_of_getElem? (i := 0) rfl) n0x (fun h_5 W_6 => ?_)
  have f_7 := (f_3.wr W_6)
  have f_8 := ((V.same W_2).other W_6 (Or.inr (slot_ne (Or.inr (w34 hw)) (Or.inr (w32 hw)) (by decide) (t := (.array .byte)) (t' := .byte) (by decide) (by decide))))
  exact Go.ret0 d22_14 rfl (sf' := []) (⟨rfl, (((Keep.refl h0 [x]).wr W_2 (Or.inl (List.mem_of_getElem? (i := 0) rfl))).wr W_6 (Or.inl (List.mem_of_getElem? (i := 0) rfl))), f_7, (f_4.same W_6), f_8⟩) (fun _ q => nomatch q) (Nat.le_of_ble_eq_true rfl) (Nat.le_of_ble_eq_true rfl)
abbrev G_valueof (md : Md) (l : Launch) (Z : State) (n0 : Nat) (c : Int32) (z : Int32) (h0 : Heap) := Go md l Z n0 ({ frames := 2, cells := 2, slots := 6, locals := 29 } : Room) jdk_42_method_139_code 1 (some (.object "java/lang/String")) "java/lang/String" "valueOf" (fun v h' _ => ∃ x, v = some (.ref x) ∧ Ext h0 h' ∧ h0.size ≤ x ∧ Gst Z h' x ([c]))
theorem ef_valueof (mid : MethodId) (c : Int32) (z : Int32)  : entryFrame mid #[(.int c)] 1 = mkF mid 0 #[.val (.int c)] [] := by first | (simp [entryFrame, mkF, argsToLocals, Value.category]; done) | rfl
set_option maxRecDepth 65536 in
set_option maxHeartbeats 40000000 in
theorem c_valueof {md : Md} {l : Launch} {Z : State} {n0 : Nat} {a0 : Array Value} (hw : HW a0 Z) (c : Int32) (z : Int32) {h0 : Heap} (b_c : CHP c) (SC : Sta Z Z.heap "java/lang/String" "COMPACT_STRINGS" "Z" (.int z)) (hz : ¬ z = 0) (UA : Sta Z Z.heap "java/lang/StringUTF16" "$assertionsDisabled" "Z" (.int 1)) (UH : Sta Z Z.heap "java/lang/StringUTF16" "HI_BYTE_SHIFT" "I" (.int 0)) (UL : Sta Z Z.heap "java/lang/StringUTF16" "LO_BYTE_SHIFT" "I" (.int 8))  : G_valueof md l Z n0 c z h0 0 0 [] h0 0 #[.val (.int c)] [] := by
  refine Go.getS 3 d19_0 rfl (w19 hw) Via.refl SC ?_
  refine Go.ifN 6 d19_3 rfl (feq hz).1 ?_
  refine Go.iloadN 7 d19_6 rfl rfl ?_
  refine Go.callS (S := []) 10 [(.int c)] d19_7 rfl rfl (w110 hw) (w111 hw) (w112 hw) (w113 hw) (by decide) (call_of_go (R := _) (len := 3) (W := 0) (plainFor_of_name pn_2) (fun mid => ef_canenc mid c ) (c_canenc hw c ) (w113 hw) (w112 hw) (by decide) (by decide)) (lenOf pd_8 rfl) (Nat.le_of_ble_eq_true rfl) rfl (Nat.le_of_ble_eq_true rfl) (Nat.le_of_ble_eq_true rfl) (fun _ q => nomatch q) (fun v h_1 sf_2 hq => ?_)
  obtain ⟨rfl, r, rfl, ⟨rfl, hb⟩ | ⟨rfl, hb⟩⟩ := hq
  · skip
    refine Go.more (sf' := []) ?_ (Nat.le_refl _) (Nat.le_refl _) (fun _ q => List.mem_append_right _ q)
    show G_valueof md l Z n0 c z h0 0 0 [] h0 10 #[.val (.int c)] [(.int (1 : Int32))]
    refine Go.ifN 13 d19_10 rfl (feq (by decide)).1 ?_
    refine Go.new 16 d19_13 rfl (w114 hw) (w6 hw) (w7 hw) (Nat.le_of_ble_eq_true rfl) (Nat.le_of_ble_eq_true rfl) (fun h_3 x_4 g_5 q_6 E_7 lt_8 A_9 D_10 => ?_)
    show G_valueof md l Z n0 c z h0 1 4 [x_4] h_3 16 #[.val (.int c)] [(.ref x_4)]
    refine Go.dup 17 d19_16 rfl rfl ?_
    refine Go.iloadN 18 d19_17 rfl rfl ?_
    have lt_x := A_9.lt
    refine Go.callS (S := [(.ref x_4), (.ref x_4)]) 21 [(.int c)] d19_18 rfl rfl (w121 hw) (w122 hw) (w112 hw) (w123 hw) (by decide) (call_of_go (R := _) (len := 3) (W := 2) (plainFor_of_name pn_2) (fun mid => ef_l1tob mid c ) (c_l1tob hw c ) (w123 hw) (w112 hw) (by decide) (by decide)) (lenOf pd_9 rfl) (Nat.le_of_ble_eq_true rfl) rfl (Nat.le_of_ble_eq_true rfl) (Nat.le_of_ble_eq_true rfl) (fun _ q => nomatch q) (fun v h_11 sf_16 hq => ?_)
    obtain ⟨b_12, rfl, E_13, le_14, A_15⟩ := hq
    refine Go.more (sf' := [x_4]) ?_ (Nat.le_refl _) (Nat.le_refl _) (fun _ q => List.mem_append_right _ q)
    show G_valueof md l Z n0 c z h0 2 5 [x_4] h_11 21 #[.val (.int c)] [(.ref b_12), (.ref x_4), (.ref x_4)]
    have nbx : b_12 ≠ x_4 := Nat.ne_of_gt (Nat.lt_of_lt_of_le lt_x le_14)
    refine Go.iconst 22 (0 : Int32) d19_21 rfl rfl ?_
    have f_17 := A_9.ext E_13
    have f_18 := (D_10 (Or.inr (w34 hw)) (ty := (.array .byte)) (by decide)).ext E_13
    have f_19 := (D_10 (Or.inr (w32 hw)) (ty := .byte) (by decide)).ext E_13
    refine Go.callC (S := [(.ref x_4)]) (a := x_4) 25 [(.ref b_12), (.int (0 : Int32))] d19_22 rfl rfl rfl (w118 hw) (w119 hw) (w120 hw) (by decide) (call_of_go (R := _) (len := 3) (W := 1) (plainFor_of_name pn_1) (fun mid => ef_strbb0 mid x_4 b_12 ) (c_strbb0 hw x_4 b_12 f_17 q_6 f_18 f_19) (w120 hw) (w7 hw) (by decide) (by decide)) (lenOf pd_10 rfl) (Nat.le_of_ble_eq_true rfl) rfl (Nat.le_of_ble_eq_true rfl) (Nat.le_of_ble_eq_true rfl) (fun _ q => q) (fun v h_20 sf_25 hq => ?_)
    obtain ⟨rfl, K_21, A_22, C_23, V_24⟩ := hq
    refine Go.more (sf' := [x_4]) ?_ (Nat.le_refl _) (Nat.le_refl _) (fun _ q => List.mem_append_right _ q)
    show G_valueof md l Z n0 c z h0 2 5 [x_4] h_20 25 #[.val (.int c)] [(.ref x_4)]
    have f_26 := (Ary.keep K_21 A_15 (ninS nbx nin0))
    have X_27 : Ext h0 h_11 := extT E_7 E_13
    have X_28 : Ext h0 h_20 := extK X_27 K_21 (allS (Nat.le_of_eq g_5) all0)
    exact Go.retA d19_25 rfl rfl rfl (sf' := []) (⟨_, rfl, X_28, (Nat.le_of_eq g_5), _, (0 : Int32), _, A_22, C_23, V_24, f_26, Or.inl ⟨rfl, rfl, lat1 ⟨chp0 b_c, hb⟩⟩⟩) (fun _ q => nomatch q) (Nat.le_of_ble_eq_true rfl) (Nat.le_of_ble_eq_true rfl)
  · skip
    refine Go.more (sf' := []) ?_ (Nat.le_refl _) (Nat.le_refl _) (fun _ q => List.mem_append_right _ q)
    show G_valueof md l Z n0 c z h0 0 0 [] h0 10 #[.val (.int c)] [(.int (0 : Int32))]
    refine Go.ifY 26 d19_10 (by decide) (by decide) (teq (by decide)).1 ?_
    refine Go.new 29 d19_26 rfl (w114 hw) (w6 hw) (w7 hw) (Nat.le_of_ble_eq_true rfl) (Nat.le_of_ble_eq_true rfl) (fun h_29 x_30 g_31 q_32 E_33 lt_34 A_35 D_36 => ?_)
    show G_valueof md l Z n0 c z h0 1 4 [x_30] h_29 29 #[.val (.int c)] [(.ref x_30)]
    refine Go.dup 30 d19_29 rfl rfl ?_
    refine Go.iloadN 31 d19_30 rfl rfl ?_
    have lt_x := A_35.lt
    refine Go.callS (S := [(.ref x_30), (.ref x_30)]) 34 [(.int c)] d19_31 rfl rfl (w115 hw) (w116 hw) (w22 hw) (w117 hw) (by decide) (call_of_go (R := _) (len := 3) (W := 2) (plainFor_of_name pn_0) (fun mid => ef_u16tob mid c ) (c_u16tob hw c UA UH UL) (w117 hw) (w22 hw) (by decide) (by decide)) (lenOf pd_9 rfl) (Nat.le_of_ble_eq_true rfl) rfl (Nat.le_of_ble_eq_true rfl) (Nat.le_of_ble_eq_true rfl) (fun _ q => nomatch q) (fun v h_37 sf_42 hq => ?_)
    obtain ⟨b_38, rfl, E_39, le_40, A_41⟩ := hq
    refine Go.more (sf' := [x_30]) ?_ (Nat.le_refl _) (Nat.le_refl _) (fun _ q => List.mem_append_right _ q)
    show G_valueof md l Z n0 c z h0 2 6 [x_30] h_37 34 #[.val (.int c)] [(.ref b_38), (.ref x_30), (.ref x_30)]
    have nbx : b_38 ≠ x_30 := Nat.ne_of_gt (Nat.lt_of_lt_of_le lt_x le_40)
    refine Go.iconst 35 (1 : Int32) d19_34 rfl rfl ?_
    have f_43 := A_35.ext E_39
    have f_44 := (D_36 (Or.inr (w34 hw)) (ty := (.array .byte)) (by decide)).ext E_39
    have f_45 := (D_36 (Or.inr (w32 hw)) (ty := .byte) (by decide)).ext E_39
    refine Go.callC (S := [(.ref x_30)]) (a := x_30) 38 [(.ref b_38), (.int (1 : Int32))] d19_35 rfl rfl rfl (w118 hw) (w119 hw) (w120 hw) (by decide) (call_of_go (R := _) (len := 3) (W := 1) (plainFor_of_name pn_1) (fun mid => ef_strbb1 mid x_30 b_38 ) (c_strbb1 hw x_30 b_38 f_43 q_32 f_44 f_45) (w120 hw) (w7 hw) (by decide) (by decide)) (lenOf pd_10 rfl) (Nat.le_of_ble_eq_true rfl) rfl (Nat.le_of_ble_eq_true rfl) (Nat.le_of_ble_eq_true rfl) (fun _ q => q) (fun v h_46 sf_51 hq => ?_)
    obtain ⟨rfl, K_47, A_48, C_49, V_50⟩ := hq
    refine Go.more (sf' := [x_30]) ?_ (Nat.le_refl _) (Nat.le_refl _) (fun _ q => List.mem_append_right _ q)
    show G_valueof md l Z n0 c z h0 2 6 [x_30] h_46 38 #[.val (.int c)] [(.ref x_30)]
    have f_52 := (Ary.keep K_47 A_41 (ninS nbx nin0))
    have X_53 : Ext h0 h_37 := extT E_33 E_39
    have X_54 : Ext h0 h_46 := extK X_53 K_47 (allS (Nat.le_of_eq g_31) all0)
    exact Go.retA d19_38 rfl rfl rfl (sf' := []) (⟨_, rfl, X_54, (Nat.le_of_eq g_31), _, (1 : Int32), _, A_48, C_49, V_50, f_52, Or.inr ⟨rfl, rfl, ⟨_, List.mem_singleton.mpr rfl, hb⟩⟩⟩) (fun _ q => nomatch q) (Nat.le_of_ble_eq_true rfl) (Nat.le_of_ble_eq_true rfl)
abbrev G_coder (md : Md) (l : Launch) (Z : State) (n0 : Nat) (x : Addr) (z cd : Int32) (h0 : Heap) := Go md l Z n0 ({ frames := 0, cells := 0, slots := 0, locals := 0 } : Room) jdk_42_method_152_code 1 (some .byte) "java/lang/String" "coder" (fun v h' _ => h0 = h' ∧ v = some (.int cd))
theorem ef_coder (mid : MethodId) (x : Addr) (z cd : Int32)  : entryFrame mid #[(.ref x)] 1 = mkF mid 0 #[.val (.ref x)] [] := by first | (simp [entryFrame, mkF, argsToLocals, Value.category]; done) | rfl
set_option maxRecDepth 65536 in
set_option maxHeartbeats 40000000 in
theorem c_coder {md : Md} {l : Launch} {Z : State} {n0 : Nat} {a0 : Array Value} (hw : HW a0 Z) (x : Addr) (z cd : Int32) {h0 : Heap} (C : Fld Z h0 x "java/lang/String" "coder" "B" (.int cd)) (hcd : nar .byte cd = cd) (SC : Sta Z Z.heap "java/lang/String" "COMPACT_STRINGS" "Z" (.int z)) (hz : ¬ z = 0)  : G_coder md l Z n0 x z cd h0 0 0 [] h0 0 #[.val (.ref x)] [] := by
  refine Go.getS 3 d18_0 rfl (w19 hw) Via.refl SC ?_
  refine Go.ifN 6 d18_3 rfl (feq hz).1 ?_
  refine Go.aloadN 7 d18_6 rfl rfl rfl ?_
  refine Go.getF 10 d18_7 rfl (w31 hw) Via.refl C ?_
  refine Go.goto 14 d18_10 (by decide) (by decide) ?_
  exact Go.retN cd d18_14 rfl (t := .byte) (by simp) hcd (sf' := []) (⟨rfl, rfl⟩) (fun _ q => nomatch q) (Nat.le_of_ble_eq_true rfl) (Nat.le_of_ble_eq_true rfl)
abbrev G_glen (md : Md) (l : Launch) (Z : State) (n0 : Nat) (x t : Addr) (z cd : Int32) (vs : List Value) (h0 : Heap) := Go md l Z n0 ({ frames := 1, cells := 0, slots := 0, locals := 13 } : Room) jdk_42_method_54_code 1 (some .int) "java/lang/String" "length" (fun v h' _ => h0 = h' ∧ v = some (.int ((Int32.ofNat vs.length) >>> (cd &&& 31))))
theorem ef_glen (mid : MethodId) (x t : Addr) (z cd : Int32) (vs : List Value)  : entryFrame mid #[(.ref x)] 1 = mkF mid 0 #[.val (.ref x)] [] := by first | (simp [entryFrame, mkF, argsToLocals, Value.category]; done) | rfl
set_option maxRecDepth 65536 in
set_option maxHeartbeats 40000000 in
theorem c_glen {md : Md} {l : Launch} {Z : State} {n0 : Nat} {a0 : Array Value} (hw : HW a0 Z) (x t : Addr) (z cd : Int32) (vs : List Value) {h0 : Heap} (E : Exa Z h0 x "java/lang/String") (C : Fld Z h0 x "java/lang/String" "coder" "B" (.int cd)) (V : Fld Z h0 x "java/lang/String" "value" "[B" (.ref t)) (A : Ary Z h0 t .byte vs) (hcd : nar .byte cd = cd) (SC : Sta Z Z.heap "java/lang/String" "COMPACT_STRINGS" "Z" (.int z)) (hz : ¬ z = 0)  : G_glen md l Z n0 x t z cd vs h0 0 0 [] h0 0 #[.val (.ref x)] [] := by
  refine Go.aloadN 1 d17_0 rfl rfl rfl ?_
  refine Go.getF 4 d17_1 rfl (w33 hw) Via.refl V ?_
  refine Go.alen 5 (Int32.ofNat vs.length) d17_4 rfl A rfl ?_
  refine Go.aloadN 6 d17_5 rfl rfl rfl ?_
  refine Go.callV (S := [(.int (Int32.ofNat vs.length))]) (a := x) 9 [] d17_6 rfl rfl (w95 hw) (w96 hw) (w98 hw) (w97 hw) (fun _ q => notFace_of_selects (args := #[]) (mvT q (w98 hw))) (by decide) E (call_of_go (R := _) (len := 3) (W := 1) (plainFor_of_name pn_1) (fun mid => ef_coder mid x z cd ) (c_coder hw x z cd C hcd SC hz) (w99 hw) (w7 hw) (by decide) (by decide)) (lenOf pd_11 rfl) (Nat.le_of_ble_eq_true rfl) rfl (Nat.le_of_ble_eq_true rfl) (Nat.le_of_ble_eq_true rfl) (fun _ q => nomatch q) (fun v h_1 sf_2 hq => ?_)
  obtain ⟨rfl, rfl⟩ := hq
  refine Go.more (sf' := []) ?_ (Nat.le_refl _) (Nat.le_refl _) (fun _ q => List.mem_append_right _ q)
  show G_glen md l Z n0 x t z cd vs h0 0 0 [] h0 9 #[.val (.ref x)] [(.int cd), (.int (Int32.ofNat vs.length))]
  refine Go.ishr 10 d17_9 rfl ?_
  exact Go.retI d17_10 rfl (sf' := []) (⟨rfl, rfl⟩) (fun _ q => nomatch q) (Nat.le_of_ble_eq_true rfl) (Nat.le_of_ble_eq_true rfl)
abbrev G_pci (md : Md) (l : Launch) (Z : State) (n0 : Nat) (fm : Value) (h0 : Heap) := Go md l Z n0 ({ frames := 0, cells := 0, slots := 0, locals := 0 } : Room) jdk_41_method_11_code 3 (some .int) "jdk/internal/util/Preconditions" "checkIndex" (fun v h' _ => h0 = h' ∧ v = some (.int 0))
theorem ef_pci (mid : MethodId) (fm : Value) (rF : fm.isRef = true) : entryFrame mid #[(.int (0 : Int32)), (.int (1 : Int32)), fm] 3 = mkF mid 0 #[.val (.int (0 : Int32)), .val (.int (1 : Int32)), .val fm] [] := by rcases ref_cases rF with rfl | ⟨_, rfl⟩ <;> first | (simp [entryFrame, mkF, argsToLocals, Value.category]; done) | rfl
set_option maxRecDepth 65536 in
set_option maxHeartbeats 40000000 in
theorem c_pci {md : Md} {l : Launch} {Z : State} {n0 : Nat} {a0 : Array Value} (hw : HW a0 Z) (fm : Value) {h0 : Heap} (rF : fm.isRef = true) : G_pci md l Z n0 fm h0 0 0 [] h0 0 #[.val (.int (0 : Int32)), .val (.int (1 : Int32)), .val fm] [] := by
  refine Go.iloadN 1 d28_0 rfl rfl ?_
  refine Go.ifN 4 d28_1 rfl (flt (by decide)).1 ?_
  refine Go.iloadN 5 d28_4 rfl rfl ?_
  refine Go.iloadN 6 d28_5 rfl rfl ?_
  refine Go.icmpY 16 d28_6 (by decide) (by decide) (tlt (by decide)).1 ?_
  refine Go.iloadN 17 d28_16 rfl rfl ?_
  exact Go.retI d28_17 rfl (sf' := []) (⟨rfl, rfl⟩) (fun _ q => nomatch q) (Nat.le_of_ble_eq_true rfl) (Nat.le_of_ble_eq_true rfl)
abbrev G_sci (md : Md) (l : Launch) (Z : State) (n0 : Nat) (fm : Value) (h0 : Heap) := Go md l Z n0 ({ frames := 1, cells := 0, slots := 0, locals := 14 } : Room) jdk_42_method_155_code 2 none "java/lang/String" "checkIndex" (fun v h' _ => h0 = h' ∧ v = none)
theorem ef_sci (mid : MethodId) (fm : Value)  : entryFrame mid #[(.int (0 : Int32)), (.int (1 : Int32))] 2 = mkF mid 0 #[.val (.int (0 : Int32)), .val (.int (1 : Int32))] [] := by first | (simp [entryFrame, mkF, argsToLocals, Value.category]; done) | rfl
set_option maxRecDepth 65536 in
set_option maxHeartbeats 40000000 in
theorem c_sci {md : Md} {l : Launch} {Z : State} {n0 : Nat} {a0 : Array Value} (hw : HW a0 Z) (fm : Value) {h0 : Heap} (SF : Sta Z Z.heap "jdk/internal/util/Preconditions" "SIOOBE_FORMATTER" "Ljava/util/function/BiFunction;" fm) (rF : fm.isRef = true)  : G_sci md l Z n0 fm h0 0 0 [] h0 0 #[.val (.int (0 : Int32)), .val (.int (1 : Int32))] [] := by
  refine Go.iloadN 1 d27_0 rfl rfl ?_
  refine Go.iloadN 2 d27_1 rfl rfl ?_
  refine Go.getS 5 d27_2 rfl (w148 hw) Via.refl SF ?_
  refine Go.callS (S := []) 8 [(.int (0 : Int32)), (.int (1 : Int32)), fm] d27_5 rfl rfl (w150 hw) (w151 hw) (w149 hw) (w152 hw) (by decide) (call_of_go (R := _) (len := 3) (W := 0) (plainFor_of_name pn_3) (fun mid => ef_pci mid fm rF) (c_pci hw fm rF) (w152 hw) (w149 hw) (by decide) (by decide)) (lenOf pd_12 rfl) (Nat.le_of_ble_eq_true rfl) rfl (Nat.le_of_ble_eq_true rfl) (Nat.le_of_ble_eq_true rfl) (fun _ q => nomatch q) (fun v h_1 sf_2 hq => ?_)
  obtain ⟨rfl, rfl⟩ := hq
  refine Go.more (sf' := []) ?_ (Nat.le_refl _) (Nat.le_refl _) (fun _ q => List.mem_append_right _ q)
  show G_sci md l Z n0 fm h0 0 0 [] h0 8 #[.val (.int (0 : Int32)), .val (.int (1 : Int32))] [(.int (0 : Int32))]
  refine Go.pop 9 d27_8 rfl rfl ?_
  exact Go.ret0 d27_9 rfl (sf' := []) (⟨rfl, rfl⟩) (fun _ q => nomatch q) (Nat.le_of_ble_eq_true rfl) (Nat.le_of_ble_eq_true rfl)
abbrev G_l1ch (md : Md) (l : Launch) (Z : State) (n0 : Nat) (b : Addr) (fm : Value) (y : Int32) (h0 : Heap) := Go md l Z n0 ({ frames := 2, cells := 0, slots := 0, locals := 27 } : Room) jdk_43_method_2_code 2 (some .char) "java/lang/StringLatin1" "charAt" (fun v h' _ => h0 = h' ∧ v = some (.int (chr (y &&& (255 : Int32)))))
theorem ef_l1ch (mid : MethodId) (b : Addr) (fm : Value) (y : Int32)  : entryFrame mid #[(.ref b), (.int (0 : Int32))] 2 = mkF mid 0 #[.val (.ref b), .val (.int (0 : Int32))] [] := by first | (simp [entryFrame, mkF, argsToLocals, Value.category]; done) | rfl
set_option maxRecDepth 65536 in
set_option maxHeartbeats 40000000 in
theorem c_l1ch {md : Md} {l : Launch} {Z : State} {n0 : Nat} {a0 : Array Value} (hw : HW a0 Z) (b : Addr) (fm : Value) (y : Int32) {h0 : Heap} (A : Ary Z h0 b .byte [(.int y)]) (SF : Sta Z Z.heap "jdk/internal/util/Preconditions" "SIOOBE_FORMATTER" "Ljava/util/function/BiFunction;" fm) (rF : fm.isRef = true)  : G_l1ch md l Z n0 b fm y h0 0 0 [] h0 0 #[.val (.ref b), .val (.int (0 : Int32))] [] := by
  refine Go.iloadN 1 d26_0 rfl rfl ?_
  refine Go.aloadN 2 d26_1 rfl rfl rfl ?_
  refine Go.alen 3 (1 : Int32) d26_2 rfl A rfl ?_
  refine Go.callS (S := []) 6 [(.int (0 : Int32)), (.int (1 : Int32))] d26_3 rfl rfl (w145 hw) (w146 hw) (w7 hw) (w147 hw) (by decide) (call_of_go (R := _) (len := 3) (W := 0) (plainFor_of_name pn_1) (fun mid => ef_sci mid fm ) (c_sci hw fm SF rF) (w147 hw) (w7 hw) (by decide) (by decide)) (lenOf pd_13 rfl) (Nat.le_of_ble_eq_true rfl) rfl (Nat.le_of_ble_eq_true rfl) (Nat.le_of_ble_eq_true rfl) (fun _ q => nomatch q) (fun v h_1 sf_2 hq => ?_)
  obtain ⟨rfl, rfl⟩ := hq
  refine Go.more (sf' := []) ?_ (Nat.le_refl _) (Nat.le_refl _) (fun _ q => List.mem_append_right _ q)
  show G_l1ch md l Z n0 b fm y h0 0 0 [] h0 6 #[.val (.ref b), .val (.int (0 : Int32))] []
  refine Go.aloadN 7 d26_6 rfl rfl rfl ?_
  refine Go.iloadN 8 d26_7 rfl rfl ?_
  refine Go.baload 0 9 d26_8 rfl A (by decide) rfl ?_
  refine Go.sipush 12 (255 : Int32) d26_9 rfl rfl ?_
  refine Go.iand 13 d26_12 rfl ?_
  refine Go.i2c 14 d26_13 rfl ?_
  exact Go.retN (chr (y &&& (255 : Int32))) d26_14 rfl (t := .char) (by simp) (nar_cc (chp_chr _)) (sf' := []) (⟨rfl, rfl⟩) (fun _ q => nomatch q) (Nat.le_of_ble_eq_true rfl) (Nat.le_of_ble_eq_true rfl)
abbrev G_u16len (md : Md) (l : Launch) (Z : State) (n0 : Nat) (b : Addr) (x y : Int32) (h0 : Heap) := Go md l Z n0 ({ frames := 0, cells := 0, slots := 0, locals := 0 } : Room) jdk_52_method_6_code 1 (some .int) "java/lang/StringUTF16" "length" (fun v h' _ => h0 = h' ∧ v = some (.int 1))
theorem ef_u16len (mid : MethodId) (b : Addr) (x y : Int32)  : entryFrame mid #[(.ref b)] 1 = mkF mid 0 #[.val (.ref b)] [] := by first | (simp [entryFrame, mkF, argsToLocals, Value.category]; done) | rfl
set_option maxRecDepth 65536 in
set_option maxHeartbeats 40000000 in
theorem c_u16len {md : Md} {l : Launch} {Z : State} {n0 : Nat} {a0 : Array Value} (hw : HW a0 Z) (b : Addr) (x y : Int32) {h0 : Heap} (A : Ary Z h0 b .byte [(.int x), (.int y)]) : G_u16len md l Z n0 b x y h0 0 0 [] h0 0 #[.val (.ref b)] [] := by
  refine Go.aloadN 1 d31_0 rfl rfl rfl ?_
  refine Go.alen 2 (2 : Int32) d31_1 rfl A rfl ?_
  refine Go.iconst 3 (1 : Int32) d31_2 rfl rfl ?_
  refine Go.ishr 4 d31_3 rfl ?_
  rw [show ((2 : Int32) >>> ((1 : Int32) &&& 31)) = (1 : Int32) from by decide]
  exact Go.retI d31_4 rfl (sf' := []) (⟨rfl, rfl⟩) (fun _ q => nomatch q) (Nat.le_of_ble_eq_true rfl) (Nat.le_of_ble_eq_true rfl)
abbrev G_uci (md : Md) (l : Launch) (Z : State) (n0 : Nat) (b : Addr) (fm : Value) (x y : Int32) (h0 : Heap) := Go md l Z n0 ({ frames := 2, cells := 0, slots := 0, locals := 27 } : Room) jdk_52_method_91_code 2 none "java/lang/StringUTF16" "checkIndex" (fun v h' _ => h0 = h' ∧ v = none)
theorem ef_uci (mid : MethodId) (b : Addr) (fm : Value) (x y : Int32)  : entryFrame mid #[(.int (0 : Int32)), (.ref b)] 2 = mkF mid 0 #[.val (.int (0 : Int32)), .val (.ref b)] [] := by first | (simp [entryFrame, mkF, argsToLocals, Value.category]; done) | rfl
set_option maxRecDepth 65536 in
set_option maxHeartbeats 40000000 in
theorem c_uci {md : Md} {l : Launch} {Z : State} {n0 : Nat} {a0 : Array Value} (hw : HW a0 Z) (b : Addr) (fm : Value) (x y : Int32) {h0 : Heap} (A : Ary Z h0 b .byte [(.int x), (.int y)]) (SF : Sta Z Z.heap "jdk/internal/util/Preconditions" "SIOOBE_FORMATTER" "Ljava/util/function/BiFunction;" fm) (rF : fm.isRef = true)  : G_uci md l Z n0 b fm x y h0 0 0 [] h0 0 #[.val (.int (0 : Int32)), .val (.ref b)] [] := by
  refine Go.iloadN 1 d30_0 rfl rfl ?_
  refine Go.aloadN 2 d30_1 rfl rfl rfl ?_
  refine Go.callS (S := [(.int (0 : Int32))]) 5 [(.ref b)] d30_2 rfl rfl (w159 hw) (w160 hw) (w22 hw) (w161 hw) (by decide) (call_of_go (R := _) (len := 3) (W := 1) (plainFor_of_name pn_0) (fun mid => ef_u16len mid b x y ) (c_u16len hw b x y A) (w161 hw) (w22 hw) (by decide) (by decide)) (lenOf pd_14 rfl) (Nat.le_of_ble_eq_true rfl) rfl (Nat.le_of_ble_eq_true rfl) (Nat.le_of_ble_eq_true rfl) (fun _ q => nomatch q) (fun v h_1 sf_2 hq => ?_)
  obtain ⟨rfl, rfl⟩ := hq
  refine Go.more (sf' := []) ?_ (Nat.le_refl _) (Nat.le_refl _) (fun _ q => List.mem_append_right _ q)
  show G_uci md l Z n0 b fm x y h0 0 0 [] h0 5 #[.val (.int (0 : Int32)), .val (.ref b)] [(.int (1 : Int32)), (.int (0 : Int32))]
  refine Go.callS (S := []) 8 [(.int (0 : Int32)), (.int (1 : Int32))] d30_5 rfl rfl (w162 hw) (w146 hw) (w7 hw) (w147 hw) (by decide) (call_of_go (R := _) (len := 3) (W := 0) (plainFor_of_name pn_1) (fun mid => ef_sci mid fm ) (c_sci hw fm SF rF) (w147 hw) (w7 hw) (by decide) (by decide)) (lenOf pd_13 rfl) (Nat.le_of_ble_eq_true rfl) rfl (Nat.le_of_ble_eq_true rfl) (Nat.le_of_ble_eq_true rfl) (fun _ q => nomatch q) (fun v h_3 sf_4 hq => ?_)
  obtain ⟨rfl, rfl⟩ := hq
  refine Go.more (sf' := []) ?_ (Nat.le_refl _) (Nat.le_refl _) (fun _ q => List.mem_append_right _ q)
  show G_uci md l Z n0 b fm x y h0 0 0 [] h0 8 #[.val (.int (0 : Int32)), .val (.ref b)] []
  exact Go.ret0 d30_8 rfl (sf' := []) (⟨rfl, rfl⟩) (fun _ q => nomatch q) (Nat.le_of_ble_eq_true rfl) (Nat.le_of_ble_eq_true rfl)
abbrev G_u16ch (md : Md) (l : Launch) (Z : State) (n0 : Nat) (b : Addr) (fm : Value) (x y : Int32) (h0 : Heap) := Go md l Z n0 ({ frames := 3, cells := 0, slots := 0, locals := 40 } : Room) jdk_52_method_83_code 2 (some .char) "java/lang/StringUTF16" "charAt" (fun v h' _ => h0 = h' ∧ v = some (.int (getc x y)))
theorem ef_u16ch (mid : MethodId) (b : Addr) (fm : Value) (x y : Int32)  : entryFrame mid #[(.ref b), (.int (0 : Int32))] 2 = mkF mid 0 #[.val (.ref b), .val (.int (0 : Int32))] [] := by first | (simp [entryFrame, mkF, argsToLocals, Value.category]; done) | rfl
set_option maxRecDepth 65536 in
set_option maxHeartbeats 40000000 in
theorem c_u16ch {md : Md} {l : Launch} {Z : State} {n0 : Nat} {a0 : Array Value} (hw : HW a0 Z) (b : Addr) (fm : Value) (x y : Int32) {h0 : Heap} (A : Ary Z h0 b .byte [(.int x), (.int y)]) (SF : Sta Z Z.heap "jdk/internal/util/Preconditions" "SIOOBE_FORMATTER" "Ljava/util/function/BiFunction;" fm) (rF : fm.isRef = true) (UA : Sta Z Z.heap "java/lang/StringUTF16" "$assertionsDisabled" "Z" (.int 1)) (UH : Sta Z Z.heap "java/lang/StringUTF16" "HI_BYTE_SHIFT" "I" (.int 0)) (UL : Sta Z Z.heap "java/lang/StringUTF16" "LO_BYTE_SHIFT" "I" (.int 8))  : G_u16ch md l Z n0 b fm x y h0 0 0 [] h0 0 #[.val (.ref b), .val (.int (0 : Int32))] [] := by
  refine Go.iloadN 1 d29_0 rfl rfl ?_
  refine Go.aloadN 2 d29_1 rfl rfl rfl ?_
  refine Go.callS (S := []) 5 [(.int (0 : Int32)), (.ref b)] d29_2 rfl rfl (w156 hw) (w157 hw) (w22 hw) (w158 hw) (by decide) (call_of_go (R := _) (len := 3) (W := 0) (plainFor_of_name pn_0) (fun mid => ef_uci mid b fm x y ) (c_uci hw b fm x y A SF rF) (w158 hw) (w22 hw) (by decide) (by decide)) (lenOf pd_15 rfl) (Nat.le_of_ble_eq_true rfl) rfl (Nat.le_of_ble_eq_true rfl) (Nat.le_of_ble_eq_true rfl) (fun _ q => nomatch q) (fun v h_1 sf_2 hq => ?_)
  obtain ⟨rfl, rfl⟩ := hq
  refine Go.more (sf' := []) ?_ (Nat.le_refl _) (Nat.le_refl _) (fun _ q => List.mem_append_right _ q)
  show G_u16ch md l Z n0 b fm x y h0 0 0 [] h0 5 #[.val (.ref b), .val (.int (0 : Int32))] []
  refine Go.aloadN 6 d29_5 rfl rfl rfl ?_
  refine Go.iloadN 7 d29_6 rfl rfl ?_
  refine Go.callS (S := []) 10 [(.ref b), (.int (0 : Int32))] d29_7 rfl rfl (w86 hw) (w87 hw) (w22 hw) (w88 hw) (by decide) (call_of_go (R := _) (len := 3) (W := 0) (plainFor_of_name pn_0) (fun mid => ef_getc0 mid b x y [(.int x), (.int y)] ) (c_getc0 hw b x y [(.int x), (.int y)] A rfl rfl UA UH UL) (w88 hw) (w22 hw) (by decide) (by decide)) (lenOf pd_5 rfl) (Nat.le_of_ble_eq_true rfl) rfl (Nat.le_of_ble_eq_true rfl) (Nat.le_of_ble_eq_true rfl) (fun _ q => nomatch q) (fun v h_3 sf_4 hq => ?_)
  obtain ⟨rfl, rfl⟩ := hq
  refine Go.more (sf' := []) ?_ (Nat.le_refl _) (Nat.le_refl _) (fun _ q => List.mem_append_right _ q)
  show G_u16ch md l Z n0 b fm x y h0 0 0 [] h0 10 #[.val (.ref b), .val (.int (0 : Int32))] [(.int (getc x y))]
  exact Go.retN (getc x y) d29_10 rfl (t := .char) (by simp) (nar_cc (chp_chr _)) (sf' := []) (⟨rfl, rfl⟩) (fun _ q => nomatch q) (Nat.le_of_ble_eq_true rfl) (Nat.le_of_ble_eq_true rfl)
abbrev G_isl0 (md : Md) (l : Launch) (Z : State) (n0 : Nat) (x : Addr) (z : Int32) (h0 : Heap) := Go md l Z n0 ({ frames := 0, cells := 0, slots := 0, locals := 0 } : Room) jdk_42_method_154_code 1 (some .boolean) "java/lang/String" "isLatin1" (fun v h' _ => h0 = h' ∧ v = some (.int 1))
theorem ef_isl0 (mid : MethodId) (x : Addr) (z : Int32)  : entryFrame mid #[(.ref x)] 1 = mkF mid 0 #[.val (.ref x)] [] := by first | (simp [entryFrame, mkF, argsToLocals, Value.category]; done) | rfl
set_option maxRecDepth 65536 in
set_option maxHeartbeats 40000000 in
theorem c_isl0 {md : Md} {l : Launch} {Z : State} {n0 : Nat} {a0 : Array Value} (hw : HW a0 Z) (x : Addr) (z : Int32) {h0 : Heap} (C : Fld Z h0 x "java/lang/String" "coder" "B" (.int 0)) (SC : Sta Z Z.heap "java/lang/String" "COMPACT_STRINGS" "Z" (.int z)) (hz : ¬ z = 0)  : G_isl0 md l Z n0 x z h0 0 0 [] h0 0 #[.val (.ref x)] [] := by
  refine Go.getS 3 d25_0 rfl (w19 hw) Via.refl SC ?_
  refine Go.ifN 6 d25_3 rfl (feq hz).1 ?_
  refine Go.aloadN 7 d25_6 rfl rfl rfl ?_
  refine Go.getF 10 d25_7 rfl (w31 hw) Via.refl C ?_
  refine Go.ifN 13 d25_10 rfl (teq (by decide)).2 ?_
  refine Go.iconst 14 (1 : Int32) d25_13 rfl rfl ?_
  refine Go.goto 18 d25_14 (by decide) (by decide) ?_
  exact Go.retN (1 : Int32) d25_18 rfl (t := .boolean) (by simp) rfl (sf' := []) (⟨rfl, rfl⟩) (fun _ q => nomatch q) (Nat.le_of_ble_eq_true rfl) (Nat.le_of_ble_eq_true rfl)
abbrev G_isl1 (md : Md) (l : Launch) (Z : State) (n0 : Nat) (x : Addr) (z : Int32) (h0 : Heap) := Go md l Z n0 ({ frames := 0, cells := 0, slots := 0, locals := 0 } : Room) jdk_42_method_154_code 1 (some .boolean) "java/lang/String" "isLatin1" (fun v h' _ => h0 = h' ∧ v = some (.int 0))
theorem ef_isl1 (mid : MethodId) (x : Addr) (z : Int32)  : entryFrame mid #[(.ref x)] 1 = mkF mid 0 #[.val (.ref x)] [] := by first | (simp [entryFrame, mkF, argsToLocals, Value.category]; done) | rfl
set_option maxRecDepth 65536 in
set_option maxHeartbeats 40000000 in
theorem c_isl1 {md : Md} {l : Launch} {Z : State} {n0 : Nat} {a0 : Array Value} (hw : HW a0 Z) (x : Addr) (z : Int32) {h0 : Heap} (C : Fld Z h0 x "java/lang/String" "coder" "B" (.int 1)) (SC : Sta Z Z.heap "java/lang/String" "COMPACT_STRINGS" "Z" (.int z)) (hz : ¬ z = 0)  : G_isl1 md l Z n0 x z h0 0 0 [] h0 0 #[.val (.ref x)] [] := by
  refine Go.getS 3 d25_0 rfl (w19 hw) Via.refl SC ?_
  refine Go.ifN 6 d25_3 rfl (feq hz).1 ?_
  refine Go.aloadN 7 d25_6 rfl rfl rfl ?_
  refine Go.getF 10 d25_7 rfl (w31 hw) Via.refl C ?_
  refine Go.ifY 17 d25_10 (by decide) (by decide) (feq (by decide)).2 ?_
  refine Go.iconst 18 (0 : Int32) d25_17 rfl rfl ?_
  exact Go.retN (0 : Int32) d25_18 rfl (t := .boolean) (by simp) rfl (sf' := []) (⟨rfl, rfl⟩) (fun _ q => nomatch q) (Nat.le_of_ble_eq_true rfl) (Nat.le_of_ble_eq_true rfl)
abbrev G_gch0 (md : Md) (l : Launch) (Z : State) (n0 : Nat) (x : Addr) (c z : Int32) (fm : Value) (h0 : Heap) := Go md l Z n0 ({ frames := 4, cells := 0, slots := 0, locals := 53 } : Room) jdk_42_method_56_code 2 (some .char) "java/lang/String" "charAt" (fun v h' _ => h0 = h' ∧ v = some (.int c))
theorem ef_gch0 (mid : MethodId) (x : Addr) (c z : Int32) (fm : Value)  : entryFrame mid #[(.ref x), (.int (0 : Int32))] 2 = mkF mid 0 #[.val (.ref x), .val (.int (0 : Int32))] [] := by first | (simp [entryFrame, mkF, argsToLocals, Value.category]; done) | rfl
set_option maxRecDepth 65536 in
set_option maxHeartbeats 40000000 in
theorem c_gch0 {md : Md} {l : Launch} {Z : State} {n0 : Nat} {a0 : Array Value} (hw : HW a0 Z) (x : Addr) (c z : Int32) (fm : Value) {h0 : Heap} (G : Gst Z h0 x [c]) (b_c : CHP c) (SC : Sta Z Z.heap "java/lang/String" "COMPACT_STRINGS" "Z" (.int z)) (hz : ¬ z = 0) (SF : Sta Z Z.heap "jdk/internal/util/Preconditions" "SIOOBE_FORMATTER" "Ljava/util/function/BiFunction;" fm) (rF : fm.isRef = true) (UA : Sta Z Z.heap "java/lang/StringUTF16" "$assertionsDisabled" "Z" (.int 1)) (UH : Sta Z Z.heap "java/lang/StringUTF16" "HI_BYTE_SHIFT" "I" (.int 0)) (UL : Sta Z Z.heap "java/lang/StringUTF16" "LO_BYTE_SHIFT" "I" (.int 8))  : G_gch0 md l Z n0 x c z fm h0 0 0 [] h0 0 #[.val (.ref x), .val (.int (0 : Int32))] [] := by
  obtain ⟨t, cd, vs, E, C, V, A, ⟨rfl, rfl, hb⟩ | ⟨rfl, rfl, hb⟩⟩ := G
  · skip
    refine Go.aloadN 1 d24_0 rfl rfl rfl ?_
    refine Go.callV (S := []) (a := x) 4 [] d24_1 rfl rfl (w137 hw) (w138 hw) (w140 hw) (w139 hw) (fun _ q => notFace_of_selects (args := #[]) (mvT q (w140 hw))) (by decide) E (call_of_go (R := _) (len := 3) (W := 0) (plainFor_of_name pn_1) (fun mid => ef_isl0 mid x z ) (c_isl0 hw x z C SC hz) (w141 hw) (w7 hw) (by decide) (by decide)) (lenOf pd_16 rfl) (Nat.le_of_ble_eq_true rfl) rfl (Nat.le_of_ble_eq_true rfl) (Nat.le_of_ble_eq_true rfl) (fun _ q => nomatch q) (fun v h_1 sf_2 hq => ?_)
    obtain ⟨rfl, rfl⟩ := hq
    refine Go.more (sf' := []) ?_ (Nat.le_refl _) (Nat.le_refl _) (fun _ q => List.mem_append_right _ q)
    show G_gch0 md l Z n0 x c z fm h0 0 0 [] h0 4 #[.val (.ref x), .val (.int (0 : Int32))] [(.int (1 : Int32))]
    refine Go.ifN 7 d24_4 rfl (feq (by decide)).1 ?_
    refine Go.aloadN 8 d24_7 rfl rfl rfl ?_
    refine Go.getF 11 d24_8 rfl (w33 hw) Via.refl V ?_
    refine Go.iloadN 12 d24_11 rfl rfl ?_
    refine Go.callS (S := []) 15 [(.ref t), (.int (0 : Int32))] d24_12 rfl rfl (w142 hw) (w143 hw) (w112 hw) (w144 hw) (by decide) (call_of_go (R := _) (len := 3) (W := 0) (plainFor_of_name pn_2) (fun mid => ef_l1ch mid t fm c.toInt8.toInt32 ) (c_l1ch hw t fm c.toInt8.toInt32 A SF rF) (w144 hw) (w112 hw) (by decide) (by decide)) (lenOf pd_5 rfl) (Nat.le_of_ble_eq_true rfl) rfl (Nat.le_of_ble_eq_true rfl) (Nat.le_of_ble_eq_true rfl) (fun _ q => nomatch q) (fun v h_3 sf_4 hq => ?_)
    obtain ⟨rfl, rfl⟩ := hq
    rw [lo8_get (hb c (List.mem_singleton.mpr rfl))]
    refine Go.more (sf' := []) ?_ (Nat.le_refl _) (Nat.le_refl _) (fun _ q => List.mem_append_right _ q)
    show G_gch0 md l Z n0 x c z fm h0 0 0 [] h0 15 #[.val (.ref x), .val (.int (0 : Int32))] [(.int c)]
    exact Go.retN c d24_15 rfl (t := .char) (by simp) (nar_cc b_c) (sf' := []) (⟨rfl, rfl⟩) (fun _ q => nomatch q) (Nat.le_of_ble_eq_true rfl) (Nat.le_of_ble_eq_true rfl)
  · skip
    refine Go.aloadN 1 d24_0 rfl rfl rfl ?_
    refine Go.callV (S := []) (a := x) 4 [] d24_1 rfl rfl (w137 hw) (w138 hw) (w140 hw) (w139 hw) (fun _ q => notFace_of_selects (args := #[]) (mvT q (w140 hw))) (by decide) E (call_of_go (R := _) (len := 3) (W := 0) (plainFor_of_name pn_1) (fun mid => ef_isl1 mid x z ) (c_isl1 hw x z C SC hz) (w141 hw) (w7 hw) (by decide) (by decide)) (lenOf pd_16 rfl) (Nat.le_of_ble_eq_true rfl) rfl (Nat.le_of_ble_eq_true rfl) (Nat.le_of_ble_eq_true rfl) (fun _ q => nomatch q) (fun v h_5 sf_6 hq => ?_)
    obtain ⟨rfl, rfl⟩ := hq
    refine Go.more (sf' := []) ?_ (Nat.le_refl _) (Nat.le_refl _) (fun _ q => List.mem_append_right _ q)
    show G_gch0 md l Z n0 x c z fm h0 0 0 [] h0 4 #[.val (.ref x), .val (.int (0 : Int32))] [(.int (0 : Int32))]
    refine Go.ifY 16 d24_4 (by decide) (by decide) (teq (by decide)).1 ?_
    refine Go.aloadN 17 d24_16 rfl rfl rfl ?_
    refine Go.getF 20 d24_17 rfl (w33 hw) Via.refl V ?_
    refine Go.iloadN 21 d24_20 rfl rfl ?_
    refine Go.callS (S := []) 24 [(.ref t), (.int (0 : Int32))] d24_21 rfl rfl (w153 hw) (w154 hw) (w22 hw) (w155 hw) (by decide) (call_of_go (R := _) (len := 3) (W := 0) (plainFor_of_name pn_0) (fun mid => ef_u16ch mid t fm (lo16 c) (hi16 c) ) (c_u16ch hw t fm (lo16 c) (hi16 c) A SF rF UA UH UL) (w155 hw) (w22 hw) (by decide) (by decide)) (lenOf pd_5 rfl) (Nat.le_of_ble_eq_true rfl) rfl (Nat.le_of_ble_eq_true rfl) (Nat.le_of_ble_eq_true rfl) (fun _ q => nomatch q) (fun v h_7 sf_8 hq => ?_)
    obtain ⟨rfl, rfl⟩ := hq
    rw [rt16 b_c]
    refine Go.more (sf' := []) ?_ (Nat.le_refl _) (Nat.le_refl _) (fun _ q => List.mem_append_right _ q)
    show G_gch0 md l Z n0 x c z fm h0 0 0 [] h0 24 #[.val (.ref x), .val (.int (0 : Int32))] [(.int c)]
    exact Go.retN c d24_24 rfl (t := .char) (by simp) (nar_cc b_c) (sf' := []) (⟨rfl, rfl⟩) (fun _ q => nomatch q) (Nat.le_of_ble_eq_true rfl) (Nat.le_of_ble_eq_true rfl)
abbrev G_kind (md : Md) (l : Launch) (Z : State) (n0 : Nat) (k : Int32) (a0 a1 a2 a3 a4 a5 a6 a7 a8 a9 : Addr) (h0 : Heap) := Go md l Z n0 ({ frames := 0, cells := 0, slots := 0, locals := 0 } : Room) method_4_code 1 (some (.object "com/example/petrel/petrel/HoaLexer$Kind")) "com/example/petrel/petrel/TokenIsPunctuationPinLaw" "kindOf" (fun v h' _ => h0 = h' ∧ v = some (.ref (kf a0 a1 a2 a3 a4 a5 a6 a7 a8 a9 k)))
theorem ef_kind (mid : MethodId) (k : Int32) (a0 a1 a2 a3 a4 a5 a6 a7 a8 a9 : Addr)  : entryFrame mid #[(.int k)] 1 = mkF mid 0 #[.val (.int k)] [] := by first | (simp [entryFrame, mkF, argsToLocals, Value.category]; done) | rfl
set_option maxRecDepth 65536 in
set_option maxHeartbeats 40000000 in
theorem c_kind {md : Md} {l : Launch} {Z : State} {n0 : Nat} {a0 : Array Value} (hw : HW a0 Z) (k : Int32) (a0 a1 a2 a3 a4 a5 a6 a7 a8 a9 : Addr) {h0 : Heap} (Z0 : Sta Z Z.heap "com/example/petrel/petrel/HoaLexer$Kind" "HEADER_NAME" "Lcom/example/petrel/petrel/HoaLexer$Kind;" (.ref a0)) (Z1 : Sta Z Z.heap "com/example/petrel/petrel/HoaLexer$Kind" "IDENTIFIER" "Lcom/example/petrel/petrel/HoaLexer$Kind;" (.ref a1)) (Z2 : Sta Z Z.heap "com/example/petrel/petrel/HoaLexer$Kind" "INTEGER" "Lcom/example/petrel/petrel/HoaLexer$Kind;" (.ref a2)) (Z3 : Sta Z Z.heap "com/example/petrel/petrel/HoaLexer$Kind" "STRING" "Lcom/example/petrel/petrel/HoaLexer$Kind;" (.ref a3)) (Z4 : Sta Z Z.heap "com/example/petrel/petrel/HoaLexer$Kind" "ALIAS" "Lcom/example/petrel/petrel/HoaLexer$Kind;" (.ref a4)) (Z5 : Sta Z Z.heap "com/example/petrel/petrel/HoaLexer$Kind" "BODY" "Lcom/example/petrel/petrel/HoaLexer$Kind;" (.ref a5)) (Z6 : Sta Z Z.heap "com/example/petrel/petrel/HoaLexer$Kind" "END" "Lcom/example/petrel/petrel/HoaLexer$Kind;" (.ref a6)) (Z7 : Sta Z Z.heap "com/example/petrel/petrel/HoaLexer$Kind" "ABORT" "Lcom/example/petrel/petrel/HoaLexer$Kind;" (.ref a7)) (Z8 : Sta Z Z.heap "com/example/petrel/petrel/HoaLexer$Kind" "PUNCTUATION" "Lcom/example/petrel/petrel/HoaLexer$Kind;" (.ref a8)) (Z9 : Sta Z Z.heap "com/example/petrel/petrel/HoaLexer$Kind" "END_OF_FILE" "Lcom/example/petrel/petrel/HoaLexer$Kind;" (.ref a9)) : G_kind md l Z n0 k a0 a1 a2 a3 a4 a5 a6 a7 a8 a9 h0 0 0 [] h0 0 #[.val (.int k)] [] := by
  refine Go.iloadN 1 d8_0 rfl rfl ?_
  by_cases hc1 : k = (0 : Int32)
  · skip
    refine Go.ifN 4 d8_1 rfl (teq hc1).2 ?_
    refine Go.getS 7 d8_4 rfl (w38 hw) Via.refl Z0 ?_
    exact Go.retA d8_7 rfl rfl rfl (sf' := []) (⟨rfl, by rw [kf, if_pos hc1]⟩) (fun _ q => nomatch q) (Nat.le_of_ble_eq_true rfl) (Nat.le_of_ble_eq_true rfl)
  · skip
    refine Go.ifY 8 d8_1 (by decide) (by decide) (feq hc1).2 ?_
    refine Go.iloadN 9 d8_8 rfl rfl ?_
    refine Go.iconst 10 (1 : Int32) d8_9 rfl rfl ?_
    by_cases hc10 : k = (1 : Int32)
    · skip
      refine Go.icmpN 13 d8_10 rfl (teq hc10).2 ?_
      refine Go.getS 16 d8_13 rfl (w124 hw) Via.refl Z1 ?_
      exact Go.retA d8_16 rfl rfl rfl (sf' := []) (⟨rfl, by rw [kf, if_neg hc1, if_pos hc10]⟩) (fun _ q => nomatch q) (Nat.le_of_ble_eq_true rfl) (Nat.le_of_ble_eq_true rfl)
    · skip
      refine Go.icmpY 17 d8_10 (by decide) (by decide) (feq hc10).2 ?_
      refine Go.iloadN 18 d8_17 rfl rfl ?_
      refine Go.iconst 19 (2 : Int32) d8_18 rfl rfl ?_
      by_cases hc19 : k = (2 : Int32)
      · skip
        refine Go.icmpN 22 d8_19 rfl (teq hc19).2 ?_
        refine Go.getS 25 d8_22 rfl (w105 hw) Via.refl Z2 ?_
        exact Go.retA d8_25 rfl rfl rfl (sf' := []) (⟨rfl, by rw [kf, if_neg hc1, if_neg hc10, if_pos hc19]⟩) (fun _ q => nomatch q) (Nat.le_of_ble_eq_true rfl) (Nat.le_of_ble_eq_true rfl)
      · skip
        refine Go.icmpY 26 d8_19 (by decide) (by decide) (feq hc19).2 ?_
        refine Go.iloadN 27 d8_26 rfl rfl ?_
        refine Go.iconst 28 (3 : Int32) d8_27 rfl rfl ?_
        by_cases hc28 : k = (3 : Int32)
        · skip
          refine Go.icmpN 31 d8_28 rfl (teq hc28).2 ?_
          refine Go.getS 34 d8_31 rfl (w68 hw) Via.refl Z3 ?_
          exact Go.retA d8_34 rfl rfl rfl (sf' := []) (⟨rfl, by rw [kf, if_neg hc1, if_neg hc10, if_neg hc19, if_pos hc28]⟩) (fun _ q => nomatch q) (Nat.le_of_ble_eq_true rfl) (Nat.le_of_ble_eq_true rfl)
        · skip
          refine Go.icmpY 35 d8_28 (by decide) (by decide) (feq hc28).2 ?_
          refine Go.iloadN 36 d8_35 rfl rfl ?_
          refine Go.iconst 37 (4 : Int32) d8_36 rfl rfl ?_
          by_cases hc37 : k = (4 : Int32)
          · skip
            refine Go.icmpN 40 d8_37 rfl (teq hc37).2 ?_
            refine Go.getS 43 d8_40 rfl (w66 hw) Via.refl Z4 ?_
            exact Go.retA d8_43 rfl rfl rfl (sf' := []) (⟨rfl, by rw [kf, if_neg hc1, if_neg hc10, if_neg hc19, if_neg hc28, if_pos hc37]⟩) (fun _ q => nomatch q) (Nat.le_of_ble_eq_true rfl) (Nat.le_of_ble_eq_true rfl)
          · skip
            refine Go.icmpY 44 d8_37 (by decide) (by decide) (feq hc37).2 ?_
            refine Go.iloadN 45 d8_44 rfl rfl ?_
            refine Go.iconst 46 (5 : Int32) d8_45 rfl rfl ?_
            by_cases hc46 : k = (5 : Int32)
            · skip
              refine Go.icmpN 49 d8_46 rfl (teq hc46).2 ?_
              refine Go.getS 52 d8_49 rfl (w100 hw) Via.refl Z5 ?_
              exact Go.retA d8_52 rfl rfl rfl (sf' := []) (⟨rfl, by rw [kf, if_neg hc1, if_neg hc10, if_neg hc19, if_neg hc28, if_neg hc37, if_pos hc46]⟩) (fun _ q => nomatch q) (Nat.le_of_ble_eq_true rfl) (Nat.le_of_ble_eq_true rfl)
            · skip
              refine Go.icmpY 53 d8_46 (by decide) (by decide) (feq hc46).2 ?_
              refine Go.iloadN 54 d8_53 rfl rfl ?_
              refine Go.bipush 56 (6 : Int32) d8_54 rfl rfl ?_
              by_cases hc56 : k = (6 : Int32)
              · skip
                refine Go.icmpN 59 d8_56 rfl (teq hc56).2 ?_
                refine Go.getS 62 d8_59 rfl (w126 hw) Via.refl Z6 ?_
                exact Go.retA d8_62 rfl rfl rfl (sf' := []) (⟨rfl, by rw [kf, if_neg hc1, if_neg hc10, if_neg hc19, if_neg hc28, if_neg hc37, if_neg hc46, if_pos hc56]⟩) (fun _ q => nomatch q) (Nat.le_of_ble_eq_true rfl) (Nat.le_of_ble_eq_true rfl)
              · skip
                refine Go.icmpY 63 d8_56 (by decide) (by decide) (feq hc56).2 ?_
                refine Go.iloadN 64 d8_63 rfl rfl ?_
                refine Go.bipush 66 (7 : Int32) d8_64 rfl rfl ?_
                by_cases hc66 : k = (7 : Int32)
                · skip
                  refine Go.icmpN 69 d8_66 rfl (teq hc66).2 ?_
                  refine Go.getS 72 d8_69 rfl (w128 hw) Via.refl Z7 ?_
                  exact Go.retA d8_72 rfl rfl rfl (sf' := []) (⟨rfl, by rw [kf, if_neg hc1, if_neg hc10, if_neg hc19, if_neg hc28, if_neg hc37, if_neg hc46, if_neg hc56, if_pos hc66]⟩) (fun _ q => nomatch q) (Nat.le_of_ble_eq_true rfl) (Nat.le_of_ble_eq_true rfl)
                · skip
                  refine Go.icmpY 73 d8_66 (by decide) (by decide) (feq hc66).2 ?_
                  refine Go.iloadN 74 d8_73 rfl rfl ?_
                  refine Go.bipush 76 (8 : Int32) d8_74 rfl rfl ?_
                  by_cases hc76 : k = (8 : Int32)
                  · skip
                    refine Go.icmpN 79 d8_76 rfl (teq hc76).2 ?_
                    refine Go.getS 82 d8_79 rfl (w89 hw) Via.refl Z8 ?_
                    exact Go.retA d8_82 rfl rfl rfl (sf' := []) (⟨rfl, by rw [kf, if_neg hc1, if_neg hc10, if_neg hc19, if_neg hc28, if_neg hc37, if_neg hc46, if_neg hc56, if_neg hc66, if_pos hc76]⟩) (fun _ q => nomatch q) (Nat.le_of_ble_eq_true rfl) (Nat.le_of_ble_eq_true rfl)
                  · skip
                    refine Go.icmpY 83 d8_76 (by decide) (by decide) (feq hc76).2 ?_
                    refine Go.getS 86 d8_83 rfl (w130 hw) Via.refl Z9 ?_
                    exact Go.retA d8_86 rfl rfl rfl (sf' := []) (⟨rfl, by rw [kf, if_neg hc1, if_neg hc10, if_neg hc19, if_neg hc28, if_neg hc37, if_neg hc46, if_neg hc56, if_neg hc66, if_neg hc76]⟩) (fun _ q => nomatch q) (Nat.le_of_ble_eq_true rfl) (Nat.le_of_ble_eq_true rfl)
abbrev G_recinit (md : Md) (l : Launch) (Z : State) (n0 : Nat) (a : Addr) (h0 : Heap) := Go md l Z n0 ({ frames := 1, cells := 0, slots := 0, locals := 12 } : Room) jdk_30_method_1_code 1 none "java/lang/Record" "<init>" (fun v h' _ => v = none ∧ h0 = h')
theorem ef_recinit (mid : MethodId) (a : Addr)  : entryFrame mid #[(.ref a)] 1 = mkF mid 0 #[.val (.ref a)] [] := by first | (simp [entryFrame, mkF, argsToLocals, Value.category]; done) | rfl
set_option maxRecDepth 65536 in
set_option maxHeartbeats 40000000 in
theorem c_recinit {md : Md} {l : Launch} {Z : State} {n0 : Nat} {a0 : Array Value} (hw : HW a0 Z) (a : Addr) {h0 : Heap}  : G_recinit md l Z n0 a h0 0 0 [] h0 0 #[.val (.ref a)] [] := by
  refine Go.aloadN 1 d10_0 rfl rfl rfl ?_
  refine Go.initO (W := 0) 4 d10_1 rfl (w52 hw) (w17 hw) (w18 hw) rfl (by decide) (Nat.le_of_ble_eq_true rfl) (by decide) ?_
  exact Go.ret0 d10_4 rfl (sf' := []) (⟨rfl, rfl⟩) (fun _ q => nomatch q) (Nat.le_of_ble_eq_true rfl) (Nat.le_of_ble_eq_true rfl)
abbrev G_tokinit (md : Md) (l : Launch) (Z : State) (n0 : Nat) (a : Addr) (kd : Addr) (x : Addr) (ln : Int32) (h0 : Heap) := Go md l Z n0 ({ frames := 2, cells := 0, slots := 0, locals := 24 } : Room) prog_10_method_1_code 4 none "com/example/petrel/petrel/HoaLexer$Token" "<init>" (fun v h' _ => v = none ∧ Keep h0 h' [a] ∧ Exa Z h' a "com/example/petrel/petrel/HoaLexer$Token" ∧ Fld Z h' a "com/example/petrel/petrel/HoaLexer$Token" "kind" "Lcom/example/petrel/petrel/HoaLexer$Kind;" (.ref kd) ∧ Fld Z h' a "com/example/petrel/petrel/HoaLexer$Token" "text" "Ljava/lang/String;" (.ref x))
theorem ef_tokinit (mid : MethodId) (a : Addr) (kd : Addr) (x : Addr) (ln : Int32)  : entryFrame mid #[(.ref a), (.ref kd), (.ref x), (.int ln)] 4 = mkF mid 0 #[.val (.ref a), .val (.ref kd), .val (.ref x), .val (.int ln)] [] := by first | (simp [entryFrame, mkF, argsToLocals, Value.category]; done) | rfl
set_option maxRecDepth 65536 in
set_option maxHeartbeats 40000000 in
theorem c_tokinit {md : Md} {l : Launch} {Z : State} {n0 : Nat} {a0 : Array Value} (hw : HW a0 Z) (a : Addr) (kd : Addr) (x : Addr) (ln : Int32) {h0 : Heap} (E : Exa Z h0 a "com/example/petrel/petrel/HoaLexer$Token") (n0a : n0 ≤ a) {u1 : Value} (F1 : Fld Z h0 a "com/example/petrel/petrel/HoaLexer$Token" "kind" "Lcom/example/petrel/petrel/HoaLexer$Kind;" u1) : G_tokinit md l Z n0 a kd x ln h0 0 0 [a] h0 0 #[.val (.ref a), .val (.ref kd), .val (.ref x), .val (.int ln)] [] := by
  refine Go.aloadN 1 d9_0 rfl rfl rfl ?_
  refine Go.callC (S := []) (a := a) 4 [] d9_1 rfl rfl rfl (w47 hw) (w48 hw) (w51 hw) (by decide) (call_of_go (R := _) (len := 3) (W := 0) (plainFor_of_name pn_4) (fun mid => ef_recinit mid a ) (c_recinit hw a ) (w51 hw) (w50 hw) (by decide) (by decide)) (lenOf pd_17 rfl) (Nat.le_of_ble_eq_true rfl) rfl (Nat.le_of_ble_eq_true rfl) (Nat.le_of_ble_eq_true rfl) (fun _ q => nomatch q) (fun v h_1 sf_2 hq => ?_)
  obtain ⟨rfl, rfl⟩ := hq
  refine Go.more (sf' := [a]) ?_ (Nat.le_refl _) (Nat.le_refl _) (fun _ q => List.mem_append_right _ q)
  show G_tokinit md l Z n0 a kd x ln h0 0 0 [a] h0 4 #[.val (.ref a), .val (.ref kd), .val (.ref x), .val (.int ln)] []
  refine Go.aloadN 5 d9_4 rfl rfl rfl ?_
  refine Go.aloadN 6 d9_5 rfl rfl rfl ?_
  refine Go.putF 9 (.ref kd) d9_6 rfl (w53 hw) Via.refl F1 E (Or.inr ⟨(w54 hw), rfl, rfl⟩) (w42 hw) (ty := (.object "com/example/petrel/petrel/HoaLexer$Kind")) (by decide) rfl rfl (List.mem_of_getElem? (i := 0) rfl) n0a (fun h_3 W_4 => ?_)
  refine Go.aloadN 10 d9_9 rfl rfl rfl ?_
  refine Go.aloadN 11 d9_10 rfl rfl rfl ?_
  have f_5 := (E.wr W_4)
  obtain ⟨o_6, fo_7⟩ := Fld.any (F1.same W_4) f_5 (w42 hw) (Or.inr (w56 hw))
  refine Go.putF 14 (.ref x) d9_11 rfl (w55 hw) Via.refl fo_7 f_5 (Or.inr ⟨(w56 hw), rfl, rfl⟩) (w42 hw) (ty := (.object "java/lang/String")) (by decide) rfl rfl (List.mem_of_getElem? (i := 0) rfl) n0a (fun h_8 W_9 => ?_)
  refine Go.aloadN 15 d9_14 rfl rfl rfl ?_
  refine Go.iloadN 16 d9_15 rfl rfl ?_
  have f_10 := (f_5.wr W_9)
  obtain ⟨o_11, fo_12⟩ := Fld.any (fo_7.same W_9) f_10 (w42 hw) (Or.inr (w58 hw))
  refine Go.putF 19 (.int ln) d9_16 rfl (w57 hw) Via.refl fo_12 f_10 (Or.inr ⟨(w58 hw), rfl, rfl⟩) (w42 hw) (ty := .int) (by decide) rfl rfl (List.mem_of_getElem? (i := 0) rfl) n0a (fun h_13 W_14 => ?_)
  have f_15 := (f_10.wr W_14)
  have f_16 := (((F1.same W_4).other W_9 (Or.inr (slot_ne (Or.inr (w54 hw)) (Or.inr (w56 hw)) (by decide) (t := (.object "com/example/petrel/petrel/HoaLexer$Kind")) (t' := (.object "java/lang/String")) (by decide) (by decide)))).other W_14 (Or.inr (slot_ne (Or.inr (w54 hw)) (Or.inr (w58 hw)) (by decide) (t := (.object "com/example/petrel/petrel/HoaLexer$Kind")) (t' := .int) (by decide) (by decide))))
  have f_17 := ((fo_7.same W_9).other W_14 (Or.inr (slot_ne (Or.inr (w56 hw)) (Or.inr (w58 hw)) (by decide) (t := (.object "java/lang/String")) (t' := .int) (by decide) (by decide))))
  exact Go.ret0 d9_19 rfl (sf' := []) (⟨rfl, ((((Keep.refl h0 [a]).wr W_4 (Or.inl (List.mem_of_getElem? (i := 0) rfl))).wr W_9 (Or.inl (List.mem_of_getElem? (i := 0) rfl))).wr W_14 (Or.inl (List.mem_of_getElem? (i := 0) rfl))), f_15, f_16, f_17⟩) (fun _ q => nomatch q) (Nat.le_of_ble_eq_true rfl) (Nat.le_of_ble_eq_true rfl)
abbrev G_mtext (md : Md) (l : Launch) (Z : State) (n0 : Nat) (n c0 c1 c2 : Int32) (z : Int32) (h0 : Heap) := Go md l Z n0 ({ frames := 6, cells := 4, slots := 16, locals := 88 } : Room) method_3_code 4 (some (.object "java/lang/String")) "com/example/petrel/petrel/TokenIsPunctuationPinLaw" "makeText" (fun v h' _ => ∃ x, v = some (.ref x) ∧ Ext h0 h' ∧ Gst Z h' x (mtxt n c0 c1 c2))
theorem ef_mtext (mid : MethodId) (n c0 c1 c2 : Int32) (z : Int32)  : entryFrame mid #[(.int n), (.int c0), (.int c1), (.int c2)] 4 = mkF mid 0 #[.val (.int n), .val (.int c0), .val (.int c1), .val (.int c2)] [] := by first | (simp [entryFrame, mkF, argsToLocals, Value.category]; done) | rfl
set_option maxRecDepth 65536 in
set_option maxHeartbeats 40000000 in
theorem c_mtext {l : Launch} {Z : State} {n0 : Nat} {a0 : Array Value} (hw : HW a0 Z) (n c0 c1 c2 : Int32) (z : Int32) {h0 : Heap} (b_c0 : CHP c0) (b_c1 : CHP c1) (b_c2 : CHP c2) (SC : Sta Z Z.heap "java/lang/String" "COMPACT_STRINGS" "Z" (.int z)) (hz : ¬ z = 0) (UA : Sta Z Z.heap "java/lang/StringUTF16" "$assertionsDisabled" "Z" (.int 1)) (UH : Sta Z Z.heap "java/lang/StringUTF16" "HI_BYTE_SHIFT" "I" (.int 0)) (UL : Sta Z Z.heap "java/lang/StringUTF16" "LO_BYTE_SHIFT" "I" (.int 8))  : G_mtext (some consts_1) l Z n0 n c0 c1 c2 z h0 0 0 [] h0 0 #[.val (.int n), .val (.int c0), .val (.int c1), .val (.int c2)] [] := by
  refine Go.iloadN 1 d1_0 rfl rfl ?_
  by_cases hc1 : n = (0 : Int32)
  · skip
    refine Go.ifN 4 d1_1 rfl (teq hc1).2 ?_
    refine Go.ldcL (vs := []) (z := (0 : Int32)) 0 6 d1_4 rfl (w102 hw) (wS hw) (List.mem_of_getElem? (i := 0) rfl) ⟨by decide, rfl⟩ (by decide) (by decide) (by decide) (by decide) (Nat.le_of_ble_eq_true rfl) (Nat.le_of_ble_eq_true rfl) (fun h_1 s_2 b_3 k_4 E_5 A_6 C_7 V_8 B_9 ne_10 => ?_)
    have B_11 : Ary Z h_1 b_3 .byte [] := Ary.ofArv B_9 rfl (by decide)
    have S_12 : Str Z h_1 s_2 [] := ⟨_, A_6, C_7, V_8, B_11, by unfold Lat; decide⟩
    show G_mtext (some consts_1) l Z n0 n c0 c1 c2 z h0 2 4 [] h_1 6 #[.val (.int n), .val (.int c0), .val (.int c1), .val (.int c2)] [(.ref s_2)]
    exact Go.retA d1_6 rfl rfl rfl (sf' := []) (⟨_, rfl, E_5, by rw [mtxt, if_pos hc1]; exact (Gst.ofStr S_12)⟩) (fun _ q => nomatch q) (Nat.le_of_ble_eq_true rfl) (Nat.le_of_ble_eq_true rfl)
  · skip
    refine Go.ifY 7 d1_1 (by decide) (by decide) (feq hc1).2 ?_
    refine Go.iloadN 8 d1_7 rfl rfl ?_
    refine Go.iconst 9 (1 : Int32) d1_8 rfl rfl ?_
    by_cases hc9 : n = (1 : Int32)
    · skip
      refine Go.icmpN 12 d1_9 rfl (teq hc9).2 ?_
      refine Go.iloadN 13 d1_12 rfl rfl ?_
      refine Go.callS (S := []) 16 [(.int c0)] d1_13 rfl rfl (w107 hw) (w108 hw) (w7 hw) (w109 hw) (by decide) (call_of_go (R := _) (len := 3) (W := 0) (plainFor_of_name pn_1) (fun mid => ef_valueof mid c0 z ) (c_valueof hw c0 z b_c0 SC hz UA UH UL) (w109 hw) (w7 hw) (by decide) (by decide)) (lenOf pd_18 rfl) (Nat.le_of_ble_eq_true rfl) rfl (Nat.le_of_ble_eq_true rfl) (Nat.le_of_ble_eq_true rfl) (fun _ q => nomatch q) (fun v h_13 sf_18 hq => ?_)
      obtain ⟨x_14, rfl, E_15, le_16, S_17⟩ := hq
      refine Go.more (sf' := []) ?_ (Nat.le_refl _) (Nat.le_refl _) (fun _ q => List.mem_append_right _ q)
      show G_mtext (some consts_1) l Z n0 n c0 c1 c2 z h0 2 6 [] h_13 16 #[.val (.int n), .val (.int c0), .val (.int c1), .val (.int c2)] [(.ref x_14)]
      exact Go.retA d1_16 rfl rfl rfl (sf' := []) (⟨_, rfl, E_15, by rw [mtxt, if_neg hc1, if_pos hc9]; exact S_17⟩) (fun _ q => nomatch q) (Nat.le_of_ble_eq_true rfl) (Nat.le_of_ble_eq_true rfl)
    · skip
      refine Go.icmpY 17 d1_9 (by decide) (by decide) (feq hc9).2 ?_
      refine Go.iloadN 18 d1_17 rfl rfl ?_
      refine Go.iconst 19 (2 : Int32) d1_18 rfl rfl ?_
      by_cases hc19 : n = (2 : Int32)
      · skip
        refine Go.icmpN 22 d1_19 rfl (teq hc19).2 ?_
        refine Go.new 25 d1_22 rfl (w5 hw) (w6 hw) (w7 hw) (Nat.le_of_ble_eq_true rfl) (Nat.le_of_ble_eq_true rfl) (fun h_19 x_20 g_21 q_22 E_23 lt_24 A_25 D_26 => ?_)
        show G_mtext (some consts_1) l Z n0 n c0 c1 c2 z h0 1 4 [x_20] h_19 25 #[.val (.int n), .val (.int c0), .val (.int c1), .val (.int c2)] [(.ref x_20)]
        refine Go.dup 26 d1_25 rfl rfl ?_
        refine Go.iconst 27 (2 : Int32) d1_26 rfl rfl ?_
        refine Go.newA 2 29 d1_27 rfl rfl (w8 hw) (by decide) 2 (Nat.le_refl _) (by decide) (Nat.le_of_ble_eq_true rfl) (Nat.le_of_ble_eq_true rfl) (fun h_27 x_28 g_29 q_30 E_31 lt_32 A_33 => ?_)
        have A_34 : Ary Z h_27 x_28 .char [(.int (0 : Int32)), (.int (0 : Int32))] := A_33
        show G_mtext (some consts_1) l Z n0 n c0 c1 c2 z h0 2 6 [x_28, x_20] h_27 29 #[.val (.int n), .val (.int c0), .val (.int c1), .val (.int c2)] [(.ref x_28), (.ref x_20), (.ref x_20)]
        refine Go.dup 30 d1_29 rfl rfl ?_
        refine Go.iconst 31 (0 : Int32) d1_30 rfl rfl ?_
        refine Go.iloadN 32 d1_31 rfl rfl ?_
        refine Go.castore 0 33 d1_32 rfl A_34 (by decide) (Nat.le_of_ble_eq_true rfl) (List.mem_of_getElem? (i := 0) rfl) q_30 (fun h_35 W_36 A_37 => ?_)
        have A_38 : Ary Z h_35 x_28 .char [(.int c0), (.int (0 : Int32))] := by have := A_37; rw [nar_cc b_c0] at this; exact this
        refine Go.dup 34 d1_33 rfl rfl ?_
        refine Go.iconst 35 (1 : Int32) d1_34 rfl rfl ?_
        refine Go.iloadN 36 d1_35 rfl rfl ?_
        refine Go.castore 1 37 d1_36 rfl A_38 (by decide) (Nat.le_of_ble_eq_true rfl) (List.mem_of_getElem? (i := 0) rfl) q_30 (fun h_39 W_40 A_41 => ?_)
        have A_42 : Ary Z h_39 x_28 .char [(.int c0), (.int c1)] := by have := A_41; rw [nar_cc b_c1] at this; exact this
        have X_43 : Ext h_19 h_35 := extW E_31 W_36 (Nat.le_of_eq g_29)
        have X_44 : Ext h_19 h_39 := extW X_43 W_40 (Nat.le_of_eq g_29)
        have f_45 := A_25.ext X_44
        have f_46 := (D_26 (Or.inr (w34 hw)) (ty := (.array .byte)) (by decide)).ext X_44
        have f_47 := (D_26 (Or.inr (w32 hw)) (ty := .byte) (by decide)).ext X_44
        refine Go.callC (S := [(.ref x_20)]) (a := x_20) 40 [(.ref x_28)] d1_37 rfl rfl rfl (w9 hw) (w10 hw) (w11 hw) (by decide) (call_of_go (R := _) (len := 3) (W := 1) (plainFor_of_name pn_1) (fun mid => ef_new1_2 mid x_20 x_28 z c0 c1 ) (c_new1_2 hw x_20 x_28 z c0 c1 f_45 q_22 f_46 f_47 A_42 b_c0 b_c1 SC hz UA UH UL) (w11 hw) (w7 hw) (by decide) (by decide)) (lenOf pd_19 rfl) (Nat.le_of_ble_eq_true rfl) rfl (Nat.le_of_ble_eq_true rfl) (Nat.le_of_ble_eq_true rfl) (sub1 (List.mem_of_getElem? (i := 1) rfl)) (fun v h_50 sf_51 hq => ?_)
        obtain ⟨rfl, K_48, S_49⟩ := hq
        refine Go.more (sf' := [x_28, x_20]) ?_ (Nat.le_refl _) (Nat.le_refl _) (fun _ q => List.mem_append_right _ q)
        show G_mtext (some consts_1) l Z n0 n c0 c1 c2 z h0 4 12 [x_28, x_20] h_50 40 #[.val (.int n), .val (.int c0), .val (.int c1), .val (.int c2)] [(.ref x_20)]
        have X_52 : Ext h0 h_27 := extT E_23 E_31
        have X_53 : Ext h0 h_35 := extW X_52 W_36 (Nat.le_trans E_23.1 (Nat.le_of_eq g_29))
        have X_54 : Ext h0 h_39 := extW X_53 W_40 (Nat.le_trans E_23.1 (Nat.le_of_eq g_29))
        have X_55 : Ext h0 h_50 := extK X_54 K_48 (allS (Nat.le_of_eq g_21) all0)
        exact Go.retA d1_40 rfl rfl rfl (sf' := []) (⟨_, rfl, X_55, by rw [mtxt, if_neg hc1, if_neg hc9, if_pos hc19]; exact S_49⟩) (fun _ q => nomatch q) (Nat.le_of_ble_eq_true rfl) (Nat.le_of_ble_eq_true rfl)
      · skip
        refine Go.icmpY 41 d1_19 (by decide) (by decide) (feq hc19).2 ?_
        refine Go.new 44 d1_41 rfl (w5 hw) (w6 hw) (w7 hw) (Nat.le_of_ble_eq_true rfl) (Nat.le_of_ble_eq_true rfl) (fun h_56 x_57 g_58 q_59 E_60 lt_61 A_62 D_63 => ?_)
        show G_mtext (some consts_1) l Z n0 n c0 c1 c2 z h0 1 4 [x_57] h_56 44 #[.val (.int n), .val (.int c0), .val (.int c1), .val (.int c2)] [(.ref x_57)]
        refine Go.dup 45 d1_44 rfl rfl ?_
        refine Go.iconst 46 (3 : Int32) d1_45 rfl rfl ?_
        refine Go.newA 3 48 d1_46 rfl rfl (w8 hw) (by decide) 3 (Nat.le_refl _) (by decide) (Nat.le_of_ble_eq_true rfl) (Nat.le_of_ble_eq_true rfl) (fun h_64 x_65 g_66 q_67 E_68 lt_69 A_70 => ?_)
        have A_71 : Ary Z h_64 x_65 .char [(.int (0 : Int32)), (.int (0 : Int32)), (.int (0 : Int32))] := A_70
        show G_mtext (some consts_1) l Z n0 n c0 c1 c2 z h0 2 7 [x_65, x_57] h_64 48 #[.val (.int n), .val (.int c0), .val (.int c1), .val (.int c2)] [(.ref x_65), (.ref x_57), (.ref x_57)]
        refine Go.dup 49 d1_48 rfl rfl ?_
        refine Go.iconst 50 (0 : Int32) d1_49 rfl rfl ?_
        refine Go.iloadN 51 d1_50 rfl rfl ?_
        refine Go.castore 0 52 d1_51 rfl A_71 (by decide) (Nat.le_of_ble_eq_true rfl) (List.mem_of_getElem? (i := 0) rfl) q_67 (fun h_72 W_73 A_74 => ?_)
        have A_75 : Ary Z h_72 x_65 .char [(.int c0), (.int (0 : Int32)), (.int (0 : Int32))] := by have := A_74; rw [nar_cc b_c0] at this; exact this
        refine Go.dup 53 d1_52 rfl rfl ?_
        refine Go.iconst 54 (1 : Int32) d1_53 rfl rfl ?_
        refine Go.iloadN 55 d1_54 rfl rfl ?_
        refine Go.castore 1 56 d1_55 rfl A_75 (by decide) (Nat.le_of_ble_eq_true rfl) (List.mem_of_getElem? (i := 0) rfl) q_67 (fun h_76 W_77 A_78 => ?_)
        have A_79 : Ary Z h_76 x_65 .char [(.int c0), (.int c1), (.int (0 : Int32))] := by have := A_78; rw [nar_cc b_c1] at this; exact this
        refine Go.dup 57 d1_56 rfl rfl ?_
        refine Go.iconst 58 (2 : Int32) d1_57 rfl rfl ?_
        refine Go.iloadN 59 d1_58 rfl rfl ?_
        refine Go.castore 2 60 d1_59 rfl A_79 (by decide) (Nat.le_of_ble_eq_true rfl) (List.mem_of_getElem? (i := 0) rfl) q_67 (fun h_80 W_81 A_82 => ?_)
        have A_83 : Ary Z h_80 x_65 .char [(.int c0), (.int c1), (.int c2)] := by have := A_82; rw [nar_cc b_c2] at this; exact this
        have X_84 : Ext h_56 h_72 := extW E_68 W_73 (Nat.le_of_eq g_66)
        have X_85 : Ext h_56 h_76 := extW X_84 W_77 (Nat.le_of_eq g_66)
        have X_86 : Ext h_56 h_80 := extW X_85 W_81 (Nat.le_of_eq g_66)
        have f_87 := A_62.ext X_86
        have f_88 := (D_63 (Or.inr (w34 hw)) (ty := (.array .byte)) (by decide)).ext X_86
        have f_89 := (D_63 (Or.inr (w32 hw)) (ty := .byte) (by decide)).ext X_86
        refine Go.callC (S := [(.ref x_57)]) (a := x_57) 63 [(.ref x_65)] d1_60 rfl rfl rfl (w9 hw) (w10 hw) (w11 hw) (by decide) (call_of_go (R := _) (len := 3) (W := 1) (plainFor_of_name pn_1) (fun mid => ef_new1_3 mid x_57 x_65 z c0 c1 c2 ) (c_new1_3 hw x_57 x_65 z c0 c1 c2 f_87 q_59 f_88 f_89 A_83 b_c0 b_c1 b_c2 SC hz UA UH UL) (w11 hw) (w7 hw) (by decide) (by decide)) (lenOf pd_19 rfl) (Nat.le_of_ble_eq_true rfl) rfl (Nat.le_of_ble_eq_true rfl) (Nat.le_of_ble_eq_true rfl) (sub1 (List.mem_of_getElem? (i := 1) rfl)) (fun v h_92 sf_93 hq => ?_)
        obtain ⟨rfl, K_90, S_91⟩ := hq
        refine Go.more (sf' := [x_65, x_57]) ?_ (Nat.le_refl _) (Nat.le_refl _) (fun _ q => List.mem_append_right _ q)
        show G_mtext (some consts_1) l Z n0 n c0 c1 c2 z h0 4 16 [x_65, x_57] h_92 63 #[.val (.int n), .val (.int c0), .val (.int c1), .val (.int c2)] [(.ref x_57)]
        have X_94 : Ext h0 h_64 := extT E_60 E_68
        have X_95 : Ext h0 h_72 := extW X_94 W_73 (Nat.le_trans E_60.1 (Nat.le_of_eq g_66))
        have X_96 : Ext h0 h_76 := extW X_95 W_77 (Nat.le_trans E_60.1 (Nat.le_of_eq g_66))
        have X_97 : Ext h0 h_80 := extW X_96 W_81 (Nat.le_trans E_60.1 (Nat.le_of_eq g_66))
        have X_98 : Ext h0 h_92 := extK X_97 K_90 (allS (Nat.le_of_eq g_58) all0)
        exact Go.retA d1_63 rfl rfl rfl (sf' := []) (⟨_, rfl, X_98, by rw [mtxt, if_neg hc1, if_neg hc9, if_neg hc19]; exact S_91⟩) (fun _ q => nomatch q) (Nat.le_of_ble_eq_true rfl) (Nat.le_of_ble_eq_true rfl)
abbrev G_isp (md : Md) (l : Launch) (Z : State) (n0 : Nat) (a kd x kp : Addr) (cs : List Int32) (q z : Int32) (fm : Value) (h0 : Heap) := Go md l Z n0 ({ frames := 5, cells := 0, slots := 0, locals := 66 } : Room) prog_10_method_3_code 2 (some .boolean) "com/example/petrel/petrel/HoaLexer$Token" "isPunctuation" (fun v h' _ => h0 = h' ∧ ∃ r : Int32, v = some (.int r) ∧ ((r = 1 ∧ (kd = kp ∧ cs = [q])) ∨ (r = 0 ∧ ¬ (kd = kp ∧ cs = [q]))))
theorem ef_isp (mid : MethodId) (a kd x kp : Addr) (cs : List Int32) (q z : Int32) (fm : Value)  : entryFrame mid #[(.ref a), (.int q)] 2 = mkF mid 0 #[.val (.ref a), .val (.int q)] [] := by first | (simp [entryFrame, mkF, argsToLocals, Value.category]; done) | rfl
set_option maxRecDepth 65536 in
set_option maxHeartbeats 40000000 in
theorem c_isp {md : Md} {l : Launch} {Z : State} {n0 : Nat} {a0 : Array Value} (hw : HW a0 Z) (a kd x kp : Addr) (cs : List Int32) (q z : Int32) (fm : Value) {h0 : Heap} (F1 : Fld Z h0 a "com/example/petrel/petrel/HoaLexer$Token" "kind" "Lcom/example/petrel/petrel/HoaLexer$Kind;" (.ref kd)) (F2 : Fld Z h0 a "com/example/petrel/petrel/HoaLexer$Token" "text" "Ljava/lang/String;" (.ref x)) (G : Gst Z h0 x cs) (hl : cs.length ≤ 4000) (hch : ∀ c ∈ cs, CHP c) (ZP : Sta Z Z.heap "com/example/petrel/petrel/HoaLexer$Kind" "PUNCTUATION" "Lcom/example/petrel/petrel/HoaLexer$Kind;" (.ref kp)) (SC : Sta Z Z.heap "java/lang/String" "COMPACT_STRINGS" "Z" (.int z)) (hz : ¬ z = 0) (SF : Sta Z Z.heap "jdk/internal/util/Preconditions" "SIOOBE_FORMATTER" "Ljava/util/function/BiFunction;" fm) (rF : fm.isRef = true) (UA : Sta Z Z.heap "java/lang/StringUTF16" "$assertionsDisabled" "Z" (.int 1)) (UH : Sta Z Z.heap "java/lang/StringUTF16" "HI_BYTE_SHIFT" "I" (.int 0)) (UL : Sta Z Z.heap "java/lang/StringUTF16" "LO_BYTE_SHIFT" "I" (.int 8))  : G_isp md l Z n0 a kd x kp cs q z fm h0 0 0 [] h0 0 #[.val (.ref a), .val (.int q)] [] := by
  refine Go.aloadN 1 d11_0 rfl rfl rfl ?_
  refine Go.getF 4 d11_1 rfl (w53 hw) Via.refl F1 ?_
  refine Go.getS 7 d11_4 rfl (w64 hw) Via.refl ZP ?_
  by_cases hc7 : kd = kp
  · skip
    refine Go.acmpN 10 d11_7 (by decide) rfl rfl rfl (by rw [decide_eq_true (congrArg Value.ref hc7)]; rfl) ?_
    refine Go.aloadN 11 d11_10 rfl rfl rfl ?_
    refine Go.getF 14 d11_11 rfl (w55 hw) Via.refl F2 ?_
    obtain ⟨t_1, cd_2, vs_3, A_4, C_5, V_6, B_7, sp_8⟩ := id G
    refine Go.callV (S := []) (a := x) 17 [] d11_14 rfl rfl (w90 hw) (w91 hw) (w93 hw) (w92 hw) (fun _ q => notFace_of_selects (args := #[]) (mvT q (w93 hw))) (by decide) G.exa (call_of_go (R := _) (len := 3) (W := 0) (plainFor_of_name pn_1) (fun mid => ef_glen mid x t_1 z cd_2 vs_3 ) (c_glen hw x t_1 z cd_2 vs_3 A_4 C_5 V_6 B_7 (by rcases sp_8 with ⟨rfl, -⟩ | ⟨rfl, -⟩ <;> rfl) SC hz) (w94 hw) (w7 hw) (by decide) (by decide)) (lenOf pd_20 rfl) (Nat.le_of_ble_eq_true rfl) rfl (Nat.le_of_ble_eq_true rfl) (Nat.le_of_ble_eq_true rfl) (fun _ q => nomatch q) (fun v h_9 sf_10 hq => ?_)
    obtain ⟨rfl, rfl⟩ := hq
    rw [sp_8.len hl]
    refine Go.more (sf' := []) ?_ (Nat.le_refl _) (Nat.le_refl _) (fun _ q => List.mem_append_right _ q)
    show G_isp md l Z n0 a kd x kp cs q z fm h0 0 0 [] h0 17 #[.val (.ref a), .val (.int q)] [(.int (Int32.ofNat (cs).length))]
    refine Go.iconst 18 (1 : Int32) d11_17 rfl rfl ?_
    by_cases hc18 : (Int32.ofNat (cs).length) = (1 : Int32)
    · skip
      refine Go.icmpN 21 d11_18 rfl (teq hc18).2 ?_
      obtain ⟨c, ecs⟩ := len1 hl hc18
      have G1 : Gst Z h0 x [c] := by rw [← ecs]; exact G
      refine Go.aloadN 22 d11_21 rfl rfl rfl ?_
      refine Go.getF 25 d11_22 rfl (w55 hw) Via.refl F2 ?_
      refine Go.iconst 26 (0 : Int32) d11_25 rfl rfl ?_
      refine Go.callV (S := []) (a := x) 29 [(.int (0 : Int32))] d11_26 rfl rfl (w132 hw) (w133 hw) (w135 hw) (w134 hw) (fun _ q => notFace_of_selects (args := #[]) (mvT q (w135 hw))) (by decide) G.exa (call_of_go (R := _) (len := 3) (W := 0) (plainFor_of_name pn_1) (fun mid => ef_gch0 mid x c z fm ) (c_gch0 hw x c z fm G1 (hch c (by rw [ecs]; exact List.mem_singleton.mpr rfl)) SC hz SF rF UA UH UL) (w136 hw) (w7 hw) (by decide) (by decide)) (lenOf pd_21 rfl) (Nat.le_of_ble_eq_true rfl) rfl (Nat.le_of_ble_eq_true rfl) (Nat.le_of_ble_eq_true rfl) (fun _ q => nomatch q) (fun v h_11 sf_12 hq => ?_)
      obtain ⟨rfl, rfl⟩ := hq
      refine Go.more (sf' := []) ?_ (Nat.le_refl _) (Nat.le_refl _) (fun _ q => List.mem_append_right _ q)
      show G_isp md l Z n0 a kd x kp cs q z fm h0 0 0 [] h0 29 #[.val (.ref a), .val (.int q)] [(.int c)]
      refine Go.iloadN 30 d11_29 rfl rfl ?_
      by_cases hc30 : c = q
      · skip
        refine Go.icmpN 33 d11_30 rfl (teq hc30).2 ?_
        refine Go.iconst 34 (1 : Int32) d11_33 rfl rfl ?_
        refine Go.goto 38 d11_34 (by decide) (by decide) ?_
        exact Go.retN (1 : Int32) d11_38 rfl (t := .boolean) (by simp) rfl (sf' := []) (⟨rfl, _, rfl, Or.inl ⟨rfl, hc7, by rw [ecs, hc30]⟩⟩) (fun _ q => nomatch q) (Nat.le_of_ble_eq_true rfl) (Nat.le_of_ble_eq_true rfl)
      · skip
        refine Go.icmpY 37 d11_30 (by decide) (by decide) (feq hc30).2 ?_
        refine Go.iconst 38 (0 : Int32) d11_37 rfl rfl ?_
        exact Go.retN (0 : Int32) d11_38 rfl (t := .boolean) (by simp) rfl (sf' := []) (⟨rfl, _, rfl, Or.inr ⟨rfl, fun q => hc30 (List.singleton_inj.mp (ecs.symm.trans q.2))⟩⟩) (fun _ q => nomatch q) (Nat.le_of_ble_eq_true rfl) (Nat.le_of_ble_eq_true rfl)
    · skip
      refine Go.icmpY 37 d11_18 (by decide) (by decide) (feq hc18).2 ?_
      refine Go.iconst 38 (0 : Int32) d11_37 rfl rfl ?_
      exact Go.retN (0 : Int32) d11_38 rfl (t := .boolean) (by simp) rfl (sf' := []) (⟨rfl, _, rfl, Or.inr ⟨rfl, fun q => hc18 (by rw [q.2]; rfl)⟩⟩) (fun _ q => nomatch q) (Nat.le_of_ble_eq_true rfl) (Nat.le_of_ble_eq_true rfl)
  · skip
    refine Go.acmpY 37 d11_7 (by decide) (by decide) rfl rfl (by rw [decide_eq_false (fun q => hc7 (Value.ref.inj q))]; rfl) ?_
    refine Go.iconst 38 (0 : Int32) d11_37 rfl rfl ?_
    exact Go.retN (0 : Int32) d11_38 rfl (t := .boolean) (by simp) rfl (sf' := []) (⟨rfl, _, rfl, Or.inr ⟨rfl, fun q => hc7 q.1⟩⟩) (fun _ q => nomatch q) (Nat.le_of_ble_eq_true rfl) (Nat.le_of_ble_eq_true rfl)
abbrev G_law (l : Launch) (Z : State) (n0 : Nat) := Go (some consts_1) l Z n0 room_1 code maxLocals ret "com/example/petrel/petrel/TokenIsPunctuationPinLaw" "law" (fun v _ _ => v = some (.int 1))
theorem ef_law (m : MethodId) (p0 : Int32) (p1 : Int32) (p2 : Int32) (p3 : Int32) (p4 : Int32) (p5 : Int32) : entryFrame m #[(.int p0), (.int p1), (.int p2), (.int p3), (.int p4), (.int p5)] maxLocals = mkF m 0 #[.val (.int p0), .val (.int p1), .val (.int p2), .val (.int p3), .val (.int p4), .val (.int p5), .unset, .unset, .unset, .unset, .unset, .unset, .unset, .unset, .unset, .unset] [] := by first | (simp [entryFrame, mkF, argsToLocals, Value.category, maxLocals]; done) | rfl
set_option maxRecDepth 65536 in
set_option maxHeartbeats 40000000 in
theorem law_go {l : Launch} {Z : State} {n0 : Nat} {a0 : Array Value} (hw : HW a0 Z) (p0 : Int32) (p1 : Int32) (p2 : Int32) (p3 : Int32) (p4 : Int32) (p5 : Int32) (z : Int32) (fm : Value) (SC : Sta Z Z.heap "java/lang/String" "COMPACT_STRINGS" "Z" (.int z)) (hz : ¬ z = 0) (SF : Sta Z Z.heap "jdk/internal/util/Preconditions" "SIOOBE_FORMATTER" "Ljava/util/function/BiFunction;" fm) (rF : fm.isRef = true) (UA : Sta Z Z.heap "java/lang/StringUTF16" "$assertionsDisabled" "Z" (.int 1)) (UH : Sta Z Z.heap "java/lang/StringUTF16" "HI_BYTE_SHIFT" "I" (.int 0)) (UL : Sta Z Z.heap "java/lang/StringUTF16" "LO_BYTE_SHIFT" "I" (.int 8)) (a0 a1 a2 a3 a4 a5 a6 a7 a8 a9 : Addr) (Z0 : Sta Z Z.heap "com/example/petrel/petrel/HoaLexer$Kind" "HEADER_NAME" "Lcom/example/petrel/petrel/HoaLexer$Kind;" (.ref a0)) (Z1 : Sta Z Z.heap "com/example/petrel/petrel/HoaLexer$Kind" "IDENTIFIER" "Lcom/example/petrel/petrel/HoaLexer$Kind;" (.ref a1)) (Z2 : Sta Z Z.heap "com/example/petrel/petrel/HoaLexer$Kind" "INTEGER" "Lcom/example/petrel/petrel/HoaLexer$Kind;" (.ref a2)) (Z3 : Sta Z Z.heap "com/example/petrel/petrel/HoaLexer$Kind" "STRING" "Lcom/example/petrel/petrel/HoaLexer$Kind;" (.ref a3)) (Z4 : Sta Z Z.heap "com/example/petrel/petrel/HoaLexer$Kind" "ALIAS" "Lcom/example/petrel/petrel/HoaLexer$Kind;" (.ref a4)) (Z5 : Sta Z Z.heap "com/example/petrel/petrel/HoaLexer$Kind" "BODY" "Lcom/example/petrel/petrel/HoaLexer$Kind;" (.ref a5)) (Z6 : Sta Z Z.heap "com/example/petrel/petrel/HoaLexer$Kind" "END" "Lcom/example/petrel/petrel/HoaLexer$Kind;" (.ref a6)) (Z7 : Sta Z Z.heap "com/example/petrel/petrel/HoaLexer$Kind" "ABORT" "Lcom/example/petrel/petrel/HoaLexer$Kind;" (.ref a7)) (Z8 : Sta Z Z.heap "com/example/petrel/petrel/HoaLexer$Kind" "PUNCTUATION" "Lcom/example/petrel/petrel/HoaLexer$Kind;" (.ref a8)) (Z9 : Sta Z Z.heap "com/example/petrel/petrel/HoaLexer$Kind" "END_OF_FILE" "Lcom/example/petrel/petrel/HoaLexer$Kind;" (.ref a9)) (HO : ∀ k, inK k → Fld Z Z.heap (kf a0 a1 a2 a3 a4 a5 a6 a7 a8 a9 k) "java/lang/Enum" "ordinal" "I" (.int k)) {h0 : Heap} : G_law l Z n0 0 0 [] h0 0 #[.val (.int p0), .val (.int p1), .val (.int p2), .val (.int p3), .val (.int p4), .val (.int p5), .unset, .unset, .unset, .unset, .unset, .unset, .unset, .unset, .unset, .unset] [] := by
  refine Go.iloadN 1 at_0 rfl rfl ?_
  refine Go.ldcI 3 at_1 rfl (w0 hw) ?_
  refine Go.iand 4 at_3 rfl ?_
  refine Go.bipush 6 (10 : Int32) at_4 rfl rfl ?_
  refine Go.irem 7 at_6 rfl (by decide) ?_
  refine Go.istore 9 #[.val (.int p0), .val (.int p1), .val (.int p2), .val (.int p3), .val (.int p4), .val (.int p5), .val (.int ((p0 &&& (2147483647 : Int32)) % (10 : Int32))), .unset, .unset, .unset, .unset, .unset, .unset, .unset, .unset, .unset] at_7 rfl rfl ?_
  obtain ⟨k1, e_k1⟩ : ∃ y_ : Int32, y_ = ((p0 &&& (2147483647 : Int32)) % (10 : Int32)) := ⟨_, rfl⟩
  have b_k1 : inK k1 := by rw [e_k1]; exact rem10 (nonneg_and _ (by decide))
  rw [← e_k1]
  show G_law l Z n0 0 0 [] h0 9 #[.val (.int p0), .val (.int p1), .val (.int p2), .val (.int p3), .val (.int p4), .val (.int p5), .val (.int k1), .unset, .unset, .unset, .unset, .unset, .unset, .unset, .unset, .unset] []
  refine Go.iloadN 10 at_9 rfl rfl ?_
  refine Go.iconst 11 (3 : Int32) at_10 rfl rfl ?_
  refine Go.iand 12 at_11 rfl ?_
  refine Go.istore 14 #[.val (.int p0), .val (.int p1), .val (.int p2), .val (.int p3), .val (.int p4), .val (.int p5), .val (.int k1), .val (.int (p1 &&& (3 : Int32))), .unset, .unset, .unset, .unset, .unset, .unset, .unset, .unset] at_12 rfl rfl ?_
  obtain ⟨n1, e_n1⟩ : ∃ y_ : Int32, y_ = (p1 &&& (3 : Int32)) := ⟨_, rfl⟩
  have b_n1 : n1 = 0 ∨ n1 = 1 ∨ n1 = 2 ∨ n1 = 3 := by rw [e_n1]; exact and3 _
  rw [← e_n1]
  show G_law l Z n0 0 0 [] h0 14 #[.val (.int p0), .val (.int p1), .val (.int p2), .val (.int p3), .val (.int p4), .val (.int p5), .val (.int k1), .val (.int n1), .unset, .unset, .unset, .unset, .unset, .unset, .unset, .unset] []
  refine Go.iloadN 15 at_14 rfl rfl ?_
  refine Go.i2c 16 at_15 rfl ?_
  refine Go.istore 18 #[.val (.int p0), .val (.int p1), .val (.int p2), .val (.int p3), .val (.int p4), .val (.int p5), .val (.int k1), .val (.int n1), .val (.int (chr p2)), .unset, .unset, .unset, .unset, .unset, .unset, .unset] at_16 rfl rfl ?_
  refine Go.iloadN 19 at_18 rfl rfl ?_
  refine Go.i2c 20 at_19 rfl ?_
  refine Go.istore 22 #[.val (.int p0), .val (.int p1), .val (.int p2), .val (.int p3), .val (.int p4), .val (.int p5), .val (.int k1), .val (.int n1), .val (.int (chr p2)), .val (.int (chr p3)), .unset, .unset, .unset, .unset, .unset, .unset] at_20 rfl rfl ?_
  refine Go.iloadN 23 at_22 rfl rfl ?_
  refine Go.bipush 25 (16 : Int32) at_23 rfl rfl ?_
  refine Go.iushr 26 at_25 rfl ?_
  refine Go.i2c 27 at_26 rfl ?_
  refine Go.istore 29 #[.val (.int p0), .val (.int p1), .val (.int p2), .val (.int p3), .val (.int p4), .val (.int p5), .val (.int k1), .val (.int n1), .val (.int (chr p2)), .val (.int (chr p3)), .val (.int (chr (ushr p3 (16 : Int32)))), .unset, .unset, .unset, .unset, .unset] at_27 rfl rfl ?_
  obtain ⟨ca, e_ca⟩ : ∃ y_ : Int32, y_ = (chr p2) := ⟨_, rfl⟩
  have b_ca : CHP ca := by rw [e_ca]; exact chp_chr _
  rw [← e_ca]
  show G_law l Z n0 0 0 [] h0 29 #[.val (.int p0), .val (.int p1), .val (.int p2), .val (.int p3), .val (.int p4), .val (.int p5), .val (.int k1), .val (.int n1), .val (.int ca), .val (.int (chr p3)), .val (.int (chr (ushr p3 (16 : Int32)))), .unset, .unset, .unset, .unset, .unset] []
  obtain ⟨cb, e_cb⟩ : ∃ y_ : Int32, y_ = (chr p3) := ⟨_, rfl⟩
  have b_cb : CHP cb := by rw [e_cb]; exact chp_chr _
  rw [← e_cb]
  show G_law l Z n0 0 0 [] h0 29 #[.val (.int p0), .val (.int p1), .val (.int p2), .val (.int p3), .val (.int p4), .val (.int p5), .val (.int k1), .val (.int n1), .val (.int ca), .val (.int cb), .val (.int (chr (ushr p3 (16 : Int32)))), .unset, .unset, .unset, .unset, .unset] []
  obtain ⟨cd, e_cd⟩ : ∃ y_ : Int32, y_ = (chr (ushr p3 (16 : Int32))) := ⟨_, rfl⟩
  have b_cd : CHP cd := by rw [e_cd]; exact chp_chr _
  rw [← e_cd]
  show G_law l Z n0 0 0 [] h0 29 #[.val (.int p0), .val (.int p1), .val (.int p2), .val (.int p3), .val (.int p4), .val (.int p5), .val (.int k1), .val (.int n1), .val (.int ca), .val (.int cb), .val (.int cd), .unset, .unset, .unset, .unset, .unset] []
  have cut46 : ∀ (qq : Int32), G_law l Z n0 0 0 [] h0 46 #[.val (.int p0), .val (.int p1), .val (.int p2), .val (.int p3), .val (.int p4), .val (.int p5), .val (.int k1), .val (.int n1), .val (.int ca), .val (.int cb), .val (.int cd), .unset, .unset, .unset, .unset, .unset] [(.int qq)] := by
    intro qq
    refine Go.istore 48 #[.val (.int p0), .val (.int p1), .val (.int p2), .val (.int p3), .val (.int p4), .val (.int p5), .val (.int k1), .val (.int n1), .val (.int ca), .val (.int cb), .val (.int cd), .val (.int qq), .unset, .unset, .unset, .unset] at_46 rfl rfl ?_
    refine Go.iload 50 at_48 rfl rfl ?_
    refine Go.iload 52 at_50 rfl rfl ?_
    refine Go.iload 54 at_52 rfl rfl ?_
    refine Go.iload 56 at_54 rfl rfl ?_
    refine Go.callS (S := []) 59 [(.int n1), (.int ca), (.int cb), (.int cd)] at_56 rfl rfl (w1 hw) (w2 hw) (w3 hw) (w4 hw) (by decide) (call_of_go (R := _) (len := 3) (W := 0) (plainFor_of_name pn_5) (fun mid => ef_mtext mid n1 ca cb cd z ) (c_mtext hw n1 ca cb cd z b_ca b_cb b_cd SC hz UA UH UL) (w4 hw) (w3 hw) (by decide) (by decide)) (lenOf pd_22 rfl) (Nat.le_of_ble_eq_true rfl) rfl (Nat.le_of_ble_eq_true rfl) (Nat.le_of_ble_eq_true rfl) (fun _ q => nomatch q) (fun v h_1 sf_5 hq => ?_)
    obtain ⟨x_2, rfl, E_3, S_4⟩ := hq
    refine Go.more (sf' := []) ?_ (Nat.le_refl _) (Nat.le_refl _) (fun _ q => List.mem_append_right _ q)
    show G_law l Z n0 4 16 [] h_1 59 #[.val (.int p0), .val (.int p1), .val (.int p2), .val (.int p3), .val (.int p4), .val (.int p5), .val (.int k1), .val (.int n1), .val (.int ca), .val (.int cb), .val (.int cd), .val (.int qq), .unset, .unset, .unset, .unset] [(.ref x_2)]
    refine Go.astore 61 #[.val (.int p0), .val (.int p1), .val (.int p2), .val (.int p3), .val (.int p4), .val (.int p5), .val (.int k1), .val (.int n1), .val (.int ca), .val (.int cb), .val (.int cd), .val (.int qq), .val (.ref x_2), .unset, .unset, .unset] at_59 rfl rfl rfl ?_
    refine Go.iload 63 at_61 rfl rfl ?_
    refine Go.callS (S := []) 66 [(.int k1)] at_63 rfl rfl (w35 hw) (w36 hw) (w3 hw) (w37 hw) (by decide) (call_of_go (R := _) (len := 3) (W := 0) (plainFor_of_name pn_5) (fun mid => ef_kind mid k1 a0 a1 a2 a3 a4 a5 a6 a7 a8 a9 ) (c_kind hw k1 a0 a1 a2 a3 a4 a5 a6 a7 a8 a9 Z0 Z1 Z2 Z3 Z4 Z5 Z6 Z7 Z8 Z9) (w37 hw) (w3 hw) (by decide) (by decide)) (lenOf pd_23 rfl) (Nat.le_of_ble_eq_true rfl) rfl (Nat.le_of_ble_eq_true rfl) (Nat.le_of_ble_eq_true rfl) (fun _ q => nomatch q) (fun v h_6 sf_7 hq => ?_)
    obtain ⟨rfl, rfl⟩ := hq
    obtain ⟨kd1, e_kd1⟩ : ∃ y_ : Addr, y_ = kf a0 a1 a2 a3 a4 a5 a6 a7 a8 a9 k1 := ⟨_, rfl⟩
    rw [← e_kd1]
    refine Go.more (sf' := []) ?_ (Nat.le_refl _) (Nat.le_refl _) (fun _ q => List.mem_append_right _ q)
    show G_law l Z n0 4 16 [] h_1 66 #[.val (.int p0), .val (.int p1), .val (.int p2), .val (.int p3), .val (.int p4), .val (.int p5), .val (.int k1), .val (.int n1), .val (.int ca), .val (.int cb), .val (.int cd), .val (.int qq), .val (.ref x_2), .unset, .unset, .unset] [(.ref kd1)]
    refine Go.astore 68 #[.val (.int p0), .val (.int p1), .val (.int p2), .val (.int p3), .val (.int p4), .val (.int p5), .val (.int k1), .val (.int n1), .val (.int ca), .val (.int cb), .val (.int cd), .val (.int qq), .val (.ref x_2), .val (.ref kd1), .unset, .unset] at_66 rfl rfl rfl ?_
    refine Go.new 71 at_68 rfl (w41 hw) (w42 hw) (w43 hw) (Nat.le_of_ble_eq_true rfl) (Nat.le_of_ble_eq_true rfl) (fun h_8 x_9 g_10 q_11 E_12 lt_13 A_14 D_15 => ?_)
    show G_law l Z n0 5 19 [x_9] h_8 71 #[.val (.int p0), .val (.int p1), .val (.int p2), .val (.int p3), .val (.int p4), .val (.int p5), .val (.int k1), .val (.int n1), .val (.int ca), .val (.int cb), .val (.int cd), .val (.int qq), .val (.ref x_2), .val (.ref kd1), .unset, .unset] [(.ref x_9)]
    refine Go.dup 72 at_71 rfl rfl ?_
    refine Go.aload 74 at_72 rfl rfl rfl ?_
    refine Go.aload 76 at_74 rfl rfl rfl ?_
    refine Go.iload 78 at_76 rfl rfl ?_
    refine Go.callC (S := [(.ref x_9)]) (a := x_9) 81 [(.ref kd1), (.ref x_2), (.int p5)] at_78 rfl rfl rfl (w44 hw) (w45 hw) (w46 hw) (by decide) (call_of_go (R := _) (len := 3) (W := 1) (plainFor_of_name pn_6) (fun mid => ef_tokinit mid x_9 kd1 x_2 p5 ) (c_tokinit hw x_9 kd1 x_2 p5 A_14 q_11 (D_15 (Or.inr (w54 hw)) (ty := (.object "com/example/petrel/petrel/HoaLexer$Kind")) (by decide))) (w46 hw) (w43 hw) (by decide) (by decide)) (lenOf pd_24 rfl) (Nat.le_of_ble_eq_true rfl) rfl (Nat.le_of_ble_eq_true rfl) (Nat.le_of_ble_eq_true rfl) (fun _ q => q) (fun v h_20 sf_21 hq => ?_)
    obtain ⟨rfl, K_16, A_17, f_18, f_19⟩ := hq
    refine Go.more (sf' := [x_9]) ?_ (Nat.le_refl _) (Nat.le_refl _) (fun _ q => List.mem_append_right _ q)
    show G_law l Z n0 5 19 [x_9] h_20 81 #[.val (.int p0), .val (.int p1), .val (.int p2), .val (.int p3), .val (.int p4), .val (.int p5), .val (.int k1), .val (.int n1), .val (.int ca), .val (.int cb), .val (.int cd), .val (.int qq), .val (.ref x_2), .val (.ref kd1), .unset, .unset] [(.ref x_9)]
    refine Go.astore 83 #[.val (.int p0), .val (.int p1), .val (.int p2), .val (.int p3), .val (.int p4), .val (.int p5), .val (.int k1), .val (.int n1), .val (.int ca), .val (.int cb), .val (.int cd), .val (.int qq), .val (.ref x_2), .val (.ref kd1), .val (.ref x_9), .unset] at_81 rfl rfl rfl ?_
    refine Go.iload 85 at_83 rfl rfl ?_
    refine Go.bipush 87 (8 : Int32) at_85 rfl rfl ?_
    by_cases hc87 : k1 = (8 : Int32)
    · skip
      refine Go.icmpN 90 at_87 rfl (teq hc87).2 ?_
      refine Go.iload 92 at_90 rfl rfl ?_
      refine Go.iconst 93 (1 : Int32) at_92 rfl rfl ?_
      by_cases hc93 : n1 = (1 : Int32)
      · skip
        refine Go.icmpN 96 at_93 rfl (teq hc93).2 ?_
        refine Go.iload 98 at_96 rfl rfl ?_
        refine Go.iload 100 at_98 rfl rfl ?_
        by_cases hc100 : ca = qq
        · skip
          refine Go.icmpN 103 at_100 rfl (teq hc100).2 ?_
          refine Go.iconst 104 (1 : Int32) at_103 rfl rfl ?_
          refine Go.goto 108 at_104 (by decide) (by decide) ?_
          refine Go.istore 110 #[.val (.int p0), .val (.int p1), .val (.int p2), .val (.int p3), .val (.int p4), .val (.int p5), .val (.int k1), .val (.int n1), .val (.int ca), .val (.int cb), .val (.int cd), .val (.int qq), .val (.ref x_2), .val (.ref kd1), .val (.ref x_9), .val (.int (1 : Int32))] at_108 rfl rfl ?_
          refine Go.aload 112 at_110 rfl rfl rfl ?_
          refine Go.iload 114 at_112 rfl rfl ?_
          have X_22 : Ext h_1 h_20 := extK E_12 K_16 (allS (Nat.le_of_eq g_10) all0)
          have f_23 := S_4.ext X_22
          refine Go.callV (S := []) (a := x_9) 117 [(.int qq)] at_114 rfl rfl (w59 hw) (w60 hw) (w62 hw) (w61 hw) (fun _ q => notFace_of_selects (args := #[]) (mvT q (w62 hw))) (by decide) A_17 (call_of_go (R := _) (len := 3) (W := 0) (plainFor_of_name pn_6) (fun mid => ef_isp mid x_9 kd1 x_2 a8 (mtxt n1 ca cb cd) qq z fm ) (c_isp hw x_9 kd1 x_2 a8 (mtxt n1 ca cb cd) qq z fm f_18 f_19 f_23 (mtxt_len _ _ _ _) (mtxt_chp b_ca b_cb b_cd) Z8 SC hz SF rF UA UH UL) (w63 hw) (w43 hw) (by decide) (by decide)) (lenOf pd_8 rfl) (Nat.le_of_ble_eq_true rfl) rfl (Nat.le_of_ble_eq_true rfl) (Nat.le_of_ble_eq_true rfl) (fun _ q => nomatch q) (fun v h_24 sf_25 hq => ?_)
          obtain ⟨rfl, r, rfl, hr0⟩ := hq
          refine Go.more (sf' := [x_9]) ?_ (Nat.le_refl _) (Nat.le_refl _) (fun _ q => List.mem_append_right _ q)
          show G_law l Z n0 5 19 [x_9] h_20 117 #[.val (.int p0), .val (.int p1), .val (.int p2), .val (.int p3), .val (.int p4), .val (.int p5), .val (.int k1), .val (.int n1), .val (.int ca), .val (.int cb), .val (.int cd), .val (.int qq), .val (.ref x_2), .val (.ref kd1), .val (.ref x_9), .val (.int (1 : Int32))] [(.int r)]
          have k8 : kd1 = a8 ↔ k1 = 8 := by rw [e_kd1]; have z_ := kf_eq HO b_k1 (k := 8) (by unfold inK; simp); rw [show kf a0 a1 a2 a3 a4 a5 a6 a7 a8 a9 8 = a8 from by simp [kf]] at z_; exact z_
          rw [k8, mtxt_eq b_n1] at hr0
          refine Go.iload 119 at_117 rfl rfl ?_
          refine Go.icmpN 122 at_119 rfl (teq (pick hr0 ⟨hc87, hc93, hc100⟩)).2 ?_
          refine Go.iconst 123 (1 : Int32) at_122 rfl rfl ?_
          refine Go.goto 127 at_123 (by decide) (by decide) ?_
          exact Go.retN (1 : Int32) at_127 rfl (t := .boolean) (by simp) rfl (sf' := []) (rfl) (fun _ q => nomatch q) (Nat.le_of_ble_eq_true rfl) (Nat.le_of_ble_eq_true rfl)
        · skip
          refine Go.icmpY 107 at_100 (by decide) (by decide) (feq hc100).2 ?_
          refine Go.iconst 108 (0 : Int32) at_107 rfl rfl ?_
          refine Go.istore 110 #[.val (.int p0), .val (.int p1), .val (.int p2), .val (.int p3), .val (.int p4), .val (.int p5), .val (.int k1), .val (.int n1), .val (.int ca), .val (.int cb), .val (.int cd), .val (.int qq), .val (.ref x_2), .val (.ref kd1), .val (.ref x_9), .val (.int (0 : Int32))] at_108 rfl rfl ?_
          refine Go.aload 112 at_110 rfl rfl rfl ?_
          refine Go.iload 114 at_112 rfl rfl ?_
          have X_26 : Ext h_1 h_20 := extK E_12 K_16 (allS (Nat.le_of_eq g_10) all0)
          have f_27 := S_4.ext X_26
          refine Go.callV (S := []) (a := x_9) 117 [(.int qq)] at_114 rfl rfl (w59 hw) (w60 hw) (w62 hw) (w61 hw) (fun _ q => notFace_of_selects (args := #[]) (mvT q (w62 hw))) (by decide) A_17 (call_of_go (R := _) (len := 3) (W := 0) (plainFor_of_name pn_6) (fun mid => ef_isp mid x_9 kd1 x_2 a8 (mtxt n1 ca cb cd) qq z fm ) (c_isp hw x_9 kd1 x_2 a8 (mtxt n1 ca cb cd) qq z fm f_18 f_19 f_27 (mtxt_len _ _ _ _) (mtxt_chp b_ca b_cb b_cd) Z8 SC hz SF rF UA UH UL) (w63 hw) (w43 hw) (by decide) (by decide)) (lenOf pd_8 rfl) (Nat.le_of_ble_eq_true rfl) rfl (Nat.le_of_ble_eq_true rfl) (Nat.le_of_ble_eq_true rfl) (fun _ q => nomatch q) (fun v h_28 sf_29 hq => ?_)
          obtain ⟨rfl, r, rfl, hr0⟩ := hq
          refine Go.more (sf' := [x_9]) ?_ (Nat.le_refl _) (Nat.le_refl _) (fun _ q => List.mem_append_right _ q)
          show G_law l Z n0 5 19 [x_9] h_20 117 #[.val (.int p0), .val (.int p1), .val (.int p2), .val (.int p3), .val (.int p4), .val (.int p5), .val (.int k1), .val (.int n1), .val (.int ca), .val (.int cb), .val (.int cd), .val (.int qq), .val (.ref x_2), .val (.ref kd1), .val (.ref x_9), .val (.int (0 : Int32))] [(.int r)]
          have k8 : kd1 = a8 ↔ k1 = 8 := by rw [e_kd1]; have z_ := kf_eq HO b_k1 (k := 8) (by unfold inK; simp); rw [show kf a0 a1 a2 a3 a4 a5 a6 a7 a8 a9 8 = a8 from by simp [kf]] at z_; exact z_
          rw [k8, mtxt_eq b_n1] at hr0
          refine Go.iload 119 at_117 rfl rfl ?_
          refine Go.icmpN 122 at_119 rfl (teq (pick0 hr0 (fun q => hc100 q.2.2))).2 ?_
          refine Go.iconst 123 (1 : Int32) at_122 rfl rfl ?_
          refine Go.goto 127 at_123 (by decide) (by decide) ?_
          exact Go.retN (1 : Int32) at_127 rfl (t := .boolean) (by simp) rfl (sf' := []) (rfl) (fun _ q => nomatch q) (Nat.le_of_ble_eq_true rfl) (Nat.le_of_ble_eq_true rfl)
      · skip
        refine Go.icmpY 107 at_93 (by decide) (by decide) (feq hc93).2 ?_
        refine Go.iconst 108 (0 : Int32) at_107 rfl rfl ?_
        refine Go.istore 110 #[.val (.int p0), .val (.int p1), .val (.int p2), .val (.int p3), .val (.int p4), .val (.int p5), .val (.int k1), .val (.int n1), .val (.int ca), .val (.int cb), .val (.int cd), .val (.int qq), .val (.ref x_2), .val (.ref kd1), .val (.ref x_9), .val (.int (0 : Int32))] at_108 rfl rfl ?_
        refine Go.aload 112 at_110 rfl rfl rfl ?_
        refine Go.iload 114 at_112 rfl rfl ?_
        have X_30 : Ext h_1 h_20 := extK E_12 K_16 (allS (Nat.le_of_eq g_10) all0)
        have f_31 := S_4.ext X_30
        refine Go.callV (S := []) (a := x_9) 117 [(.int qq)] at_114 rfl rfl (w59 hw) (w60 hw) (w62 hw) (w61 hw) (fun _ q => notFace_of_selects (args := #[]) (mvT q (w62 hw))) (by decide) A_17 (call_of_go (R := _) (len := 3) (W := 0) (plainFor_of_name pn_6) (fun mid => ef_isp mid x_9 kd1 x_2 a8 (mtxt n1 ca cb cd) qq z fm ) (c_isp hw x_9 kd1 x_2 a8 (mtxt n1 ca cb cd) qq z fm f_18 f_19 f_31 (mtxt_len _ _ _ _) (mtxt_chp b_ca b_cb b_cd) Z8 SC hz SF rF UA UH UL) (w63 hw) (w43 hw) (by decide) (by decide)) (lenOf pd_8 rfl) (Nat.le_of_ble_eq_true rfl) rfl (Nat.le_of_ble_eq_true rfl) (Nat.le_of_ble_eq_true rfl) (fun _ q => nomatch q) (fun v h_32 sf_33 hq => ?_)
        obtain ⟨rfl, r, rfl, hr0⟩ := hq
        refine Go.more (sf' := [x_9]) ?_ (Nat.le_refl _) (Nat.le_refl _) (fun _ q => List.mem_append_right _ q)
        show G_law l Z n0 5 19 [x_9] h_20 117 #[.val (.int p0), .val (.int p1), .val (.int p2), .val (.int p3), .val (.int p4), .val (.int p5), .val (.int k1), .val (.int n1), .val (.int ca), .val (.int cb), .val (.int cd), .val (.int qq), .val (.ref x_2), .val (.ref kd1), .val (.ref x_9), .val (.int (0 : Int32))] [(.int r)]
        have k8 : kd1 = a8 ↔ k1 = 8 := by rw [e_kd1]; have z_ := kf_eq HO b_k1 (k := 8) (by unfold inK; simp); rw [show kf a0 a1 a2 a3 a4 a5 a6 a7 a8 a9 8 = a8 from by simp [kf]] at z_; exact z_
        rw [k8, mtxt_eq b_n1] at hr0
        refine Go.iload 119 at_117 rfl rfl ?_
        refine Go.icmpN 122 at_119 rfl (teq (pick0 hr0 (fun q => hc93 q.2.1))).2 ?_
        refine Go.iconst 123 (1 : Int32) at_122 rfl rfl ?_
        refine Go.goto 127 at_123 (by decide) (by decide) ?_
        exact Go.retN (1 : Int32) at_127 rfl (t := .boolean) (by simp) rfl (sf' := []) (rfl) (fun _ q => nomatch q) (Nat.le_of_ble_eq_true rfl) (Nat.le_of_ble_eq_true rfl)
    · skip
      refine Go.icmpY 107 at_87 (by decide) (by decide) (feq hc87).2 ?_
      refine Go.iconst 108 (0 : Int32) at_107 rfl rfl ?_
      refine Go.istore 110 #[.val (.int p0), .val (.int p1), .val (.int p2), .val (.int p3), .val (.int p4), .val (.int p5), .val (.int k1), .val (.int n1), .val (.int ca), .val (.int cb), .val (.int cd), .val (.int qq), .val (.ref x_2), .val (.ref kd1), .val (.ref x_9), .val (.int (0 : Int32))] at_108 rfl rfl ?_
      refine Go.aload 112 at_110 rfl rfl rfl ?_
      refine Go.iload 114 at_112 rfl rfl ?_
      have X_34 : Ext h_1 h_20 := extK E_12 K_16 (allS (Nat.le_of_eq g_10) all0)
      have f_35 := S_4.ext X_34
      refine Go.callV (S := []) (a := x_9) 117 [(.int qq)] at_114 rfl rfl (w59 hw) (w60 hw) (w62 hw) (w61 hw) (fun _ q => notFace_of_selects (args := #[]) (mvT q (w62 hw))) (by decide) A_17 (call_of_go (R := _) (len := 3) (W := 0) (plainFor_of_name pn_6) (fun mid => ef_isp mid x_9 kd1 x_2 a8 (mtxt n1 ca cb cd) qq z fm ) (c_isp hw x_9 kd1 x_2 a8 (mtxt n1 ca cb cd) qq z fm f_18 f_19 f_35 (mtxt_len _ _ _ _) (mtxt_chp b_ca b_cb b_cd) Z8 SC hz SF rF UA UH UL) (w63 hw) (w43 hw) (by decide) (by decide)) (lenOf pd_8 rfl) (Nat.le_of_ble_eq_true rfl) rfl (Nat.le_of_ble_eq_true rfl) (Nat.le_of_ble_eq_true rfl) (fun _ q => nomatch q) (fun v h_36 sf_37 hq => ?_)
      obtain ⟨rfl, r, rfl, hr0⟩ := hq
      refine Go.more (sf' := [x_9]) ?_ (Nat.le_refl _) (Nat.le_refl _) (fun _ q => List.mem_append_right _ q)
      show G_law l Z n0 5 19 [x_9] h_20 117 #[.val (.int p0), .val (.int p1), .val (.int p2), .val (.int p3), .val (.int p4), .val (.int p5), .val (.int k1), .val (.int n1), .val (.int ca), .val (.int cb), .val (.int cd), .val (.int qq), .val (.ref x_2), .val (.ref kd1), .val (.ref x_9), .val (.int (0 : Int32))] [(.int r)]
      have k8 : kd1 = a8 ↔ k1 = 8 := by rw [e_kd1]; have z_ := kf_eq HO b_k1 (k := 8) (by unfold inK; simp); rw [show kf a0 a1 a2 a3 a4 a5 a6 a7 a8 a9 8 = a8 from by simp [kf]] at z_; exact z_
      rw [k8, mtxt_eq b_n1] at hr0
      refine Go.iload 119 at_117 rfl rfl ?_
      refine Go.icmpN 122 at_119 rfl (teq (pick0 hr0 (fun q => hc87 q.1))).2 ?_
      refine Go.iconst 123 (1 : Int32) at_122 rfl rfl ?_
      refine Go.goto 127 at_123 (by decide) (by decide) ?_
      exact Go.retN (1 : Int32) at_127 rfl (t := .boolean) (by simp) rfl (sf' := []) (rfl) (fun _ q => nomatch q) (Nat.le_of_ble_eq_true rfl) (Nat.le_of_ble_eq_true rfl)
  refine Go.iload 31 at_29 rfl rfl ?_
  refine Go.iconst 32 (1 : Int32) at_31 rfl rfl ?_
  refine Go.iand 33 at_32 rfl ?_
  by_cases hc33 : (p4 &&& (1 : Int32)) = (0 : Int32)
  · skip
    refine Go.ifY 41 at_33 (by decide) (by decide) (teq hc33).1 ?_
    refine Go.iload 43 at_41 rfl rfl ?_
    refine Go.iconst 44 (1 : Int32) at_43 rfl rfl ?_
    refine Go.iushr 45 at_44 rfl ?_
    refine Go.i2c 46 at_45 rfl ?_
    exact cut46 _
  · skip
    refine Go.ifN 36 at_33 rfl (feq hc33).1 ?_
    refine Go.iload 38 at_36 rfl rfl ?_
    refine Go.goto 46 at_38 (by decide) (by decide) ?_
    exact cut46 _
set_option maxRecDepth 65536 in
set_option maxHeartbeats 40000000 in
theorem comes_1 {Post : Tables → Env → Array Value → State → Outcome → State → Prop} (hpost : ∀ tb e args s v u, (limb_1_1.after args s (.returned v) u = true ∧ limb_1_2.after args s (.returned v) u = true ∧ True) → ReturnedEndW s (.returned v) u (Jvm.fieldLocs frame_1_writes args s ++ Jvm.arrayLocs frame_1_arrays args s ++ Jvm.staticLocs frame_1_statics s) 24 1152 → Post tb e args s (.returned v) u) :
    ArmFor flags0 classFile x code maxLocals ret World_1 tables_1 room_1 Calls_1 rest_1 Pre_1 Post := by
  intro l hfl _ _ p e ha hc hk s m args below hf hA hF happ hP
  obtain ⟨hcalls, hrest, hpre⟩ := hP
  obtain ⟨-, -, -, hnamed, -, -, -, hat⟩ := (Spec.applies_iff hf).mp happ
  obtain ⟨hg, hn⟩ := and_e (Cond.before_iff.mp (show (Jvm.Cond.and given_1 narrow_1).before args s = true from hpre))
  obtain ⟨g0, k1⟩ := and_e hg
  obtain ⟨g1, k2⟩ := and_e k1
  obtain ⟨g2, k3⟩ := and_e k2
  obtain ⟨g3, k4⟩ := and_e k3
  obtain ⟨g4, k5⟩ := and_e k4
  obtain ⟨g5, k6⟩ := and_e k5
  have g6 := k6
  obtain ⟨w0, w1, w2, w3, w4, w5, rfl⟩ : ∃ w0 w1 w2 w3 w4 w5 : Value, args = #[w0, w1, w2, w3, w4, w5] := by
    have hs : args.size = 6 := by simpa [Cond.value, given_1] using g0
    obtain ⟨L⟩ := args
    match L, hs with
    | [w0, w1, w2, w3, w4, w5], _ => exact ⟨w0, w1, w2, w3, w4, w5, rfl⟩
  have hw : HW _ s := fun d (hd : d ∈ tables_1) => atoms_spec (ws := Jvm.Cond.code x code maxLocals ret :: tables_1) hat d (List.mem_cons_of_mem _ hd)
  obtain ⟨hsets, hown0⟩ := atoms_of _ (rest_1_c_eq ▸ (show rest_1_c.before _ s = true from hrest))
  obtain ⟨p0, ea0⟩ := is_v g1
  obtain rfl : w0 = (.int p0) := Option.some.inj ea0
  obtain ⟨p1, ea1⟩ := is_v g2
  obtain rfl : w1 = (.int p1) := Option.some.inj ea1
  obtain ⟨p2, ea2⟩ := is_v g3
  obtain rfl : w2 = (.int p2) := Option.some.inj ea2
  obtain ⟨p3, ea3⟩ := is_v g4
  obtain rfl : w3 = (.int p3) := Option.some.inj ea3
  obtain ⟨p4, ea4⟩ := is_v g5
  obtain rfl : w4 = (.int p4) := Option.some.inj ea4
  obtain ⟨p5, ea5⟩ := is_v g6
  obtain rfl : w5 = (.int p5) := Option.some.inj ea5
  obtain ⟨z, ez⟩ := is_v (Cond.before_iff.mp (hsets _ (List.mem_of_getElem? (i := 1) rfl)))
  have SC : Sta s s.heap "java/lang/String" "COMPACT_STRINGS" "Z" (.int z) := Sta.start ez (Or.inl (hsets _ (List.mem_of_getElem? (i := 0) rfl)))
  have hz : ¬ (z = (0 : Int32)) := gotF (Cond.eq_ints ez (Term.int_eval (0))) (not_v (Cond.before_iff.mp (hsets _ (List.mem_of_getElem? (i := 2) rfl))))
  obtain ⟨r0, hn1⟩ := and_e hn
  obtain ⟨r1, hn2⟩ := and_e hn1
  obtain ⟨r2, hn3⟩ := and_e hn2
  obtain ⟨r3, hn4⟩ := and_e hn3
  obtain ⟨r4, hn5⟩ := and_e hn4
  obtain ⟨r5, hn6⟩ := and_e hn5
  obtain ⟨r6, hn7⟩ := and_e hn6
  obtain ⟨r7, hn8⟩ := and_e hn7
  obtain ⟨r8, hn9⟩ := and_e hn8
  obtain ⟨r9, hn10⟩ := and_e hn9
  obtain ⟨r10, hn11⟩ := and_e hn10
  obtain ⟨r11, hn12⟩ := and_e hn11
  obtain ⟨r12, hn13⟩ := and_e hn12
  obtain ⟨r13, hn14⟩ := and_e hn13
  obtain ⟨r14, hn15⟩ := and_e hn14
  obtain ⟨r15, hn16⟩ := and_e hn15
  obtain ⟨r16, hn17⟩ := and_e hn16
  obtain ⟨r17, hn18⟩ := and_e hn17
  obtain ⟨r18, hn19⟩ := and_e hn18
  have r19 := hn19
  obtain ⟨s_HEADER_NAME, ev_s_HEADER_NAME⟩ := exa_v r0
  have X_s_HEADER_NAME : Exa s s.heap s_HEADER_NAME "com/example/petrel/petrel/HoaLexer$Kind" := Exa.start ev_s_HEADER_NAME r0
  have Z_s_HEADER_NAME : Sta s s.heap "com/example/petrel/petrel/HoaLexer$Kind" "HEADER_NAME" "Lcom/example/petrel/petrel/HoaLexer$Kind;" (.ref s_HEADER_NAME) := Sta.start ev_s_HEADER_NAME (Or.inr ⟨(w39 hw), (w40 hw)⟩)
  obtain ⟨s_PUNCTUATION, ev_s_PUNCTUATION⟩ := exa_v r1
  have X_s_PUNCTUATION : Exa s s.heap s_PUNCTUATION "com/example/petrel/petrel/HoaLexer$Kind" := Exa.start ev_s_PUNCTUATION r1
  have Z_s_PUNCTUATION : Sta s s.heap "com/example/petrel/petrel/HoaLexer$Kind" "PUNCTUATION" "Lcom/example/petrel/petrel/HoaLexer$Kind;" (.ref s_PUNCTUATION) := Sta.start ev_s_PUNCTUATION (Or.inr ⟨(w39 hw), (w65 hw)⟩)
  obtain ⟨s_ALIAS, ev_s_ALIAS⟩ := exa_v r4
  have X_s_ALIAS : Exa s s.heap s_ALIAS "com/example/petrel/petrel/HoaLexer$Kind" := Exa.start ev_s_ALIAS r4
  have Z_s_ALIAS : Sta s s.heap "com/example/petrel/petrel/HoaLexer$Kind" "ALIAS" "Lcom/example/petrel/petrel/HoaLexer$Kind;" (.ref s_ALIAS) := Sta.start ev_s_ALIAS (Or.inr ⟨(w39 hw), (w67 hw)⟩)
  obtain ⟨s_STRING, ev_s_STRING⟩ := exa_v r6
  have X_s_STRING : Exa s s.heap s_STRING "com/example/petrel/petrel/HoaLexer$Kind" := Exa.start ev_s_STRING r6
  have Z_s_STRING : Sta s s.heap "com/example/petrel/petrel/HoaLexer$Kind" "STRING" "Lcom/example/petrel/petrel/HoaLexer$Kind;" (.ref s_STRING) := Sta.start ev_s_STRING (Or.inr ⟨(w39 hw), (w69 hw)⟩)
  obtain ⟨s_BODY, ev_s_BODY⟩ := exa_v r8
  have X_s_BODY : Exa s s.heap s_BODY "com/example/petrel/petrel/HoaLexer$Kind" := Exa.start ev_s_BODY r8
  have Z_s_BODY : Sta s s.heap "com/example/petrel/petrel/HoaLexer$Kind" "BODY" "Lcom/example/petrel/petrel/HoaLexer$Kind;" (.ref s_BODY) := Sta.start ev_s_BODY (Or.inr ⟨(w39 hw), (w101 hw)⟩)
  obtain ⟨s_INTEGER, ev_s_INTEGER⟩ := exa_v r10
  have X_s_INTEGER : Exa s s.heap s_INTEGER "com/example/petrel/petrel/HoaLexer$Kind" := Exa.start ev_s_INTEGER r10
  have Z_s_INTEGER : Sta s s.heap "com/example/petrel/petrel/HoaLexer$Kind" "INTEGER" "Lcom/example/petrel/petrel/HoaLexer$Kind;" (.ref s_INTEGER) := Sta.start ev_s_INTEGER (Or.inr ⟨(w39 hw), (w106 hw)⟩)
  obtain ⟨s_IDENTIFIER, ev_s_IDENTIFIER⟩ := exa_v r12
  have X_s_IDENTIFIER : Exa s s.heap s_IDENTIFIER "com/example/petrel/petrel/HoaLexer$Kind" := Exa.start ev_s_IDENTIFIER r12
  have Z_s_IDENTIFIER : Sta s s.heap "com/example/petrel/petrel/HoaLexer$Kind" "IDENTIFIER" "Lcom/example/petrel/petrel/HoaLexer$Kind;" (.ref s_IDENTIFIER) := Sta.start ev_s_IDENTIFIER (Or.inr ⟨(w39 hw), (w125 hw)⟩)
  obtain ⟨s_END, ev_s_END⟩ := exa_v r14
  have X_s_END : Exa s s.heap s_END "com/example/petrel/petrel/HoaLexer$Kind" := Exa.start ev_s_END r14
  have Z_s_END : Sta s s.heap "com/example/petrel/petrel/HoaLexer$Kind" "END" "Lcom/example/petrel/petrel/HoaLexer$Kind;" (.ref s_END) := Sta.start ev_s_END (Or.inr ⟨(w39 hw), (w127 hw)⟩)
  obtain ⟨s_ABORT, ev_s_ABORT⟩ := exa_v r16
  have X_s_ABORT : Exa s s.heap s_ABORT "com/example/petrel/petrel/HoaLexer$Kind" := Exa.start ev_s_ABORT r16
  have Z_s_ABORT : Sta s s.heap "com/example/petrel/petrel/HoaLexer$Kind" "ABORT" "Lcom/example/petrel/petrel/HoaLexer$Kind;" (.ref s_ABORT) := Sta.start ev_s_ABORT (Or.inr ⟨(w39 hw), (w129 hw)⟩)
  obtain ⟨s_END_OF_FILE, ev_s_END_OF_FILE⟩ := exa_v r18
  have X_s_END_OF_FILE : Exa s s.heap s_END_OF_FILE "com/example/petrel/petrel/HoaLexer$Kind" := Exa.start ev_s_END_OF_FILE r18
  have Z_s_END_OF_FILE : Sta s s.heap "com/example/petrel/petrel/HoaLexer$Kind" "END_OF_FILE" "Lcom/example/petrel/petrel/HoaLexer$Kind;" (.ref s_END_OF_FILE) := Sta.start ev_s_END_OF_FILE (Or.inr ⟨(w39 hw), (w131 hw)⟩)
  have F_s_HEADER_NAME_ordinal : Fld s s.heap s_HEADER_NAME "java/lang/Enum" "ordinal" "I" (.int (0 : Int32)) := fld_int r2 ev_s_HEADER_NAME
  have F_s_PUNCTUATION_ordinal : Fld s s.heap s_PUNCTUATION "java/lang/Enum" "ordinal" "I" (.int (8 : Int32)) := fld_int r3 ev_s_PUNCTUATION
  have F_s_ALIAS_ordinal : Fld s s.heap s_ALIAS "java/lang/Enum" "ordinal" "I" (.int (4 : Int32)) := fld_int r5 ev_s_ALIAS
  have F_s_STRING_ordinal : Fld s s.heap s_STRING "java/lang/Enum" "ordinal" "I" (.int (3 : Int32)) := fld_int r7 ev_s_STRING
  have F_s_BODY_ordinal : Fld s s.heap s_BODY "java/lang/Enum" "ordinal" "I" (.int (5 : Int32)) := fld_int r9 ev_s_BODY
  have F_s_INTEGER_ordinal : Fld s s.heap s_INTEGER "java/lang/Enum" "ordinal" "I" (.int (2 : Int32)) := fld_int r11 ev_s_INTEGER
  have F_s_IDENTIFIER_ordinal : Fld s s.heap s_IDENTIFIER "java/lang/Enum" "ordinal" "I" (.int (1 : Int32)) := fld_int r13 ev_s_IDENTIFIER
  have F_s_END_ordinal : Fld s s.heap s_END "java/lang/Enum" "ordinal" "I" (.int (6 : Int32)) := fld_int r15 ev_s_END
  have F_s_ABORT_ordinal : Fld s s.heap s_ABORT "java/lang/Enum" "ordinal" "I" (.int (7 : Int32)) := fld_int r17 ev_s_ABORT
  have F_s_END_OF_FILE_ordinal : Fld s s.heap s_END_OF_FILE "java/lang/Enum" "ordinal" "I" (.int (9 : Int32)) := fld_int r19 ev_s_END_OF_FILE
  have UA := sta_int (Cond.before_iff.mp (hsets _ (List.mem_of_getElem? (i := 12) rfl))) (hsets _ (List.mem_of_getElem? (i := 11) rfl))
  have UH := sta_int (Cond.before_iff.mp (hsets _ (List.mem_of_getElem? (i := 15) rfl))) (hsets _ (List.mem_of_getElem? (i := 14) rfl))
  have UL := sta_int (Cond.before_iff.mp (hsets _ (List.mem_of_getElem? (i := 18) rfl))) (hsets _ (List.mem_of_getElem? (i := 17) rfl))
  obtain ⟨fm, ef, rF⟩ := isR_v (Cond.before_iff.mp (hsets _ (List.mem_of_getElem? (i := 8) rfl)))
  have SF : Sta s s.heap "jdk/internal/util/Preconditions" "SIOOBE_FORMATTER" "Ljava/util/function/BiFunction;" fm := Sta.start ef (Or.inl (hsets _ (List.mem_of_getElem? (i := 7) rfl)))
  have hCH : CHv s consts_1 s.vm s.heap := CHv.start (ew hw) (fun p hp => hcalls.1 p hp) (hsets _ (List.mem_of_getElem? (i := 2) rfl)) (w24 hw) (w6 hw)

  obtain ⟨n, o, h1, h2, h3, _, L, _, rfl, rfl, -, N, -, -, hq⟩ := met_of_go (md := some consts_1) (desc := "(IIIIII)Z") (ws := tables_1) (plainFor_of_name pn_5) (fun m => ef_law m p0 p1 p2 p3 p4 p5) (law_go (l := l) (Z := s) (n0 := s.heap.size) (h0 := s.heap) hw p0 p1 p2 p3 p4 p5 z fm SC hz SF rF UA UH UL s_HEADER_NAME s_IDENTIFIER s_INTEGER s_STRING s_ALIAS s_BODY s_END s_ABORT s_PUNCTUATION s_END_OF_FILE Z_s_HEADER_NAME Z_s_IDENTIFIER Z_s_INTEGER Z_s_STRING Z_s_ALIAS Z_s_BODY Z_s_END Z_s_ABORT Z_s_PUNCTUATION Z_s_END_OF_FILE (fun _ q => kf_ord F_s_HEADER_NAME_ordinal F_s_IDENTIFIER_ordinal F_s_INTEGER_ordinal F_s_STRING_ordinal F_s_ALIAS_ordinal F_s_BODY_ordinal F_s_END_ordinal F_s_ABORT_ordinal F_s_PUNCTUATION_ordinal F_s_END_OF_FILE_ordinal q)) p e ha hc hk s m _ below hf ((Spec.applies_iff_loose hf).mp happ).1 ⟨rfl, State.Warmed39.refl s, rfl, Old.start s, ⟨_, (State.WarmedH.refl s).since _, Nat.le_refl _⟩, ⟨_, ew hw⟩, CHr.refl hCH, fun x hx => nomatch hx⟩ trivial
  refine ⟨n, _, h1, h2, h3, hpost _ _ _ _ _ _ ⟨Cond.after_iff.mpr rfl, Cond.after_iff.mpr (eq_i res_at (Term.int_eval (1)) rfl), trivial⟩ ⟨hq.1, hq.2.1, hq.2.2.1, (hq.2.2.2.sift fun y hy => Or.inr (N y hy)).mono (by decide) (by decide)⟩⟩
theorem main_1_1 : Claimed_1_1 := comes_1 fun _ _ _ _ _ _ h hF => ⟨h.1, hF⟩
theorem main_1_2 : Claimed_1_2 := comes_1 fun _ _ _ _ _ _ h hF => ⟨h.2.1, hF⟩
end Jvm.Pilot.@@N@@
namespace Jvm.Pilot.@@N@@
open Jvm Jvm.ClassFile Sem Op Lib Jvm.Free Jvm.Stand Jvm.Pilot.@@N@@.Jvm.D
/-! MADE BY PROGRAM (witnessworld.py) out of the Statement's table words and the real class files: 21 classes; the members and pool entries that the words name. The judged class is class 1, her method 1. -/
namespace start1
open Jvm.ClassFile
def u (s : String) : CpInfo := .utf8 (stringToUtf16 s)
/-- a pool by its gaps: so many unusable entries, then the entry; so many at the end -/
def gap : Nat → List CpInfo → List CpInfo
  | 0, r => r
  | n + 1, r => .unusable :: gap n r
def poolList (es : List (Nat × CpInfo)) (last : Nat) : List CpInfo := es.foldr (fun e r => gap e.1 (e.2 :: r)) (gap last [])
def pool (es : List (Nat × CpInfo)) (last : Nat) : Array CpInfo := ⟨poolList es last⟩
def fileOf (pool : Array CpInfo) (this : Nat) (attrs : Array Attribute := #[]) (ms : Array MethodInfo := #[]) (fl : Nat := 33) (sup : Nat := 0) (ifs : Array Nat := #[]) (fds : Array FieldInfo := #[]) : ClassFile where
  minorVersion := 0
  majorVersion := 65
  constantPool := pool
  accessFlags := fl
  thisClass := this
  superClass := sup
  interfaces := ifs
  fields := fds
  methods := ms
  attributes := attrs
def plain (name : String) (sup : Option ClassId) : Class where
  name := name
  kind := .ordinary
  loader := none
  accessFlags := 33
  super := sup
  interfaces := #[]
  cf := none
  fields := #[]
  methods := #[]
  instanceTypes := #[]
  staticTypes := #[]
  resolved := #[]
  callSites := []
  init := .initialized
  statics := none
  mirror := none

def pool0 : Array CpInfo := pool [(5, u "<init>"), (0, u "()V"), (1, .class_ 10), (1, u "java/lang/Object")] 113

def k0c0 : Code := { maxStack := 0, maxLocals := 1, code := object_method_1_code, exceptionTable := #[], attributes := #[] }
def k0m0 : Method := { name := "<init>", desc := "()V", sig := { parameters := [], returnType := none }, accessFlags := 1, code := some k0c0 }
/-- java/lang/Object -/
def k0 : Class := { plain "java/lang/Object" none with
  accessFlags := 33
  interfaces := #[]
  cf := some (fileOf pool0 8 #[] #[{ accessFlags := 1, nameIndex := 5, descriptorIndex := 6, attributes := #[] }] 33 0 #[] #[])
  fields := #[]
  methods := #[k0m0]
  instanceTypes := #[]
  staticTypes := #[]
  resolved := Array.replicate 124 none
  statics := none }

def pool1 : Array CpInfo := pool [(2, .class_ 4), (1, u "java/lang/Object"), (0, u "<init>"), (0, u "()V"), (0, .integer 2147483647), (0, .methodref 9 10), (0, .class_ 11), (0, .nameAndType 12 13), (0, u "com/example/petrel/petrel/TokenIsPunctuationPinLaw"), (0, u "makeText"), (0, u "(ICCC)Ljava/lang/String;"), (0, .methodref 9 15), (0, .nameAndType 16 17), (0, u "kindOf"), (0, u "(I)Lcom/example/petrel/petrel/HoaLexer$Kind;"), (0, .class_ 19), (0, u "com/example/petrel/petrel/HoaLexer$Token"), (0, .methodref 18 21), (0, .nameAndType 5 22), (0, u "(Lcom/example/petrel/petrel/HoaLexer$Kind;Ljava/lang/String;I)V"), (0, .methodref 18 24), (0, .nameAndType 25 26), (0, u "isPunctuation"), (0, u "(C)Z"), (0, .string 28), (0, u ""), (0, .methodref 30 31), (0, .class_ 32), (0, .nameAndType 33 34), (0, u "java/lang/String"), (0, u "valueOf"), (0, u "(C)Ljava/lang/String;"), (0, .methodref 30 36), (0, .nameAndType 5 37), (0, u "([C)V"), (0, .fieldref 39 40), (0, .class_ 41), (0, .nameAndType 42 43), (0, u "com/example/petrel/petrel/HoaLexer$Kind"), (0, u "HEADER_NAME"), (0, u "Lcom/example/petrel/petrel/HoaLexer$Kind;"), (0, .fieldref 39 45), (0, .nameAndType 46 43), (0, u "IDENTIFIER"), (0, .fieldref 39 48), (0, .nameAndType 49 43), (0, u "INTEGER"), (0, .fieldref 39 51), (0, .nameAndType 52 43), (0, u "STRING"), (0, .fieldref 39 54), (0, .nameAndType 55 43), (0, u "ALIAS"), (0, .fieldref 39 57), (0, .nameAndType 58 43), (0, u "BODY"), (0, .fieldref 39 60), (0, .nameAndType 61 43), (0, u "END"), (0, .fieldref 39 63), (0, .nameAndType 64 43), (0, u "ABORT"), (0, .fieldref 39 66), (0, .nameAndType 67 43), (0, u "PUNCTUATION"), (0, .fieldref 39 69), (0, .nameAndType 70 43), (0, u "END_OF_FILE"), (2, u "law"), (0, u "(IIIIII)Z")] 8

def k1m0 : Method := { name := "<init>", desc := "()V", sig := { parameters := [], returnType := none }, accessFlags := 1, code := none }
def k1c1 : Code := { maxStack := 5, maxLocals := 16, code := code, exceptionTable := #[], attributes := #[] }
def k1m1 : Method := { name := "law", desc := "(IIIIII)Z", sig := { parameters := [.int, .int, .int, .int, .int, .int], returnType := some .boolean }, accessFlags := 9, code := some k1c1 }
def k1c2 : Code := { maxStack := 6, maxLocals := 4, code := method_3_code, exceptionTable := #[], attributes := #[] }
def k1m2 : Method := { name := "makeText", desc := "(ICCC)Ljava/lang/String;", sig := { parameters := [.int, .char, .char, .char], returnType := some (.object "java/lang/String") }, accessFlags := 10, code := some k1c2 }
def k1c3 : Code := { maxStack := 2, maxLocals := 1, code := method_4_code, exceptionTable := #[], attributes := #[] }
def k1m3 : Method := { name := "kindOf", desc := "(I)Lcom/example/petrel/petrel/HoaLexer$Kind;", sig := { parameters := [.int], returnType := some (.object "com/example/petrel/petrel/HoaLexer$Kind") }, accessFlags := 10, code := some k1c3 }
/-- com/example/petrel/petrel/TokenIsPunctuationPinLaw -/
def k1 : Class := { plain "com/example/petrel/petrel/TokenIsPunctuationPinLaw" (some 0) with
  accessFlags := 49
  interfaces := #[]
  cf := some (fileOf pool1 9 #[] #[{ accessFlags := 1, nameIndex := 5, descriptorIndex := 6, attributes := #[] }, { accessFlags := 9, nameIndex := 73, descriptorIndex := 74, attributes := #[] }, { accessFlags := 10, nameIndex := 12, descriptorIndex := 13, attributes := #[] }, { accessFlags := 10, nameIndex := 16, descriptorIndex := 17, attributes := #[] }] 49 2 #[] #[])
  fields := #[]
  methods := #[k1m0, k1m1, k1m2, k1m3]
  instanceTypes := #[]
  staticTypes := #[]
  resolved := Array.replicate 83 none
  statics := none }

def pool2 : Array CpInfo := pool [(1, .class_ 2), (0, u "java/io/Serializable"), (0, .class_ 4), (0, u "java/lang/Object")] 2

/-- java/io/Serializable -/
def k2 : Class := { plain "java/io/Serializable" (some 0) with
  accessFlags := 1537
  interfaces := #[]
  cf := some (fileOf pool2 1 #[] #[] 1537 3 #[] #[])
  fields := #[]
  methods := #[]
  instanceTypes := #[]
  staticTypes := #[]
  resolved := Array.replicate 7 none
  statics := none }

def pool3 : Array CpInfo := pool [(1, .class_ 2), (0, u "java/lang/Comparable"), (0, .class_ 4), (0, u "java/lang/Object")] 7

/-- java/lang/Comparable -/
def k3 : Class := { plain "java/lang/Comparable" (some 0) with
  accessFlags := 1537
  interfaces := #[]
  cf := some (fileOf pool3 1 #[] #[] 1537 3 #[] #[])
  fields := #[]
  methods := #[]
  instanceTypes := #[]
  staticTypes := #[]
  resolved := Array.replicate 12 none
  statics := none }

def pool4 : Array CpInfo := pool [(2, .class_ 4), (1, u "java/lang/CharSequence"), (42, .class_ 48), (0, u "java/lang/CharSequence$1CodePointIterator"), (10, .class_ 60), (0, u "java/lang/CharSequence$1CharIterator"), (5, .class_ 67), (0, u "java/lang/Object")] 63

/-- java/lang/CharSequence -/
def k4 : Class := { plain "java/lang/CharSequence" (some 0) with
  accessFlags := 1537
  interfaces := #[]
  cf := some (fileOf pool4 2 #[.nestMembers #[47, 59]] #[] 1537 66 #[] #[])
  fields := #[]
  methods := #[]
  instanceTypes := #[]
  staticTypes := #[]
  resolved := Array.replicate 131 none
  statics := none }

def pool5 : Array CpInfo := pool [(1, .class_ 2), (0, u "java/lang/constant/Constable"), (0, .class_ 4), (0, u "java/lang/Object")] 6

/-- java/lang/constant/Constable -/
def k5 : Class := { plain "java/lang/constant/Constable" (some 0) with
  accessFlags := 1537
  interfaces := #[]
  cf := some (fileOf pool5 1 #[] #[] 1537 3 #[] #[])
  fields := #[]
  methods := #[]
  instanceTypes := #[]
  staticTypes := #[]
  resolved := Array.replicate 11 none
  statics := none }

def pool6 : Array CpInfo := pool [(1, .class_ 2), (0, u "java/lang/constant/ConstantDesc"), (0, .class_ 4), (0, u "java/lang/Object")] 32

/-- java/lang/constant/ConstantDesc -/
def k6 : Class := { plain "java/lang/constant/ConstantDesc" (some 0) with
  accessFlags := 1537
  interfaces := #[]
  cf := some (fileOf pool6 1 #[] #[] 1537 3 #[] #[])
  fields := #[]
  methods := #[]
  instanceTypes := #[]
  staticTypes := #[]
  resolved := Array.replicate 37 none
  statics := none }

def pool7 : Array CpInfo := pool [(1, .methodref 2 3), (0, .class_ 4), (0, .nameAndType 5 6), (0, u "java/lang/Object"), (0, u "<init>"), (0, u "()V"), (2, .fieldref 10 11), (0, .class_ 12), (0, .nameAndType 13 14), (0, u "java/lang/String"), (0, u "value"), (0, u "[B"), (0, .fieldref 10 16), (0, .nameAndType 17 18), (0, u "coder"), (0, u "B"), (2, u "hash"), (0, u "I"), (2, u "hashIsZero"), (0, u "Z"), (0, .methodref 10 28), (0, .nameAndType 5 29), (0, u "([CIILjava/lang/Void;)V"), (8, .fieldref 10 39), (0, .nameAndType 40 26), (0, u "COMPACT_STRINGS"), (1, .class_ 44), (1, u "java/lang/StringUTF16"), (0, u "compress"), (1, .methodref 42 48), (0, .nameAndType 49 50), (0, u "coderFromArrayLen"), (0, u "([BI)B"), (2, u "toBytes"), (53, .class_ 109), (1, u "java/lang/StringLatin1"), (32, u "()Z"), (34, .methodref 42 178), (0, .nameAndType 45 179), (0, u "([CII)[B"), (29, .methodref 10 210), (0, .nameAndType 5 211), (0, u "([BB)V"), (122, u "()I"), (0, .methodref 10 336), (0, .nameAndType 17 337), (0, u "()B"), (25, u "([BI)C"), (5, u "(C)Z"), (21, u "(II)V"), (35, u "(I)C"), (64, .methodref 10 493), (0, .nameAndType 494 142), (0, u "isLatin1"), (0, .methodref 107 496), (0, .nameAndType 497 363), (0, u "charAt"), (0, .methodref 42 496), (2, u "checkIndex"), (5, u "length"), (67, .class_ 576), (0, u "java/lang/CharSequence"), (22, u "CASE_INSENSITIVE_ORDER"), (0, u "Ljava/util/Comparator;"), (181, u "valueOf"), (0, u "(C)Ljava/lang/String;"), (226, u "([C)V"), (4, .methodref 107 1016), (0, .nameAndType 1017 369), (0, u "canEncode"), (0, .methodref 107 1019), (0, .nameAndType 53 1020), (0, u "(C)[B"), (0, .methodref 42 1019), (31, .fieldref 1054 1055), (0, .class_ 1056), (0, .nameAndType 1057 1058), (0, u "jdk/internal/util/Preconditions"), (0, u "SIOOBE_FORMATTER"), (0, u "Ljava/util/function/BiFunction;"), (0, .methodref 1054 1060), (0, .nameAndType 501 1061), (0, u "(IILjava/util/function/BiFunction;)I"), (39, u "serialPersistentFields"), (0, u "[Ljava/io/ObjectStreamField;"), (0, .class_ 1104), (0, u "java/lang/String$CaseInsensitiveComparator"), (1, .class_ 1107), (0, u "java/io/Serializable"), (0, .class_ 1109), (0, u "java/lang/Comparable"), (0, .class_ 1111), (0, u "java/lang/constant/Constable"), (0, .class_ 1113), (0, u "java/lang/constant/ConstantDesc"), (2, u "serialVersionUID"), (0, u "J"), (3, u "REPL"), (0, u "C"), (2, u "LATIN1"), (1, u "UTF16")] 323

def k7m0 : Method := { name := "<init>", desc := "()V", sig := { parameters := [], returnType := none }, accessFlags := 1, code := none }
def k7c1 : Code := { maxStack := 5, maxLocals := 2, code := jdk_42_method_3_code, exceptionTable := #[], attributes := #[] }
def k7m1 : Method := { name := "<init>", desc := "([C)V", sig := { parameters := [(.array .char)], returnType := none }, accessFlags := 1, code := some k7c1 }
def k7c2 : Code := { maxStack := 2, maxLocals := 1, code := jdk_42_method_54_code, exceptionTable := #[], attributes := #[] }
def k7m2 : Method := { name := "length", desc := "()I", sig := { parameters := [], returnType := some .int }, accessFlags := 1, code := some k7c2 }
def k7c3 : Code := { maxStack := 2, maxLocals := 2, code := jdk_42_method_56_code, exceptionTable := #[], attributes := #[] }
def k7m3 : Method := { name := "charAt", desc := "(I)C", sig := { parameters := [.int], returnType := some .char }, accessFlags := 1, code := some k7c3 }
def k7c4 : Code := { maxStack := 4, maxLocals := 1, code := jdk_42_method_139_code, exceptionTable := #[], attributes := #[] }
def k7m4 : Method := { name := "valueOf", desc := "(C)Ljava/lang/String;", sig := { parameters := [.char], returnType := some (.object "java/lang/String") }, accessFlags := 9, code := some k7c4 }
def k7c5 : Code := { maxStack := 4, maxLocals := 6, code := jdk_42_method_149_code, exceptionTable := #[], attributes := #[] }
def k7m5 : Method := { name := "<init>", desc := "([CIILjava/lang/Void;)V", sig := { parameters := [(.array .char), .int, .int, (.object "java/lang/Void")], returnType := none }, accessFlags := 2, code := some k7c5 }
def k7c6 : Code := { maxStack := 2, maxLocals := 3, code := jdk_42_method_151_code, exceptionTable := #[], attributes := #[] }
def k7m6 : Method := { name := "<init>", desc := "([BB)V", sig := { parameters := [(.array .byte), .byte], returnType := none }, accessFlags := 0, code := some k7c6 }
def k7c7 : Code := { maxStack := 1, maxLocals := 1, code := jdk_42_method_152_code, exceptionTable := #[], attributes := #[] }
def k7m7 : Method := { name := "coder", desc := "()B", sig := { parameters := [], returnType := some .byte }, accessFlags := 0, code := some k7c7 }
def k7c8 : Code := { maxStack := 1, maxLocals := 1, code := jdk_42_method_154_code, exceptionTable := #[], attributes := #[] }
def k7m8 : Method := { name := "isLatin1", desc := "()Z", sig := { parameters := [], returnType := some .boolean }, accessFlags := 0, code := some k7c8 }
def k7c9 : Code := { maxStack := 3, maxLocals := 2, code := jdk_42_method_155_code, exceptionTable := #[], attributes := #[] }
def k7m9 : Method := { name := "checkIndex", desc := "(II)V", sig := { parameters := [.int, .int], returnType := none }, accessFlags := 8, code := some k7c9 }
/-- java/lang/String -/
def k7 : Class := { plain "java/lang/String" (some 0) with
  accessFlags := 49
  interfaces := #[2, 3, 4, 5, 6]
  cf := some (fileOf pool7 10 #[.nestMembers #[1103]] #[{ accessFlags := 1, nameIndex := 5, descriptorIndex := 6, attributes := #[] }, { accessFlags := 1, nameIndex := 5, descriptorIndex := 1010, attributes := #[] }, { accessFlags := 1, nameIndex := 507, descriptorIndex := 334, attributes := #[] }, { accessFlags := 1, nameIndex := 497, descriptorIndex := 427, attributes := #[] }, { accessFlags := 9, nameIndex := 782, descriptorIndex := 783, attributes := #[] }, { accessFlags := 2, nameIndex := 5, descriptorIndex := 29, attributes := #[] }, { accessFlags := 0, nameIndex := 5, descriptorIndex := 211, attributes := #[] }, { accessFlags := 0, nameIndex := 17, descriptorIndex := 337, attributes := #[] }, { accessFlags := 0, nameIndex := 494, descriptorIndex := 142, attributes := #[] }, { accessFlags := 8, nameIndex := 501, descriptorIndex := 391, attributes := #[] }] 49 2 #[1106, 1108, 575, 1110, 1112] #[{ accessFlags := 18, nameIndex := 13, descriptorIndex := 14, attributes := #[] }, { accessFlags := 18, nameIndex := 17, descriptorIndex := 18, attributes := #[] }, { accessFlags := 2, nameIndex := 21, descriptorIndex := 22, attributes := #[] }, { accessFlags := 2, nameIndex := 25, descriptorIndex := 26, attributes := #[] }, { accessFlags := 26, nameIndex := 1116, descriptorIndex := 1117, attributes := #[] }, { accessFlags := 24, nameIndex := 40, descriptorIndex := 26, attributes := #[] }, { accessFlags := 26, nameIndex := 1101, descriptorIndex := 1102, attributes := #[] }, { accessFlags := 26, nameIndex := 1121, descriptorIndex := 1122, attributes := #[] }, { accessFlags := 25, nameIndex := 599, descriptorIndex := 600, attributes := #[] }, { accessFlags := 24, nameIndex := 1125, descriptorIndex := 18, attributes := #[] }, { accessFlags := 24, nameIndex := 1127, descriptorIndex := 18, attributes := #[] }])
  fields := #[{ name := "value", type := (.array .byte), accessFlags := 18, slot := 0, constantValue := 0 }, { name := "coder", type := .byte, accessFlags := 18, slot := 1, constantValue := 0 }, { name := "hash", type := .int, accessFlags := 2, slot := 2, constantValue := 0 }, { name := "hashIsZero", type := .boolean, accessFlags := 2, slot := 3, constantValue := 0 }, { name := "serialVersionUID", type := .long, accessFlags := 26, slot := 0, constantValue := 0 }, { name := "COMPACT_STRINGS", type := .boolean, accessFlags := 24, slot := 1, constantValue := 0 }, { name := "serialPersistentFields", type := (.array (.object "java/io/ObjectStreamField")), accessFlags := 26, slot := 2, constantValue := 0 }, { name := "REPL", type := .char, accessFlags := 26, slot := 3, constantValue := 0 }, { name := "CASE_INSENSITIVE_ORDER", type := (.object "java/util/Comparator"), accessFlags := 25, slot := 4, constantValue := 0 }, { name := "LATIN1", type := .byte, accessFlags := 24, slot := 5, constantValue := 0 }, { name := "UTF16", type := .byte, accessFlags := 24, slot := 6, constantValue := 0 }]
  methods := #[k7m0, k7m1, k7m2, k7m3, k7m4, k7m5, k7m6, k7m7, k7m8, k7m9]
  instanceTypes := #[(.array .byte), .byte, .int, .boolean]
  staticTypes := #[.long, .boolean, (.array (.object "java/io/ObjectStreamField")), .char, (.object "java/util/Comparator"), .byte, .byte]
  resolved := Array.replicate 1451 none
  statics := some 0 }

def pool8 : Array CpInfo := pool [(3, .class_ 4), (0, u "java/lang/String"), (1, .class_ 8), (1, u "java/lang/Object"), (0, u "<init>"), (0, u "()V"), (0, .methodref 12 13), (0, .class_ 14), (0, .nameAndType 15 16), (0, u "java/lang/StringUTF16"), (0, u "newBytesLength"), (0, u "(I)I"), (3, .integer 1073741823), (23, .fieldref 12 45), (0, .nameAndType 46 47), (0, u "$assertionsDisabled"), (0, u "Z"), (0, .methodref 12 49), (0, .nameAndType 50 51), (0, u "length"), (0, u "([B)I"), (7, .fieldref 12 60), (0, .nameAndType 61 62), (0, u "HI_BYTE_SHIFT"), (0, u "I"), (0, .fieldref 12 64), (0, .nameAndType 65 62), (0, u "LO_BYTE_SHIFT"), (1, .methodref 12 68), (0, .nameAndType 69 70), (0, u "checkIndex"), (0, u "(I[B)V"), (0, .methodref 12 72), (0, .nameAndType 73 74), (0, u "getChar"), (0, u "([BI)C"), (32, .methodref 12 108), (0, .nameAndType 109 110), (0, u "newBytesFor"), (0, u "(I)[B"), (0, .methodref 12 112), (0, .nameAndType 113 114), (0, u "putChar"), (0, u "([BII)V"), (0, .methodref 12 116), (0, .nameAndType 117 118), (0, u "compress"), (0, u "([CI[BII)I"), (0, .methodref 12 120), (0, .nameAndType 121 122), (0, u "toBytes"), (0, u "([CII)[B"), (138, u "coderFromArrayLen"), (0, u "([BI)B"), (106, .class_ 371), (1, u "java/lang/StringUTF16$LinesSpliterator"), (20, u "charAt"), (21, .methodref 3 415), (0, .nameAndType 69 416), (0, u "(II)V"), (13, u "MAX_LENGTH"), (44, u "(C)[B"), (151, .class_ 628), (0, u "java/lang/StringUTF16$CodePointsSpliterator"), (0, .class_ 630), (0, u "java/lang/StringUTF16$CharsSpliterator")] 4

def k8m0 : Method := { name := "<init>", desc := "()V", sig := { parameters := [], returnType := none }, accessFlags := 0, code := none }
def k8c1 : Code := { maxStack := 1, maxLocals := 1, code := jdk_52_method_2_code, exceptionTable := #[], attributes := #[] }
def k8m1 : Method := { name := "newBytesFor", desc := "(I)[B", sig := { parameters := [.int], returnType := some (.array .byte) }, accessFlags := 9, code := some k8c1 }
def k8c2 : Code := { maxStack := 4, maxLocals := 1, code := jdk_52_method_3_code, exceptionTable := #[], attributes := #[] }
def k8m2 : Method := { name := "newBytesLength", desc := "(I)I", sig := { parameters := [.int], returnType := some .int }, accessFlags := 9, code := some k8c2 }
def k8c3 : Code := { maxStack := 4, maxLocals := 3, code := jdk_52_method_4_code, exceptionTable := #[], attributes := #[] }
def k8m3 : Method := { name := "putChar", desc := "([BII)V", sig := { parameters := [(.array .byte), .int, .int], returnType := none }, accessFlags := 8, code := some k8c3 }
def k8c4 : Code := { maxStack := 3, maxLocals := 2, code := jdk_52_method_5_code, exceptionTable := #[], attributes := #[] }
def k8m4 : Method := { name := "getChar", desc := "([BI)C", sig := { parameters := [(.array .byte), .int], returnType := some .char }, accessFlags := 8, code := some k8c4 }
def k8c5 : Code := { maxStack := 2, maxLocals := 1, code := jdk_52_method_6_code, exceptionTable := #[], attributes := #[] }
def k8m5 : Method := { name := "length", desc := "([B)I", sig := { parameters := [(.array .byte)], returnType := some .int }, accessFlags := 9, code := some k8c5 }
def k8c6 : Code := { maxStack := 4, maxLocals := 5, code := jdk_52_method_14_code, exceptionTable := #[], attributes := #[] }
def k8m6 : Method := { name := "toBytes", desc := "([CII)[B", sig := { parameters := [(.array .char), .int, .int], returnType := some (.array .byte) }, accessFlags := 9, code := some k8c6 }
def k8c7 : Code := { maxStack := 2, maxLocals := 2, code := jdk_52_method_15_code, exceptionTable := #[], attributes := #[] }
def k8m7 : Method := { name := "coderFromArrayLen", desc := "([BI)B", sig := { parameters := [(.array .byte), .int], returnType := some .byte }, accessFlags := 8, code := some k8c7 }
def k8c8 : Code := { maxStack := 5, maxLocals := 6, code := jdk_52_method_16_code, exceptionTable := #[], attributes := #[] }
def k8m8 : Method := { name := "compress", desc := "([CII)[B", sig := { parameters := [(.array .char), .int, .int], returnType := some (.array .byte) }, accessFlags := 9, code := some k8c8 }
def k8c9 : Code := { maxStack := 3, maxLocals := 7, code := jdk_52_method_21_code, exceptionTable := #[], attributes := #[] }
def k8m9 : Method := { name := "compress", desc := "([CI[BII)I", sig := { parameters := [(.array .char), .int, (.array .byte), .int, .int], returnType := some .int }, accessFlags := 9, code := some k8c9 }
def k8c10 : Code := { maxStack := 3, maxLocals := 2, code := jdk_52_method_24_code, exceptionTable := #[], attributes := #[] }
def k8m10 : Method := { name := "toBytes", desc := "(C)[B", sig := { parameters := [.char], returnType := some (.array .byte) }, accessFlags := 9, code := some k8c10 }
def k8c11 : Code := { maxStack := 2, maxLocals := 2, code := jdk_52_method_83_code, exceptionTable := #[], attributes := #[] }
def k8m11 : Method := { name := "charAt", desc := "([BI)C", sig := { parameters := [(.array .byte), .int], returnType := some .char }, accessFlags := 9, code := some k8c11 }
def k8c12 : Code := { maxStack := 2, maxLocals := 2, code := jdk_52_method_91_code, exceptionTable := #[], attributes := #[] }
def k8m12 : Method := { name := "checkIndex", desc := "(I[B)V", sig := { parameters := [.int, (.array .byte)], returnType := none }, accessFlags := 9, code := some k8c12 }
/-- java/lang/StringUTF16 -/
def k8 : Class := { plain "java/lang/StringUTF16" (some 0) with
  accessFlags := 48
  interfaces := #[]
  cf := some (fileOf pool8 12 #[.nestMembers #[627, 629, 369]] #[{ accessFlags := 0, nameIndex := 9, descriptorIndex := 10, attributes := #[] }, { accessFlags := 9, nameIndex := 109, descriptorIndex := 110, attributes := #[] }, { accessFlags := 9, nameIndex := 15, descriptorIndex := 16, attributes := #[] }, { accessFlags := 8, nameIndex := 113, descriptorIndex := 114, attributes := #[] }, { accessFlags := 8, nameIndex := 73, descriptorIndex := 74, attributes := #[] }, { accessFlags := 9, nameIndex := 50, descriptorIndex := 51, attributes := #[] }, { accessFlags := 9, nameIndex := 121, descriptorIndex := 122, attributes := #[] }, { accessFlags := 8, nameIndex := 261, descriptorIndex := 262, attributes := #[] }, { accessFlags := 9, nameIndex := 117, descriptorIndex := 122, attributes := #[] }, { accessFlags := 9, nameIndex := 117, descriptorIndex := 118, attributes := #[] }, { accessFlags := 9, nameIndex := 121, descriptorIndex := 475, attributes := #[] }, { accessFlags := 9, nameIndex := 392, descriptorIndex := 74, attributes := #[] }, { accessFlags := 9, nameIndex := 69, descriptorIndex := 70, attributes := #[] }] 48 6 #[] #[{ accessFlags := 26, nameIndex := 61, descriptorIndex := 62, attributes := #[] }, { accessFlags := 26, nameIndex := 65, descriptorIndex := 62, attributes := #[] }, { accessFlags := 24, nameIndex := 430, descriptorIndex := 62, attributes := #[] }, { accessFlags := 4120, nameIndex := 46, descriptorIndex := 47, attributes := #[] }])
  fields := #[{ name := "HI_BYTE_SHIFT", type := .int, accessFlags := 26, slot := 0, constantValue := 0 }, { name := "LO_BYTE_SHIFT", type := .int, accessFlags := 26, slot := 1, constantValue := 0 }, { name := "MAX_LENGTH", type := .int, accessFlags := 24, slot := 2, constantValue := 0 }, { name := "$assertionsDisabled", type := .boolean, accessFlags := 4120, slot := 3, constantValue := 0 }]
  methods := #[k8m0, k8m1, k8m2, k8m3, k8m4, k8m5, k8m6, k8m7, k8m8, k8m9, k8m10, k8m11, k8m12]
  instanceTypes := #[]
  staticTypes := #[.int, .int, .int, .boolean]
  resolved := Array.replicate 635 none
  statics := some 1 }

def pool9 : Array CpInfo := pool [(2, .class_ 4), (1, u "java/lang/Enum"), (0, u "name"), (0, u "Ljava/lang/String;"), (2, u "ordinal"), (0, u "I"), (1, .class_ 14), (1, u "java/lang/Object"), (4, u "hash"), (86, .class_ 108), (1, u "java/lang/Enum$EnumDesc"), (2, .class_ 112), (0, u "java/lang/constant/Constable"), (0, .class_ 114), (0, u "java/lang/Comparable"), (0, .class_ 116), (0, u "java/io/Serializable")] 87

/-- java/lang/Enum -/
def k9 : Class := { plain "java/lang/Enum" (some 0) with
  accessFlags := 1057
  interfaces := #[5, 3, 2]
  cf := some (fileOf pool9 2 #[.nestMembers #[106]] #[] 1057 12 #[111, 113, 115] #[{ accessFlags := 18, nameIndex := 5, descriptorIndex := 6, attributes := #[] }, { accessFlags := 18, nameIndex := 9, descriptorIndex := 10, attributes := #[] }, { accessFlags := 2, nameIndex := 19, descriptorIndex := 10, attributes := #[] }])
  fields := #[{ name := "name", type := (.object "java/lang/String"), accessFlags := 18, slot := 0, constantValue := 0 }, { name := "ordinal", type := .int, accessFlags := 18, slot := 1, constantValue := 0 }, { name := "hash", type := .int, accessFlags := 2, slot := 2, constantValue := 0 }]
  methods := #[]
  instanceTypes := #[(.object "java/lang/String"), .int, .int]
  staticTypes := #[]
  resolved := Array.replicate 204 none
  statics := none }

def pool10 : Array CpInfo := pool [(1, .class_ 2), (0, u "com/example/petrel/petrel/HoaLexer$Kind"), (2, u "HEADER_NAME"), (0, u "Lcom/example/petrel/petrel/HoaLexer$Kind;"), (2, u "IDENTIFIER"), (2, u "INTEGER"), (2, u "STRING"), (2, u "ALIAS"), (2, u "BODY"), (2, u "END"), (2, u "ABORT"), (2, u "PUNCTUATION"), (2, u "END_OF_FILE"), (2, u "$VALUES"), (0, u "[Lcom/example/petrel/petrel/HoaLexer$Kind;"), (6, .class_ 46), (1, u "java/lang/Enum"), (33, .class_ 81), (0, u "com/example/petrel/petrel/HoaLexer")] 2

/-- com/example/petrel/petrel/HoaLexer$Kind -/
def k10 : Class := { plain "com/example/petrel/petrel/HoaLexer$Kind" (some 9) with
  accessFlags := 16432
  interfaces := #[]
  cf := some (fileOf pool10 1 #[.nestHost 80] #[] 16432 44 #[] #[{ accessFlags := 16409, nameIndex := 5, descriptorIndex := 6, attributes := #[] }, { accessFlags := 16409, nameIndex := 9, descriptorIndex := 6, attributes := #[] }, { accessFlags := 16409, nameIndex := 12, descriptorIndex := 6, attributes := #[] }, { accessFlags := 16409, nameIndex := 15, descriptorIndex := 6, attributes := #[] }, { accessFlags := 16409, nameIndex := 18, descriptorIndex := 6, attributes := #[] }, { accessFlags := 16409, nameIndex := 21, descriptorIndex := 6, attributes := #[] }, { accessFlags := 16409, nameIndex := 24, descriptorIndex := 6, attributes := #[] }, { accessFlags := 16409, nameIndex := 27, descriptorIndex := 6, attributes := #[] }, { accessFlags := 16409, nameIndex := 30, descriptorIndex := 6, attributes := #[] }, { accessFlags := 16409, nameIndex := 33, descriptorIndex := 6, attributes := #[] }, { accessFlags := 4122, nameIndex := 36, descriptorIndex := 37, attributes := #[] }])
  fields := #[{ name := "HEADER_NAME", type := (.object "com/example/petrel/petrel/HoaLexer$Kind"), accessFlags := 16409, slot := 0, constantValue := 0 }, { name := "IDENTIFIER", type := (.object "com/example/petrel/petrel/HoaLexer$Kind"), accessFlags := 16409, slot := 1, constantValue := 0 }, { name := "INTEGER", type := (.object "com/example/petrel/petrel/HoaLexer$Kind"), accessFlags := 16409, slot := 2, constantValue := 0 }, { name := "STRING", type := (.object "com/example/petrel/petrel/HoaLexer$Kind"), accessFlags := 16409, slot := 3, constantValue := 0 }, { name := "ALIAS", type := (.object "com/example/petrel/petrel/HoaLexer$Kind"), accessFlags := 16409, slot := 4, constantValue := 0 }, { name := "BODY", type := (.object "com/example/petrel/petrel/HoaLexer$Kind"), accessFlags := 16409, slot := 5, constantValue := 0 }, { name := "END", type := (.object "com/example/petrel/petrel/HoaLexer$Kind"), accessFlags := 16409, slot := 6, constantValue := 0 }, { name := "ABORT", type := (.object "com/example/petrel/petrel/HoaLexer$Kind"), accessFlags := 16409, slot := 7, constantValue := 0 }, { name := "PUNCTUATION", type := (.object "com/example/petrel/petrel/HoaLexer$Kind"), accessFlags := 16409, slot := 8, constantValue := 0 }, { name := "END_OF_FILE", type := (.object "com/example/petrel/petrel/HoaLexer$Kind"), accessFlags := 16409, slot := 9, constantValue := 0 }, { name := "$VALUES", type := (.array (.object "com/example/petrel/petrel/HoaLexer$Kind")), accessFlags := 4122, slot := 10, constantValue := 0 }]
  methods := #[]
  instanceTypes := #[(.object "java/lang/String"), .int, .int]
  staticTypes := #[(.object "com/example/petrel/petrel/HoaLexer$Kind"), (.object "com/example/petrel/petrel/HoaLexer$Kind"), (.object "com/example/petrel/petrel/HoaLexer$Kind"), (.object "com/example/petrel/petrel/HoaLexer$Kind"), (.object "com/example/petrel/petrel/HoaLexer$Kind"), (.object "com/example/petrel/petrel/HoaLexer$Kind"), (.object "com/example/petrel/petrel/HoaLexer$Kind"), (.object "com/example/petrel/petrel/HoaLexer$Kind"), (.object "com/example/petrel/petrel/HoaLexer$Kind"), (.object "com/example/petrel/petrel/HoaLexer$Kind"), (.array (.object "com/example/petrel/petrel/HoaLexer$Kind"))]
  resolved := Array.replicate 84 none
  statics := some 2 }

def pool11 : Array CpInfo := pool [(1, .methodref 2 3), (0, .class_ 4), (0, .nameAndType 5 6), (0, u "java/lang/Object"), (0, u "<init>"), (0, u "()V"), (0, .class_ 8), (0, u "java/lang/Record")] 13

def k11c0 : Code := { maxStack := 1, maxLocals := 1, code := jdk_30_method_1_code, exceptionTable := #[], attributes := #[] }
def k11m0 : Method := { name := "<init>", desc := "()V", sig := { parameters := [], returnType := none }, accessFlags := 4, code := some k11c0 }
/-- java/lang/Record -/
def k11 : Class := { plain "java/lang/Record" (some 0) with
  accessFlags := 1057
  interfaces := #[]
  cf := some (fileOf pool11 7 #[] #[{ accessFlags := 4, nameIndex := 5, descriptorIndex := 6, attributes := #[] }] 1057 2 #[] #[])
  fields := #[]
  methods := #[k11m0]
  instanceTypes := #[]
  staticTypes := #[]
  resolved := Array.replicate 22 none
  statics := none }

def pool12 : Array CpInfo := pool [(1, .methodref 2 3), (0, .class_ 4), (0, .nameAndType 5 6), (0, u "java/lang/Record"), (0, u "<init>"), (0, u "()V"), (0, .fieldref 8 9), (0, .class_ 10), (0, .nameAndType 11 12), (0, u "com/example/petrel/petrel/HoaLexer$Token"), (0, u "kind"), (0, u "Lcom/example/petrel/petrel/HoaLexer$Kind;"), (0, .fieldref 8 14), (0, .nameAndType 15 16), (0, u "text"), (0, u "Ljava/lang/String;"), (0, .fieldref 8 18), (0, .nameAndType 19 20), (0, u "line"), (0, u "I"), (1, .class_ 24), (1, u "java/lang/String"), (2, .fieldref 28 29), (0, .class_ 30), (0, .nameAndType 31 12), (0, u "com/example/petrel/petrel/HoaLexer$Kind"), (0, u "PUNCTUATION"), (0, .methodref 22 33), (0, .nameAndType 34 35), (0, u "length"), (0, u "()I"), (0, .methodref 22 37), (0, .nameAndType 38 39), (0, u "charAt"), (0, u "(I)C"), (24, u "(Lcom/example/petrel/petrel/HoaLexer$Kind;Ljava/lang/String;I)V"), (6, u "isPunctuation"), (0, u "(C)Z"), (6, .class_ 80), (0, u "com/example/petrel/petrel/HoaLexer")] 34

def k12c0 : Code := { maxStack := 2, maxLocals := 4, code := prog_10_method_1_code, exceptionTable := #[], attributes := #[] }
def k12m0 : Method := { name := "<init>", desc := "(Lcom/example/petrel/petrel/HoaLexer$Kind;Ljava/lang/String;I)V", sig := { parameters := [(.object "com/example/petrel/petrel/HoaLexer$Kind"), (.object "java/lang/String"), .int], returnType := none }, accessFlags := 0, code := some k12c0 }
def k12c1 : Code := { maxStack := 2, maxLocals := 2, code := prog_10_method_3_code, exceptionTable := #[], attributes := #[] }
def k12m1 : Method := { name := "isPunctuation", desc := "(C)Z", sig := { parameters := [.char], returnType := some .boolean }, accessFlags := 0, code := some k12c1 }
/-- com/example/petrel/petrel/HoaLexer$Token -/
def k12 : Class := { plain "com/example/petrel/petrel/HoaLexer$Token" (some 11) with
  accessFlags := 48
  interfaces := #[]
  cf := some (fileOf pool12 8 #[.nestHost 79] #[{ accessFlags := 0, nameIndex := 5, descriptorIndex := 64, attributes := #[] }, { accessFlags := 0, nameIndex := 71, descriptorIndex := 72, attributes := #[] }] 48 2 #[] #[{ accessFlags := 18, nameIndex := 11, descriptorIndex := 12, attributes := #[] }, { accessFlags := 18, nameIndex := 15, descriptorIndex := 16, attributes := #[] }, { accessFlags := 18, nameIndex := 19, descriptorIndex := 20, attributes := #[] }])
  fields := #[{ name := "kind", type := (.object "com/example/petrel/petrel/HoaLexer$Kind"), accessFlags := 18, slot := 0, constantValue := 0 }, { name := "text", type := (.object "java/lang/String"), accessFlags := 18, slot := 1, constantValue := 0 }, { name := "line", type := .int, accessFlags := 18, slot := 2, constantValue := 0 }]
  methods := #[k12m0, k12m1]
  instanceTypes := #[(.object "com/example/petrel/petrel/HoaLexer$Kind"), (.object "java/lang/String"), .int]
  staticTypes := #[]
  resolved := Array.replicate 115 none
  statics := none }

def pool13 : Array CpInfo := pool [(1, .class_ 2), (0, u "java/lang/String"), (1, .class_ 6), (1, u "java/lang/Object"), (0, u "<init>"), (0, u "()V"), (0, .methodref 1 10), (0, .nameAndType 11 12), (0, u "checkIndex"), (0, u "(II)V"), (1, .class_ 16), (1, u "java/lang/StringLatin1"), (36, u "([BI)C"), (36, u "canEncode"), (14, u "(C)Z"), (15, u "$assertionsDisabled"), (0, u "Z"), (98, .class_ 223), (1, u "java/lang/StringLatin1$LinesSpliterator"), (28, u "charAt"), (127, u "toBytes"), (1, u "(C)[B"), (7, .class_ 391), (0, u "java/lang/StringLatin1$CharsSpliterator")] 3

def k13m0 : Method := { name := "<init>", desc := "()V", sig := { parameters := [], returnType := none }, accessFlags := 0, code := none }
def k13c1 : Code := { maxStack := 2, maxLocals := 2, code := jdk_43_method_2_code, exceptionTable := #[], attributes := #[] }
def k13m1 : Method := { name := "charAt", desc := "([BI)C", sig := { parameters := [(.array .byte), .int], returnType := some .char }, accessFlags := 9, code := some k13c1 }
def k13c2 : Code := { maxStack := 2, maxLocals := 1, code := jdk_43_method_3_code, exceptionTable := #[], attributes := #[] }
def k13m2 : Method := { name := "canEncode", desc := "(C)Z", sig := { parameters := [.char], returnType := some .boolean }, accessFlags := 9, code := some k13c2 }
def k13c3 : Code := { maxStack := 4, maxLocals := 1, code := jdk_43_method_46_code, exceptionTable := #[], attributes := #[] }
def k13m3 : Method := { name := "toBytes", desc := "(C)[B", sig := { parameters := [.char], returnType := some (.array .byte) }, accessFlags := 9, code := some k13c3 }
/-- java/lang/StringLatin1 -/
def k13 : Class := { plain "java/lang/StringLatin1" (some 0) with
  accessFlags := 48
  interfaces := #[]
  cf := some (fileOf pool13 14 #[.nestMembers #[390, 221]] #[{ accessFlags := 0, nameIndex := 7, descriptorIndex := 8, attributes := #[] }, { accessFlags := 9, nameIndex := 252, descriptorIndex := 53, attributes := #[] }, { accessFlags := 9, nameIndex := 90, descriptorIndex := 105, attributes := #[] }, { accessFlags := 9, nameIndex := 380, descriptorIndex := 382, attributes := #[] }] 48 4 #[] #[{ accessFlags := 4120, nameIndex := 121, descriptorIndex := 122, attributes := #[] }])
  fields := #[{ name := "$assertionsDisabled", type := .boolean, accessFlags := 4120, slot := 0, constantValue := 0 }]
  methods := #[k13m0, k13m1, k13m2, k13m3]
  instanceTypes := #[]
  staticTypes := #[.boolean]
  resolved := Array.replicate 395 none
  statics := none }

def pool14 : Array CpInfo := pool [(2, .class_ 4), (1, u "java/lang/Object"), (0, u "<init>"), (0, u "()V"), (17, .class_ 26), (1, u "jdk/internal/util/Preconditions"), (6, u "checkIndex"), (21, .class_ 56), (0, u "jdk/internal/util/Preconditions$4"), (57, .class_ 115), (0, u "jdk/internal/util/Preconditions$1"), (7, u "SIOOBE_FORMATTER"), (0, u "Ljava/util/function/BiFunction;"), (0, .class_ 126), (0, u "jdk/internal/util/Preconditions$2"), (3, u "AIOOBE_FORMATTER"), (0, .class_ 132), (0, u "jdk/internal/util/Preconditions$3"), (3, u "IOOBE_FORMATTER"), (41, u "(IILjava/util/function/BiFunction;)I")] 15

def k14m0 : Method := { name := "<init>", desc := "()V", sig := { parameters := [], returnType := none }, accessFlags := 1, code := none }
def k14c1 : Code := { maxStack := 3, maxLocals := 3, code := jdk_41_method_11_code, exceptionTable := #[], attributes := #[] }
def k14m1 : Method := { name := "checkIndex", desc := "(IILjava/util/function/BiFunction;)I", sig := { parameters := [.int, .int, (.object "java/util/function/BiFunction")], returnType := some .int }, accessFlags := 9, code := some k14c1 }
/-- jdk/internal/util/Preconditions -/
def k14 : Class := { plain "jdk/internal/util/Preconditions" (some 0) with
  accessFlags := 33
  interfaces := #[]
  cf := some (fileOf pool14 24 #[.nestMembers #[55, 131, 125, 114]] #[{ accessFlags := 1, nameIndex := 5, descriptorIndex := 6, attributes := #[] }, { accessFlags := 9, nameIndex := 33, descriptorIndex := 178, attributes := #[] }] 33 2 #[] #[{ accessFlags := 25, nameIndex := 123, descriptorIndex := 124, attributes := #[] }, { accessFlags := 25, nameIndex := 130, descriptorIndex := 124, attributes := #[] }, { accessFlags := 25, nameIndex := 136, descriptorIndex := 124, attributes := #[] }])
  fields := #[{ name := "SIOOBE_FORMATTER", type := (.object "java/util/function/BiFunction"), accessFlags := 25, slot := 0, constantValue := 0 }, { name := "AIOOBE_FORMATTER", type := (.object "java/util/function/BiFunction"), accessFlags := 25, slot := 1, constantValue := 0 }, { name := "IOOBE_FORMATTER", type := (.object "java/util/function/BiFunction"), accessFlags := 25, slot := 2, constantValue := 0 }]
  methods := #[k14m0, k14m1]
  instanceTypes := #[]
  staticTypes := #[(.object "java/util/function/BiFunction"), (.object "java/util/function/BiFunction"), (.object "java/util/function/BiFunction")]
  resolved := Array.replicate 194 none
  statics := some 3 }

def pool15 : Array CpInfo := pool [(9, u "<init>"), (6, .class_ 18), (1, u "java/lang/Object"), (0, u "()V"), (1, .class_ 23), (1, u "jdk/internal/util/ArraysSupport"), (0, u "LOG2_ARRAY_LONG_INDEX_SCALE"), (0, u "I"), (2, u "U"), (0, u "Ljdk/internal/misc/Unsafe;"), (8, u "BIG_ENDIAN"), (0, u "Z"), (8, u "LOG2_BYTE_BIT_SIZE"), (4, u "LOG2_ARRAY_INT_INDEX_SCALE"), (54, u "JLA"), (0, u "Ljdk/internal/access/JavaLangAccess;"), (11, u "LOG2_ARRAY_BOOLEAN_INDEX_SCALE"), (9, u "LOG2_ARRAY_BYTE_INDEX_SCALE"), (5, u "LOG2_ARRAY_CHAR_INDEX_SCALE"), (5, u "LOG2_ARRAY_SHORT_INDEX_SCALE"), (18, u "LOG2_ARRAY_FLOAT_INDEX_SCALE"), (24, u "LOG2_ARRAY_DOUBLE_INDEX_SCALE"), (89, u "T_BOOLEAN"), (2, u "T_CHAR"), (1, u "T_FLOAT"), (1, u "T_DOUBLE"), (1, u "T_BYTE"), (1, u "T_SHORT"), (1, u "T_INT"), (1, u "T_LONG"), (1, u "SOFT_MAX_ARRAY_LENGTH")] 83

def k15m0 : Method := { name := "<init>", desc := "()V", sig := { parameters := [], returnType := none }, accessFlags := 2, code := none }
/-- jdk/internal/util/ArraysSupport -/
def k15 : Class := { plain "jdk/internal/util/ArraysSupport" (some 0) with
  accessFlags := 33
  interfaces := #[]
  cf := some (fileOf pool15 21 #[] #[{ accessFlags := 2, nameIndex := 9, descriptorIndex := 19, attributes := #[] }] 33 16 #[] #[{ accessFlags := 24, nameIndex := 28, descriptorIndex := 29, attributes := #[] }, { accessFlags := 26, nameIndex := 38, descriptorIndex := 39, attributes := #[] }, { accessFlags := 25, nameIndex := 121, descriptorIndex := 25, attributes := #[] }, { accessFlags := 25, nameIndex := 131, descriptorIndex := 25, attributes := #[] }, { accessFlags := 25, nameIndex := 137, descriptorIndex := 25, attributes := #[] }, { accessFlags := 25, nameIndex := 143, descriptorIndex := 25, attributes := #[] }, { accessFlags := 25, nameIndex := 53, descriptorIndex := 25, attributes := #[] }, { accessFlags := 25, nameIndex := 24, descriptorIndex := 25, attributes := #[] }, { accessFlags := 25, nameIndex := 162, descriptorIndex := 25, attributes := #[] }, { accessFlags := 25, nameIndex := 187, descriptorIndex := 25, attributes := #[] }, { accessFlags := 26, nameIndex := 48, descriptorIndex := 25, attributes := #[] }, { accessFlags := 25, nameIndex := 277, descriptorIndex := 25, attributes := #[] }, { accessFlags := 25, nameIndex := 280, descriptorIndex := 25, attributes := #[] }, { accessFlags := 25, nameIndex := 282, descriptorIndex := 25, attributes := #[] }, { accessFlags := 25, nameIndex := 284, descriptorIndex := 25, attributes := #[] }, { accessFlags := 25, nameIndex := 286, descriptorIndex := 25, attributes := #[] }, { accessFlags := 25, nameIndex := 288, descriptorIndex := 25, attributes := #[] }, { accessFlags := 25, nameIndex := 290, descriptorIndex := 25, attributes := #[] }, { accessFlags := 25, nameIndex := 292, descriptorIndex := 25, attributes := #[] }, { accessFlags := 26, nameIndex := 108, descriptorIndex := 109, attributes := #[] }, { accessFlags := 25, nameIndex := 294, descriptorIndex := 25, attributes := #[] }])
  fields := #[{ name := "U", type := (.object "jdk/internal/misc/Unsafe"), accessFlags := 24, slot := 0, constantValue := 0 }, { name := "BIG_ENDIAN", type := .boolean, accessFlags := 26, slot := 1, constantValue := 0 }, { name := "LOG2_ARRAY_BOOLEAN_INDEX_SCALE", type := .int, accessFlags := 25, slot := 2, constantValue := 0 }, { name := "LOG2_ARRAY_BYTE_INDEX_SCALE", type := .int, accessFlags := 25, slot := 3, constantValue := 0 }, { name := "LOG2_ARRAY_CHAR_INDEX_SCALE", type := .int, accessFlags := 25, slot := 4, constantValue := 0 }, { name := "LOG2_ARRAY_SHORT_INDEX_SCALE", type := .int, accessFlags := 25, slot := 5, constantValue := 0 }, { name := "LOG2_ARRAY_INT_INDEX_SCALE", type := .int, accessFlags := 25, slot := 6, constantValue := 0 }, { name := "LOG2_ARRAY_LONG_INDEX_SCALE", type := .int, accessFlags := 25, slot := 7, constantValue := 0 }, { name := "LOG2_ARRAY_FLOAT_INDEX_SCALE", type := .int, accessFlags := 25, slot := 8, constantValue := 0 }, { name := "LOG2_ARRAY_DOUBLE_INDEX_SCALE", type := .int, accessFlags := 25, slot := 9, constantValue := 0 }, { name := "LOG2_BYTE_BIT_SIZE", type := .int, accessFlags := 26, slot := 10, constantValue := 0 }, { name := "T_BOOLEAN", type := .int, accessFlags := 25, slot := 11, constantValue := 0 }, { name := "T_CHAR", type := .int, accessFlags := 25, slot := 12, constantValue := 0 }, { name := "T_FLOAT", type := .int, accessFlags := 25, slot := 13, constantValue := 0 }, { name := "T_DOUBLE", type := .int, accessFlags := 25, slot := 14, constantValue := 0 }, { name := "T_BYTE", type := .int, accessFlags := 25, slot := 15, constantValue := 0 }, { name := "T_SHORT", type := .int, accessFlags := 25, slot := 16, constantValue := 0 }, { name := "T_INT", type := .int, accessFlags := 25, slot := 17, constantValue := 0 }, { name := "T_LONG", type := .int, accessFlags := 25, slot := 18, constantValue := 0 }, { name := "JLA", type := (.object "jdk/internal/access/JavaLangAccess"), accessFlags := 26, slot := 19, constantValue := 0 }, { name := "SOFT_MAX_ARRAY_LENGTH", type := .int, accessFlags := 25, slot := 20, constantValue := 0 }]
  methods := #[k15m0]
  instanceTypes := #[]
  staticTypes := #[(.object "jdk/internal/misc/Unsafe"), .boolean, .int, .int, .int, .int, .int, .int, .int, .int, .int, .int, .int, .int, .int, .int, .int, .int, .int, (.object "jdk/internal/access/JavaLangAccess"), .int]
  resolved := Array.replicate 378 none
  statics := none }

def pool16 : Array CpInfo := pool [(1, u "java/lang/Cloneable"), (0, .class_ 1), (0, u "java/lang/Object"), (0, .class_ 3)] 3

/-- java/lang/Cloneable -/
def k16 : Class := { plain "java/lang/Cloneable" (some 0) with
  accessFlags := 1537
  interfaces := #[]
  cf := some (fileOf pool16 2 #[] #[] 1537 4 #[] #[])
  fields := #[]
  methods := #[]
  instanceTypes := #[]
  staticTypes := #[]
  resolved := Array.replicate 8 none
  statics := none }

/-- the primitive byte -/
def k17 : Class := { plain "byte" none with kind := .primitive 'B', accessFlags := 0x411 }
/-- [B -/
def k18 : Class := { plain "[B" (some 0) with kind := .array 17 .byte, interfaces := #[16, 2], accessFlags := 1041 }

/-- the primitive char -/
def k19 : Class := { plain "char" none with kind := .primitive 'C', accessFlags := 0x411 }
/-- [C -/
def k20 : Class := { plain "[C" (some 0) with kind := .array 19 .char, interfaces := #[16, 2], accessFlags := 1041 }

def heap : Heap := #[{ cls := 7, slots := #[.long 0, .int 1, .null, .int 0, .null, .int 0, .int 0], vm := .statics 7 },
  { cls := 8, slots := #[.int 0, .int 8, .int 0, .int 1], vm := .statics 8 },
  { cls := 10, slots := #[.ref 4, .ref 10, .ref 9, .ref 7, .ref 6, .ref 8, .ref 11, .ref 12, .ref 5, .ref 13, .null], vm := .statics 10 },
  { cls := 14, slots := #[.null, .null, .null], vm := .statics 14 },
  { cls := 10, slots := #[.null, .int 0, .int 0], vm := .none },
  { cls := 10, slots := #[.null, .int 8, .int 0], vm := .none },
  { cls := 10, slots := #[.null, .int 4, .int 0], vm := .none },
  { cls := 10, slots := #[.null, .int 3, .int 0], vm := .none },
  { cls := 10, slots := #[.null, .int 5, .int 0], vm := .none },
  { cls := 10, slots := #[.null, .int 2, .int 0], vm := .none },
  { cls := 10, slots := #[.null, .int 1, .int 0], vm := .none },
  { cls := 10, slots := #[.null, .int 6, .int 0], vm := .none },
  { cls := 10, slots := #[.null, .int 7, .int 0], vm := .none },
  { cls := 10, slots := #[.null, .int 9, .int 0], vm := .none }]
def classes : Array Class := #[k0, k1, k2, k3, k4, k5, k6, k7, k8, k9, k10, k11, k12, k13, k14, k15, k16, k17, k18, k19, k20]
def interned : List (Array UInt16 × Addr) := []
def slotsUsed : Nat := 55
def theMethod : MethodId := ⟨1, 1⟩
def args0 : Array Value := #[.int 1, .int 2, .int 3, .int 4, .int 5, .int 6]
def aboutOver (below : List Frame) : State where
  vm := { classes := classes, interned := interned.toArray }
  heap := heap
  slotsUsed := slotsUsed
  threads := #[{ frames := .invoking theMethod args0 :: below }]
def below0 : List Frame := [.native { method := ⟨0, 0⟩, args := #[] }]
def about1 : State := aboutOver below0
def p0 : Program := .bare "" "" ""
def e0 : Env := launch0.env 0 0 0
theorem w_frames : about1.frames = Frame.invoking theMethod args0 :: below0 := rfl
set_option maxRecDepth 65536 in
theorem w_args : argsFit about1.vm theMethod args0 = true := by decide +kernel
set_option maxRecDepth 65536 in
theorem w_heap : heapFits about1 = true := by decide +kernel
set_option maxRecDepth 65536 in
theorem w_runnable : about1.curStatus? = some .runnable := by decide +kernel
set_option maxRecDepth 65536 in
theorem w_alone : about1.alone = true := by decide +kernel
set_option maxRecDepth 65536 in
theorem w_named : about1.methodNamed? x = some theMethod := by decide +kernel
set_option maxRecDepth 65536 in
theorem w_hears : about1.hears theMethod below0 = true := by decide +kernel
set_option maxRecDepth 65536 in
theorem w_ripe : about1.ripe theMethod args0 below0 = true := by decide +kernel
theorem w_running : about1.status = .running := rfl
set_option maxRecDepth 65536 in
theorem w_room : about1.hasRoom e0.platform room_1 = true :=
  launch0.hasRoom_least _ room_1 (by decide +kernel) (by decide +kernel) (by decide +kernel) (by decide +kernel) (by decide +kernel) (by decide +kernel)
theorem allAtoms_all (ts : List Jvm.Cond) (a : Array Jvm.Value) (st : Jvm.State) : (allAtoms ts).before a st = ts.all (fun c => c.before a st) := by
  induction ts with
  | nil => rfl
  | cons c t ih =>
    show (Jvm.Cond.and c (allAtoms t)).before a st = _
    rw [Jvm.Cond.before_and, ih, List.all_cons]
def words1 : List Jvm.Cond := Jvm.Cond.code x code maxLocals ret :: tables_1
/-- a 'code' word, met by the world's own term for the bytes: nothing is compared byte by byte -/
theorem code_word {y : MethodName} {bytes : ByteArray} {mx : Nat} {rt : Option FieldType} {a : Array Value} {s : State} {m : MethodId} {meth : Method} {c : Code} (h1 : s.methodNamed? y = some m) (h2 : s.vm.method? m = some meth) (h3 : meth.code = some c) (h4 : c.code = bytes)
    (h5 : (c.maxLocals == mx && c.exceptionTable.isEmpty && decide (c.maxStack ≤ mostOperands) && decide (meth.sig.returnType = rt) && !meth.locks && decide (parseMethodDescriptor y.desc = some meth.sig)) = true) : (Jvm.Cond.code y bytes mx rt).before a s = true := by
  simp only [Bool.and_eq_true, beq_iff_eq, Bool.not_eq_true', decide_eq_true_eq] at h5
  obtain ⟨⟨⟨⟨⟨g1, g2⟩, g3⟩, g4⟩, g5⟩, g6⟩ := h5
  simp [Cond.before, Cond.holds, Cond.value, h1, h2, h3, h4, g1, g2, g3, g4, g5, g6]
def isCode : Jvm.Cond → Bool
  | .code _ _ _ _ => true
  | _ => false
theorem all_split {L : List Jvm.Cond} {P : Jvm.Cond → Bool} (h1 : L.all (fun c => isCode c || P c) = true) (h2 : ∀ c ∈ L.filter isCode, P c = true) : L.all P = true := by
  refine List.all_eq_true.mpr fun c hc => ?_
  have h := List.all_eq_true.mp h1 c hc
  rcases Bool.eq_false_or_eq_true (isCode c) with hi | hi
  · exact h2 c (List.mem_filter.mpr ⟨hc, hi⟩)
  · simpa [hi] using h
set_option maxRecDepth 65536 in
theorem w_c0 : (Jvm.Cond.code x code maxLocals ret).before args0 about1 = true := code_word (m := ⟨1, 1⟩) (meth := k1m1) (c := k1c1) (by decide +kernel) rfl rfl rfl (by decide +kernel)
set_option maxRecDepth 65536 in
theorem w_c1 : (Jvm.Cond.code ({ cls := "com/example/petrel/petrel/TokenIsPunctuationPinLaw", name := "makeText", desc := "(ICCC)Ljava/lang/String;" } : Jvm.MethodName) method_3_code (4 : Nat) (Option.some (Jvm.ClassFile.FieldType.object "java/lang/String"))).before args0 about1 = true := code_word (m := ⟨1, 2⟩) (meth := k1m2) (c := k1c2) (by decide +kernel) rfl rfl rfl (by decide +kernel)
set_option maxRecDepth 65536 in
theorem w_c2 : (Jvm.Cond.code ({ cls := "java/lang/String", name := "<init>", desc := "([C)V" } : Jvm.MethodName) jdk_42_method_3_code (2 : Nat) (Option.none : Option Jvm.ClassFile.FieldType)).before args0 about1 = true := code_word (m := ⟨7, 1⟩) (meth := k7m1) (c := k7c1) (by decide +kernel) rfl rfl rfl (by decide +kernel)
set_option maxRecDepth 65536 in
theorem w_c3 : (Jvm.Cond.code ({ cls := "java/lang/String", name := "<init>", desc := "([CIILjava/lang/Void;)V" } : Jvm.MethodName) jdk_42_method_149_code (6 : Nat) (Option.none : Option Jvm.ClassFile.FieldType)).before args0 about1 = true := code_word (m := ⟨7, 5⟩) (meth := k7m5) (c := k7c5) (by decide +kernel) rfl rfl rfl (by decide +kernel)
set_option maxRecDepth 65536 in
theorem w_c4 : (Jvm.Cond.code ({ cls := "java/lang/Object", name := "<init>", desc := "()V" } : Jvm.MethodName) object_method_1_code (1 : Nat) (Option.none : Option Jvm.ClassFile.FieldType)).before args0 about1 = true := code_word (m := ⟨0, 0⟩) (meth := k0m0) (c := k0c0) (by decide +kernel) rfl rfl rfl (by decide +kernel)
set_option maxRecDepth 65536 in
theorem w_c5 : (Jvm.Cond.code ({ cls := "java/lang/StringUTF16", name := "compress", desc := "([CII)[B" } : Jvm.MethodName) jdk_52_method_16_code (6 : Nat) (Option.some (Jvm.ClassFile.FieldType.array Jvm.ClassFile.FieldType.byte))).before args0 about1 = true := code_word (m := ⟨8, 8⟩) (meth := k8m8) (c := k8c8) (by decide +kernel) rfl rfl rfl (by decide +kernel)
set_option maxRecDepth 65536 in
theorem w_c6 : (Jvm.Cond.code ({ cls := "java/lang/StringUTF16", name := "compress", desc := "([CI[BII)I" } : Jvm.MethodName) jdk_52_method_21_code (7 : Nat) (Option.some Jvm.ClassFile.FieldType.int)).before args0 about1 = true := code_word (m := ⟨8, 9⟩) (meth := k8m9) (c := k8c9) (by decide +kernel) rfl rfl rfl (by decide +kernel)
set_option maxRecDepth 65536 in
theorem w_c7 : (Jvm.Cond.code ({ cls := "java/lang/StringUTF16", name := "coderFromArrayLen", desc := "([BI)B" } : Jvm.MethodName) jdk_52_method_15_code (2 : Nat) (Option.some Jvm.ClassFile.FieldType.byte)).before args0 about1 = true := code_word (m := ⟨8, 7⟩) (meth := k8m7) (c := k8c7) (by decide +kernel) rfl rfl rfl (by decide +kernel)
set_option maxRecDepth 65536 in
theorem w_c8 : (Jvm.Cond.code ({ cls := "com/example/petrel/petrel/TokenIsPunctuationPinLaw", name := "kindOf", desc := "(I)Lcom/example/petrel/petrel/HoaLexer$Kind;" } : Jvm.MethodName) method_4_code (1 : Nat) (Option.some (Jvm.ClassFile.FieldType.object "com/example/petrel/petrel/HoaLexer$Kind"))).before args0 about1 = true := code_word (m := ⟨1, 3⟩) (meth := k1m3) (c := k1c3) (by decide +kernel) rfl rfl rfl (by decide +kernel)
set_option maxRecDepth 65536 in
theorem w_c9 : (Jvm.Cond.code ({ cls := "com/example/petrel/petrel/HoaLexer$Token", name := "<init>", desc := "(Lcom/example/petrel/petrel/HoaLexer$Kind;Ljava/lang/String;I)V" } : Jvm.MethodName) prog_10_method_1_code (4 : Nat) (Option.none : Option Jvm.ClassFile.FieldType)).before args0 about1 = true := code_word (m := ⟨12, 0⟩) (meth := k12m0) (c := k12c0) (by decide +kernel) rfl rfl rfl (by decide +kernel)
set_option maxRecDepth 65536 in
theorem w_c10 : (Jvm.Cond.code ({ cls := "java/lang/Record", name := "<init>", desc := "()V" } : Jvm.MethodName) jdk_30_method_1_code (1 : Nat) (Option.none : Option Jvm.ClassFile.FieldType)).before args0 about1 = true := code_word (m := ⟨11, 0⟩) (meth := k11m0) (c := k11c0) (by decide +kernel) rfl rfl rfl (by decide +kernel)
set_option maxRecDepth 65536 in
theorem w_c11 : (Jvm.Cond.code ({ cls := "com/example/petrel/petrel/HoaLexer$Token", name := "isPunctuation", desc := "(C)Z" } : Jvm.MethodName) prog_10_method_3_code (2 : Nat) (Option.some Jvm.ClassFile.FieldType.boolean)).before args0 about1 = true := code_word (m := ⟨12, 1⟩) (meth := k12m1) (c := k12c1) (by decide +kernel) rfl rfl rfl (by decide +kernel)
set_option maxRecDepth 65536 in
theorem w_c12 : (Jvm.Cond.code ({ cls := "java/lang/StringUTF16", name := "toBytes", desc := "([CII)[B" } : Jvm.MethodName) jdk_52_method_14_code (5 : Nat) (Option.some (Jvm.ClassFile.FieldType.array Jvm.ClassFile.FieldType.byte))).before args0 about1 = true := code_word (m := ⟨8, 6⟩) (meth := k8m6) (c := k8c6) (by decide +kernel) rfl rfl rfl (by decide +kernel)
set_option maxRecDepth 65536 in
theorem w_c13 : (Jvm.Cond.code ({ cls := "java/lang/StringUTF16", name := "newBytesFor", desc := "(I)[B" } : Jvm.MethodName) jdk_52_method_2_code (1 : Nat) (Option.some (Jvm.ClassFile.FieldType.array Jvm.ClassFile.FieldType.byte))).before args0 about1 = true := code_word (m := ⟨8, 1⟩) (meth := k8m1) (c := k8c1) (by decide +kernel) rfl rfl rfl (by decide +kernel)
set_option maxRecDepth 65536 in
theorem w_c14 : (Jvm.Cond.code ({ cls := "java/lang/StringUTF16", name := "newBytesLength", desc := "(I)I" } : Jvm.MethodName) jdk_52_method_3_code (1 : Nat) (Option.some Jvm.ClassFile.FieldType.int)).before args0 about1 = true := code_word (m := ⟨8, 2⟩) (meth := k8m2) (c := k8c2) (by decide +kernel) rfl rfl rfl (by decide +kernel)
set_option maxRecDepth 65536 in
theorem w_c15 : (Jvm.Cond.code ({ cls := "java/lang/StringUTF16", name := "putChar", desc := "([BII)V" } : Jvm.MethodName) jdk_52_method_4_code (3 : Nat) (Option.none : Option Jvm.ClassFile.FieldType)).before args0 about1 = true := code_word (m := ⟨8, 3⟩) (meth := k8m3) (c := k8c3) (by decide +kernel) rfl rfl rfl (by decide +kernel)
set_option maxRecDepth 65536 in
theorem w_c16 : (Jvm.Cond.code ({ cls := "java/lang/StringUTF16", name := "getChar", desc := "([BI)C" } : Jvm.MethodName) jdk_52_method_5_code (2 : Nat) (Option.some Jvm.ClassFile.FieldType.char)).before args0 about1 = true := code_word (m := ⟨8, 4⟩) (meth := k8m4) (c := k8c4) (by decide +kernel) rfl rfl rfl (by decide +kernel)
set_option maxRecDepth 65536 in
theorem w_c17 : (Jvm.Cond.code ({ cls := "java/lang/String", name := "length", desc := "()I" } : Jvm.MethodName) jdk_42_method_54_code (1 : Nat) (Option.some Jvm.ClassFile.FieldType.int)).before args0 about1 = true := code_word (m := ⟨7, 2⟩) (meth := k7m2) (c := k7c2) (by decide +kernel) rfl rfl rfl (by decide +kernel)
set_option maxRecDepth 65536 in
theorem w_c18 : (Jvm.Cond.code ({ cls := "java/lang/String", name := "coder", desc := "()B" } : Jvm.MethodName) jdk_42_method_152_code (1 : Nat) (Option.some Jvm.ClassFile.FieldType.byte)).before args0 about1 = true := code_word (m := ⟨7, 7⟩) (meth := k7m7) (c := k7c7) (by decide +kernel) rfl rfl rfl (by decide +kernel)
set_option maxRecDepth 65536 in
theorem w_c19 : (Jvm.Cond.code ({ cls := "java/lang/String", name := "valueOf", desc := "(C)Ljava/lang/String;" } : Jvm.MethodName) jdk_42_method_139_code (1 : Nat) (Option.some (Jvm.ClassFile.FieldType.object "java/lang/String"))).before args0 about1 = true := code_word (m := ⟨7, 4⟩) (meth := k7m4) (c := k7c4) (by decide +kernel) rfl rfl rfl (by decide +kernel)
set_option maxRecDepth 65536 in
theorem w_c20 : (Jvm.Cond.code ({ cls := "java/lang/StringLatin1", name := "canEncode", desc := "(C)Z" } : Jvm.MethodName) jdk_43_method_3_code (1 : Nat) (Option.some Jvm.ClassFile.FieldType.boolean)).before args0 about1 = true := code_word (m := ⟨13, 2⟩) (meth := k13m2) (c := k13c2) (by decide +kernel) rfl rfl rfl (by decide +kernel)
set_option maxRecDepth 65536 in
theorem w_c21 : (Jvm.Cond.code ({ cls := "java/lang/StringUTF16", name := "toBytes", desc := "(C)[B" } : Jvm.MethodName) jdk_52_method_24_code (2 : Nat) (Option.some (Jvm.ClassFile.FieldType.array Jvm.ClassFile.FieldType.byte))).before args0 about1 = true := code_word (m := ⟨8, 10⟩) (meth := k8m10) (c := k8c10) (by decide +kernel) rfl rfl rfl (by decide +kernel)
set_option maxRecDepth 65536 in
theorem w_c22 : (Jvm.Cond.code ({ cls := "java/lang/String", name := "<init>", desc := "([BB)V" } : Jvm.MethodName) jdk_42_method_151_code (3 : Nat) (Option.none : Option Jvm.ClassFile.FieldType)).before args0 about1 = true := code_word (m := ⟨7, 6⟩) (meth := k7m6) (c := k7c6) (by decide +kernel) rfl rfl rfl (by decide +kernel)
set_option maxRecDepth 65536 in
theorem w_c23 : (Jvm.Cond.code ({ cls := "java/lang/StringLatin1", name := "toBytes", desc := "(C)[B" } : Jvm.MethodName) jdk_43_method_46_code (1 : Nat) (Option.some (Jvm.ClassFile.FieldType.array Jvm.ClassFile.FieldType.byte))).before args0 about1 = true := code_word (m := ⟨13, 3⟩) (meth := k13m3) (c := k13c3) (by decide +kernel) rfl rfl rfl (by decide +kernel)
set_option maxRecDepth 65536 in
theorem w_c24 : (Jvm.Cond.code ({ cls := "java/lang/String", name := "charAt", desc := "(I)C" } : Jvm.MethodName) jdk_42_method_56_code (2 : Nat) (Option.some Jvm.ClassFile.FieldType.char)).before args0 about1 = true := code_word (m := ⟨7, 3⟩) (meth := k7m3) (c := k7c3) (by decide +kernel) rfl rfl rfl (by decide +kernel)
set_option maxRecDepth 65536 in
theorem w_c25 : (Jvm.Cond.code ({ cls := "java/lang/String", name := "isLatin1", desc := "()Z" } : Jvm.MethodName) jdk_42_method_154_code (1 : Nat) (Option.some Jvm.ClassFile.FieldType.boolean)).before args0 about1 = true := code_word (m := ⟨7, 8⟩) (meth := k7m8) (c := k7c8) (by decide +kernel) rfl rfl rfl (by decide +kernel)
set_option maxRecDepth 65536 in
theorem w_c26 : (Jvm.Cond.code ({ cls := "java/lang/StringLatin1", name := "charAt", desc := "([BI)C" } : Jvm.MethodName) jdk_43_method_2_code (2 : Nat) (Option.some Jvm.ClassFile.FieldType.char)).before args0 about1 = true := code_word (m := ⟨13, 1⟩) (meth := k13m1) (c := k13c1) (by decide +kernel) rfl rfl rfl (by decide +kernel)
set_option maxRecDepth 65536 in
theorem w_c27 : (Jvm.Cond.code ({ cls := "java/lang/String", name := "checkIndex", desc := "(II)V" } : Jvm.MethodName) jdk_42_method_155_code (2 : Nat) (Option.none : Option Jvm.ClassFile.FieldType)).before args0 about1 = true := code_word (m := ⟨7, 9⟩) (meth := k7m9) (c := k7c9) (by decide +kernel) rfl rfl rfl (by decide +kernel)
set_option maxRecDepth 65536 in
theorem w_c28 : (Jvm.Cond.code ({ cls := "jdk/internal/util/Preconditions", name := "checkIndex", desc := "(IILjava/util/function/BiFunction;)I" } : Jvm.MethodName) jdk_41_method_11_code (3 : Nat) (Option.some Jvm.ClassFile.FieldType.int)).before args0 about1 = true := code_word (m := ⟨14, 1⟩) (meth := k14m1) (c := k14c1) (by decide +kernel) rfl rfl rfl (by decide +kernel)
set_option maxRecDepth 65536 in
theorem w_c29 : (Jvm.Cond.code ({ cls := "java/lang/StringUTF16", name := "charAt", desc := "([BI)C" } : Jvm.MethodName) jdk_52_method_83_code (2 : Nat) (Option.some Jvm.ClassFile.FieldType.char)).before args0 about1 = true := code_word (m := ⟨8, 11⟩) (meth := k8m11) (c := k8c11) (by decide +kernel) rfl rfl rfl (by decide +kernel)
set_option maxRecDepth 65536 in
theorem w_c30 : (Jvm.Cond.code ({ cls := "java/lang/StringUTF16", name := "checkIndex", desc := "(I[B)V" } : Jvm.MethodName) jdk_52_method_91_code (2 : Nat) (Option.none : Option Jvm.ClassFile.FieldType)).before args0 about1 = true := code_word (m := ⟨8, 12⟩) (meth := k8m12) (c := k8c12) (by decide +kernel) rfl rfl rfl (by decide +kernel)
set_option maxRecDepth 65536 in
theorem w_c31 : (Jvm.Cond.code ({ cls := "java/lang/StringUTF16", name := "length", desc := "([B)I" } : Jvm.MethodName) jdk_52_method_6_code (1 : Nat) (Option.some Jvm.ClassFile.FieldType.int)).before args0 about1 = true := code_word (m := ⟨8, 5⟩) (meth := k8m5) (c := k8c5) (by decide +kernel) rfl rfl rfl (by decide +kernel)
def codes1 : List Jvm.Cond := [Jvm.Cond.code x code maxLocals ret, Jvm.Cond.code ({ cls := "com/example/petrel/petrel/TokenIsPunctuationPinLaw", name := "makeText", desc := "(ICCC)Ljava/lang/String;" } : Jvm.MethodName) method_3_code (4 : Nat) (Option.some (Jvm.ClassFile.FieldType.object "java/lang/String")), Jvm.Cond.code ({ cls := "java/lang/String", name := "<init>", desc := "([C)V" } : Jvm.MethodName) jdk_42_method_3_code (2 : Nat) (Option.none : Option Jvm.ClassFile.FieldType), Jvm.Cond.code ({ cls := "java/lang/String", name := "<init>", desc := "([CIILjava/lang/Void;)V" } : Jvm.MethodName) jdk_42_method_149_code (6 : Nat) (Option.none : Option Jvm.ClassFile.FieldType), Jvm.Cond.code ({ cls := "java/lang/Object", name := "<init>", desc := "()V" } : Jvm.MethodName) object_method_1_code (1 : Nat) (Option.none : Option Jvm.ClassFile.FieldType), Jvm.Cond.code ({ cls := "java/lang/StringUTF16", name := "compress", desc := "([CII)[B" } : Jvm.MethodName) jdk_52_method_16_code (6 : Nat) (Option.some (Jvm.ClassFile.FieldType.array Jvm.ClassFile.FieldType.byte)), Jvm.Cond.code ({ cls := "java/lang/StringUTF16", name := "compress", desc := "([CI[BII)I" } : Jvm.MethodName) jdk_52_method_21_code (7 : Nat) (Option.some Jvm.ClassFile.FieldType.int), Jvm.Cond.code ({ cls := "java/lang/StringUTF16", name := "coderFromArrayLen", desc := "([BI)B" } : Jvm.MethodName) jdk_52_method_15_code (2 : Nat) (Option.some Jvm.ClassFile.FieldType.byte), Jvm.Cond.code ({ cls := "com/example/petrel/petrel/TokenIsPunctuationPinLaw", name := "kindOf", desc := "(I)Lcom/example/petrel/petrel/HoaLexer$Kind;" } : Jvm.MethodName) method_4_code (1 : Nat) (Option.some (Jvm.ClassFile.FieldType.object "com/example/petrel/petrel/HoaLexer$Kind")), Jvm.Cond.code ({ cls := "com/example/petrel/petrel/HoaLexer$Token", name := "<init>", desc := "(Lcom/example/petrel/petrel/HoaLexer$Kind;Ljava/lang/String;I)V" } : Jvm.MethodName) prog_10_method_1_code (4 : Nat) (Option.none : Option Jvm.ClassFile.FieldType), Jvm.Cond.code ({ cls := "java/lang/Record", name := "<init>", desc := "()V" } : Jvm.MethodName) jdk_30_method_1_code (1 : Nat) (Option.none : Option Jvm.ClassFile.FieldType), Jvm.Cond.code ({ cls := "com/example/petrel/petrel/HoaLexer$Token", name := "isPunctuation", desc := "(C)Z" } : Jvm.MethodName) prog_10_method_3_code (2 : Nat) (Option.some Jvm.ClassFile.FieldType.boolean), Jvm.Cond.code ({ cls := "java/lang/StringUTF16", name := "toBytes", desc := "([CII)[B" } : Jvm.MethodName) jdk_52_method_14_code (5 : Nat) (Option.some (Jvm.ClassFile.FieldType.array Jvm.ClassFile.FieldType.byte)), Jvm.Cond.code ({ cls := "java/lang/StringUTF16", name := "newBytesFor", desc := "(I)[B" } : Jvm.MethodName) jdk_52_method_2_code (1 : Nat) (Option.some (Jvm.ClassFile.FieldType.array Jvm.ClassFile.FieldType.byte)), Jvm.Cond.code ({ cls := "java/lang/StringUTF16", name := "newBytesLength", desc := "(I)I" } : Jvm.MethodName) jdk_52_method_3_code (1 : Nat) (Option.some Jvm.ClassFile.FieldType.int), Jvm.Cond.code ({ cls := "java/lang/StringUTF16", name := "putChar", desc := "([BII)V" } : Jvm.MethodName) jdk_52_method_4_code (3 : Nat) (Option.none : Option Jvm.ClassFile.FieldType), Jvm.Cond.code ({ cls := "java/lang/StringUTF16", name := "getChar", desc := "([BI)C" } : Jvm.MethodName) jdk_52_method_5_code (2 : Nat) (Option.some Jvm.ClassFile.FieldType.char), Jvm.Cond.code ({ cls := "java/lang/String", name := "length", desc := "()I" } : Jvm.MethodName) jdk_42_method_54_code (1 : Nat) (Option.some Jvm.ClassFile.FieldType.int), Jvm.Cond.code ({ cls := "java/lang/String", name := "coder", desc := "()B" } : Jvm.MethodName) jdk_42_method_152_code (1 : Nat) (Option.some Jvm.ClassFile.FieldType.byte), Jvm.Cond.code ({ cls := "java/lang/String", name := "valueOf", desc := "(C)Ljava/lang/String;" } : Jvm.MethodName) jdk_42_method_139_code (1 : Nat) (Option.some (Jvm.ClassFile.FieldType.object "java/lang/String")), Jvm.Cond.code ({ cls := "java/lang/StringLatin1", name := "canEncode", desc := "(C)Z" } : Jvm.MethodName) jdk_43_method_3_code (1 : Nat) (Option.some Jvm.ClassFile.FieldType.boolean), Jvm.Cond.code ({ cls := "java/lang/StringUTF16", name := "toBytes", desc := "(C)[B" } : Jvm.MethodName) jdk_52_method_24_code (2 : Nat) (Option.some (Jvm.ClassFile.FieldType.array Jvm.ClassFile.FieldType.byte)), Jvm.Cond.code ({ cls := "java/lang/String", name := "<init>", desc := "([BB)V" } : Jvm.MethodName) jdk_42_method_151_code (3 : Nat) (Option.none : Option Jvm.ClassFile.FieldType), Jvm.Cond.code ({ cls := "java/lang/StringLatin1", name := "toBytes", desc := "(C)[B" } : Jvm.MethodName) jdk_43_method_46_code (1 : Nat) (Option.some (Jvm.ClassFile.FieldType.array Jvm.ClassFile.FieldType.byte)), Jvm.Cond.code ({ cls := "java/lang/String", name := "charAt", desc := "(I)C" } : Jvm.MethodName) jdk_42_method_56_code (2 : Nat) (Option.some Jvm.ClassFile.FieldType.char), Jvm.Cond.code ({ cls := "java/lang/String", name := "isLatin1", desc := "()Z" } : Jvm.MethodName) jdk_42_method_154_code (1 : Nat) (Option.some Jvm.ClassFile.FieldType.boolean), Jvm.Cond.code ({ cls := "java/lang/StringLatin1", name := "charAt", desc := "([BI)C" } : Jvm.MethodName) jdk_43_method_2_code (2 : Nat) (Option.some Jvm.ClassFile.FieldType.char), Jvm.Cond.code ({ cls := "java/lang/String", name := "checkIndex", desc := "(II)V" } : Jvm.MethodName) jdk_42_method_155_code (2 : Nat) (Option.none : Option Jvm.ClassFile.FieldType), Jvm.Cond.code ({ cls := "jdk/internal/util/Preconditions", name := "checkIndex", desc := "(IILjava/util/function/BiFunction;)I" } : Jvm.MethodName) jdk_41_method_11_code (3 : Nat) (Option.some Jvm.ClassFile.FieldType.int), Jvm.Cond.code ({ cls := "java/lang/StringUTF16", name := "charAt", desc := "([BI)C" } : Jvm.MethodName) jdk_52_method_83_code (2 : Nat) (Option.some Jvm.ClassFile.FieldType.char), Jvm.Cond.code ({ cls := "java/lang/StringUTF16", name := "checkIndex", desc := "(I[B)V" } : Jvm.MethodName) jdk_52_method_91_code (2 : Nat) (Option.none : Option Jvm.ClassFile.FieldType), Jvm.Cond.code ({ cls := "java/lang/StringUTF16", name := "length", desc := "([B)I" } : Jvm.MethodName) jdk_52_method_6_code (1 : Nat) (Option.some Jvm.ClassFile.FieldType.int)]
set_option maxRecDepth 65536 in
theorem codes_eq : words1.filter isCode = codes1 := rfl
theorem w_codes : ∀ c ∈ words1.filter isCode, c.before args0 about1 = true := by
  rw [codes_eq]
  intro c hc
  simp only [codes1, List.mem_cons, List.not_mem_nil, or_false] at hc
  rcases hc with rfl | rfl | rfl | rfl | rfl | rfl | rfl | rfl | rfl | rfl | rfl | rfl | rfl | rfl | rfl | rfl | rfl | rfl | rfl | rfl | rfl | rfl | rfl | rfl | rfl | rfl | rfl | rfl | rfl | rfl | rfl | rfl
  · exact w_c0
  · exact w_c1
  · exact w_c2
  · exact w_c3
  · exact w_c4
  · exact w_c5
  · exact w_c6
  · exact w_c7
  · exact w_c8
  · exact w_c9
  · exact w_c10
  · exact w_c11
  · exact w_c12
  · exact w_c13
  · exact w_c14
  · exact w_c15
  · exact w_c16
  · exact w_c17
  · exact w_c18
  · exact w_c19
  · exact w_c20
  · exact w_c21
  · exact w_c22
  · exact w_c23
  · exact w_c24
  · exact w_c25
  · exact w_c26
  · exact w_c27
  · exact w_c28
  · exact w_c29
  · exact w_c30
  · exact w_c31
set_option maxRecDepth 65536 in
theorem w_t1 : (words1.take 24).all (fun c => isCode c || c.before args0 about1) = true := by decide +kernel
set_option maxRecDepth 65536 in
theorem w_t2 : ((words1.drop 24).take 24).all (fun c => isCode c || c.before args0 about1) = true := by decide +kernel
set_option maxRecDepth 65536 in
theorem w_t3 : (((words1.drop 24).drop 24).take 24).all (fun c => isCode c || c.before args0 about1) = true := by decide +kernel
set_option maxRecDepth 65536 in
theorem w_t4 : ((((words1.drop 24).drop 24).drop 24).take 24).all (fun c => isCode c || c.before args0 about1) = true := by decide +kernel
set_option maxRecDepth 65536 in
theorem w_t5 : (((((words1.drop 24).drop 24).drop 24).drop 24).take 24).all (fun c => isCode c || c.before args0 about1) = true := by decide +kernel
set_option maxRecDepth 65536 in
theorem w_t6 : ((((((words1.drop 24).drop 24).drop 24).drop 24).drop 24).take 24).all (fun c => isCode c || c.before args0 about1) = true := by decide +kernel
set_option maxRecDepth 65536 in
theorem w_t7 : ((((((words1.drop 24).drop 24).drop 24).drop 24).drop 24).drop 24).all (fun c => isCode c || c.before args0 about1) = true := by decide +kernel
theorem w_tables : (allAtoms (Jvm.Cond.code x code maxLocals ret :: tables_1)).before args0 about1 = true := by
  rw [allAtoms_all]
  show words1.all (fun c => c.before args0 about1) = true
  refine all_split ?_ w_codes
  rw [← List.take_append_drop 24 words1, List.all_append, w_t1, ← List.take_append_drop 24 (words1.drop 24), List.all_append, w_t2, ← List.take_append_drop 24 ((words1.drop 24).drop 24), List.all_append, w_t3, ← List.take_append_drop 24 (((words1.drop 24).drop 24).drop 24), List.all_append, w_t4, ← List.take_append_drop 24 ((((words1.drop 24).drop 24).drop 24).drop 24), List.all_append, w_t5, ← List.take_append_drop 24 (((((words1.drop 24).drop 24).drop 24).drop 24).drop 24), List.all_append, w_t6, w_t7]
  rfl
set_option maxRecDepth 65536 in
theorem w_rest : rest_1_c.before args0 about1 = true := by decide +kernel
set_option maxRecDepth 65536 in
theorem w_case : (Jvm.Cond.and given_1 narrow_1).before args0 about1 = true := by decide +kernel
set_option maxRecDepth 65536 in
theorem w_consts : constsHeld consts_1 about1 := Jvm.Lit.constsHeldB_iff.mp (by decide +kernel)
theorem w_applies : (headSpec (Jvm.Cond.code x code maxLocals ret :: tables_1) room_1).applies x e0.platform about1 = true :=
  (Spec.applies_iff w_frames).mpr ⟨w_running, w_runnable, w_alone, w_named, w_hears, w_ripe, w_room, w_tables⟩
theorem atStart : AtStart classFile x code maxLocals ret World_1 tables_1 room_1 Calls_1 rest_1 Pre_1 launch0 p0 e0 about1 theMethod args0 below0 :=
  ⟨lists_1, trivial, launch0.admits_env _ _ _, launch0.least_env, fairChoices_fair.cas, fairChoices_fair.clock, w_frames, w_args, w_heap, w_applies, ⟨w_consts, trivial⟩, w_rest, w_case⟩
end start1
theorem witness_1 : WitnessClaimed_1 := ⟨start1.p0, start1.e0, start1.about1, start1.theMethod, start1.args0, start1.below0, start1.atStart⟩
end Jvm.Pilot.@@N@@
