import JvmDerived
import JvmDerived.Pilot.@@N@@Statement
import JvmDerived.Pilot.@@N@@Code
set_option linter.unusedVariables false
set_option linter.unusedSimpArgs false
namespace Jvm.Pilot.@@N@@
namespace GK
open Jvm Jvm.ClassFile Sem Op Lib Jvm.Free Jvm.Stand Jvm.LawKit Jvm.RoadKit Bundle
/-! A small program logic over the library's walks: 'Go' says that from a frame at pc the body runs to its return, and what holds there. -/
abbrev Md := Option (List (String × Nat))
def Bk0 (md : Md) (Z s : State) (sf : List Addr) (vm0 : Vm) (h : Heap) : Prop :=
  match md with
  | none => vm0 = s.vm
  | some EL => (∃ k, s.Since vm0 k ∧ k ≤ h.size) ∧ (∃ a0, EW Z a0 EL) ∧ CHr Z EL s.vm s.heap vm0 h ∧ ∀ x ∈ sf, x < h.size ∧ Safe Z EL vm0 h x
/-- what is kept along a walk: the start's cells stand; the tables' book -/
def Bok (md : Md) (Z : State) (n0 : Nat) (s : State) (sf : List Addr) (vm0 : Vm) (h : Heap) : Prop := Old Z n0 h ∧ Bk0 md Z s sf vm0 h
def SafeAll (md : Md) (Z : State) (sf : List Addr) (vm : Vm) (h : Heap) : Prop :=
  match md with
  | none => True
  | some EL => ∀ x ∈ sf, x < h.size ∧ Safe Z EL vm h x
def FinE (md : Md) (Z s : State) (o : Outcome) (t : State) (L : List Loc) (k n : Nat) : Prop :=
  match md with
  | none => FrameEnd s o t L k n
  | some EL => CHr Z EL s.vm s.heap t.vm t.heap ∧ ReturnedEndW s o t L k n
section B
variable {md : Md} {EL : List (String × Nat)} {Z s : State} {n0 : Nat} {sf sf' ws : List Addr} {vm0 vm1 : Vm} {h h' h2 : Heap} {x a : Addr} {sl : Nat} {v : Value}
theorem extR (h : Heap) : Ext h h := ⟨Nat.le_refl _, fun _ _ q => q⟩
theorem extT (E : Ext h h') (E' : Ext h' h2) : Ext h h2 := ⟨Nat.le_trans E.1 E'.1, fun a c q => E'.2 a c (E.2 a c q)⟩
/-- a write beyond h -/
theorem extW (E : Ext h h') (W : Wr h' h2 a sl v) (q : h.size ≤ a) : Ext h h2 := by
  obtain ⟨c, -, -, -, rfl⟩ := W
  refine ⟨by simpa using E.1, fun b cb hb => ?_⟩
  have hlt := (Array.getElem?_eq_some_iff.mp hb).1
  rw [Array.getElem?_setIfInBounds_ne (by omega)]
  exact E.2 b cb hb
theorem extK (E : Ext h h') (K : Keep h' h2 ws) (q : ∀ x ∈ ws, h.size ≤ x) : Ext h h2 :=
  ⟨Nat.le_trans E.1 K.1, fun b cb hb => K.2.1 b cb (E.2 b cb hb) fun z => by
    have hlt := (Array.getElem?_eq_some_iff.mp hb).1
    have := q b z; omega⟩
theorem keepE (E : Ext h h') (ws : List Addr) : Keep h h' ws := (Keep.refl h ws).ext E
theorem Bok.n0le (B : Bok md Z n0 s sf vm0 h) : n0 ≤ h.size := B.1.1 ▸ B.1.2.1
theorem Bok.sub (B : Bok md Z n0 s sf vm0 h) (q : ∀ x ∈ sf', x ∈ sf) : Bok md Z n0 s sf' vm0 h := by
  cases md with
  | none => exact B
  | some EL => exact ⟨B.1, B.2.1, B.2.2.1, B.2.2.2.1, fun x hx => B.2.2.2.2 x (q x hx)⟩
theorem Bok.keep (B : Bok md Z n0 s sf vm0 h) (K : Keep h h' ws) (q : ∀ x ∈ ws, x ∈ sf) (q0 : ∀ x ∈ ws, n0 ≤ x) : Bok md Z n0 s sf vm0 h' := by
  refine ⟨B.1.keep K q0, ?_⟩
  cases md with
  | none => exact B.2
  | some EL =>
    obtain ⟨-, ⟨k, h1, h2⟩, h3, h4, h5⟩ := B
    have C := CHr.keep K (fun x hx => (h5 x (q x hx)).2) h4.1
    exact ⟨⟨k, h1, Nat.le_trans h2 K.1⟩, h3, h4.trans C, fun x hx => ⟨Nat.lt_of_lt_of_le (h5 x hx).1 K.1, C.safe (h5 x hx).1 (h5 x hx).2⟩⟩
theorem Bok.wr (B : Bok md Z n0 s sf vm0 h) (W : Wr h h' a sl v) (q : a ∈ sf) (q0 : n0 ≤ a) : Bok md Z n0 s sf vm0 h' :=
  B.keep (Keep.of_wr W) (fun x hx => by cases List.mem_singleton.mp hx; exact q) (fun x hx => by cases List.mem_singleton.mp hx; exact q0)
theorem Bok.ext (B : Bok md Z n0 s sf vm0 h) (E : Ext h h') : Bok md Z n0 s sf vm0 h' :=
  B.keep (keepE E []) (fun x hx => nomatch hx) (fun x hx => nomatch hx)
theorem Bok.new (B : Bok md Z n0 s sf vm0 h) (E : Ext h h') (q : x < h'.size) (r : h.size ≤ x) : Bok md Z n0 s (x :: sf) vm0 h' := by
  have B' := B.ext E
  cases md with
  | none => exact B'
  | some EL =>
    refine ⟨B'.1, B'.2.1, B'.2.2.1, B'.2.2.2.1, fun y hy => ?_⟩
    rcases List.mem_cons.mp hy with rfl | hy
    · exact ⟨q, fun b => Safe.new r ((B.2.2.2.1.1.step fun _ _ _ q => E.2 _ _ q).2 _ b)⟩
    · exact B'.2.2.2.2 y hy
end B
/-- Java's x >>> y -/
def ushr (x y : Int32) : Int32 := (x.toUInt32 >>> (y &&& 31).toUInt32).toInt32
def ushrL (x : Int64) (y : Int32) : Int64 := (x.toUInt64 >>> (y &&& 0x3f).toInt64.toUInt64).toInt64
/-- (char) x -/
def chr (x : Int32) : Int32 := x.toUInt32.toUInt16.toUInt32.toInt32
def Go (md : Md) (l : Launch) (Z : State) (n0 : Nat) (R : Room) (bytes : ByteArray) (ml : Nat) (ret : Option FieldType) (own mn : String) (Ψ : Option Value → Heap → List Addr → Prop)
    (cells slots : Nat) (sf : List Addr) (h : Heap) (pc : Nat) (L : Array Slot) (S : List Value) : Prop :=
  ∀ (p : Program) (e : Env) (s : State) (m : MethodId) (args : Array Value) (below : List Frame) (meth : Method) (c : Code) (vm0 : Vm) (T : State) (locs : List Loc),
    p.tables.exec = Jvm.exec → c.code = bytes → c.maxLocals = ml → meth.sig.returnType = ret → meth.locks = false → meth.name = mn → Z.vm.findClass own = some m.cls →
    Stand p l e R (s.setVm vm0) m args below meth c T locs cells slots → T.heap = h → Z.Warmed39 vm0 → Bok md Z n0 s sf vm0 h → Fr n0 locs →
    ∃ (s₂ : State) (o : Outcome), Steps p.tables e below (T.setTop (mkF m pc L S)) s₂ ∧ s₂.status = .running ∧ Ended s₂ below o ∧
      ∃ (v : Option Value) (L' : List Loc) (sf' : List Addr), o = .returned v ∧ Ψ v s₂.heap sf' ∧ Old Z n0 s₂.heap ∧ Fr n0 L' ∧ SafeAll md Z sf' s₂.vm s₂.heap ∧ FinE md Z s o s₂ L' R.cells R.slots
section G
variable {md : Md} {EL : List (String × Nat)} {l : Launch} {Z : State} {n0 : Nat} {R : Room} {bytes : ByteArray} {ml : Nat} {ret : Option FieldType} {own mn : String} {Ψ : Option Value → Heap → List Addr → Prop}
  {cells slots : Nat} {sf : List Addr} {h h' : Heap} {pc : Nat} {L : Array Slot} {S : List Value} {a0 : Array Value}
theorem Go.more {cells' slots' : Nat} {sf' : List Addr} (G : Go md l Z n0 R bytes ml ret own mn Ψ cells' slots' sf' h pc L S) (hc : cells ≤ cells') (hs : slots ≤ slots') (q : ∀ x ∈ sf', x ∈ sf) : Go md l Z n0 R bytes ml ret own mn Ψ cells slots sf h pc L S := by
  intro p e s m args below meth c vm0 T locs hx hby hml hr hlk hn ho X eT hZ B N
  exact G p e s m args below meth c vm0 T locs hx hby hml hr hlk hn ho (X.more hc hs) eT hZ (B.sub q) N
theorem Go.old (G : Old Z n0 h → n0 ≤ h.size → Go md l Z n0 R bytes ml ret own mn Ψ cells slots sf h pc L S) : Go md l Z n0 R bytes ml ret own mn Ψ cells slots sf h pc L S := by
  intro p e s m args below meth c vm0 T locs hx hby hml hr hlk hn ho X eT hZ B N
  exact G B.1 B.n0le p e s m args below meth c vm0 T locs hx hby hml hr hlk hn ho X eT hZ B N
theorem Go.pure {L' : Array Slot} {S' : List Value} (pc' : Nat) (k : ∀ (p : Program) (e : Env) (below : List Frame) (T target : State) (m : MethodId) (c : Code), At T m c below → p.tables.exec = Jvm.exec → c.code = bytes → Steps p.tables e below (T.setTop (mkF m pc' L' S')) target → Steps p.tables e below (T.setTop (mkF m pc L S)) target)
    (G : Go md l Z n0 R bytes ml ret own mn Ψ cells slots sf h pc' L' S') : Go md l Z n0 R bytes ml ret own mn Ψ cells slots sf h pc L S := by
  intro p e s m args below meth c vm0 T locs hx hby hml hr hlk hn ho X eT hZ B N
  obtain ⟨s₂, o, h1, r⟩ := G p e s m args below meth c vm0 T locs hx hby hml hr hlk hn ho X eT hZ B N
  exact ⟨s₂, o, k _ _ _ _ _ _ _ X.here hx hby h1, r⟩
/-- a step that may warm the tables and leaves the heap as it was -/
theorem Go.warm {L' : Array Slot} {S' : List Value} (pc' : Nat) (k : ∀ (p : Program) (e : Env) (s : State) (m : MethodId) (args : Array Value) (below : List Frame) (meth : Method) (c : Code) (T : State) (locs : List Loc), p.tables.exec = Jvm.exec → c.code = bytes → c.maxLocals = ml → Z.Warmed39 s.vm → s.vm.findClass own = some m.cls →
      Stand p l e R s m args below meth c T locs cells slots → T.heap = h → ∃ T', Stand p l e R s m args below meth c T' locs cells slots ∧ T'.heap = h ∧ ∀ target, Steps p.tables e below (T'.setTop (mkF m pc' L' S')) target → Steps p.tables e below (T.setTop (mkF m pc L S)) target)
    (G : Go md l Z n0 R bytes ml ret own mn Ψ cells slots sf h pc' L' S') : Go md l Z n0 R bytes ml ret own mn Ψ cells slots sf h pc L S := by
  intro p e s m args below meth c vm0 T locs hx hby hml hr hlk hn ho X eT hZ B N
  obtain ⟨T', X', e', st⟩ := k p e (s.setVm vm0) m args below meth c T locs hx hby hml hZ (by rw [show (s.setVm vm0).vm = vm0 from rfl, hZ.alike.findClass]; exact ho) X eT
  obtain ⟨s₂, o, h1, r⟩ := G p e s m args below meth c vm0 T' locs hx hby hml hr hlk hn ho X' e' hZ B N
  exact ⟨s₂, o, st _ h1, r⟩
/-- a write at a place of the object a -/
theorem Go.write {L' : Array Slot} {S' : List Value} {a : Addr} {sl : Nat} {v : Value} (pc' : Nat) (ha : a ∈ sf) (hn0 : n0 ≤ a) (k : ∀ (p : Program) (e : Env) (s : State) (m : MethodId) (args : Array Value) (below : List Frame) (meth : Method) (c : Code) (T : State) (locs : List Loc), p.tables.exec = Jvm.exec → c.code = bytes → c.maxLocals = ml → meth.name = mn → Z.Warmed39 s.vm → s.vm.findClass own = some m.cls →
      Stand p l e R s m args below meth c T locs cells slots → T.heap = h → ∃ T' h', Stand p l e R s m args below meth c T' (locs ++ [⟨a, sl⟩]) cells slots ∧ T'.heap = h' ∧ Wr h h' a sl v ∧ ∀ target, Steps p.tables e below (T'.setTop (mkF m pc' L' S')) target → Steps p.tables e below (T.setTop (mkF m pc L S)) target)
    (G : ∀ h', Wr h h' a sl v → Go md l Z n0 R bytes ml ret own mn Ψ cells slots sf h' pc' L' S') : Go md l Z n0 R bytes ml ret own mn Ψ cells slots sf h pc L S := by
  intro p e s m args below meth c vm0 T locs hx hby hml hr hlk hn ho X eT hZ B N
  obtain ⟨T', h', X', e', W, st⟩ := k p e (s.setVm vm0) m args below meth c T locs hx hby hml hn hZ (by rw [show (s.setVm vm0).vm = vm0 from rfl, hZ.alike.findClass]; exact ho) X eT
  obtain ⟨s₂, o, h1, r⟩ := G h' W p e s m args below meth c vm0 T' _ hx hby hml hr hlk hn ho X' e' hZ (B.wr W ha hn0) (Fr.snoc X' N hn0)
  exact ⟨s₂, o, st _ h1, r⟩
/-! the ends -/
theorem fin_ret {p : Program} {e : Env} {s : State} {m : MethodId} {args : Array Value} {below : List Frame} {meth : Method} {c : Code} {vm0 : Vm} {T : State} {locs : List Loc} {sf' : List Addr} {g : JFrame}
    (X : Stand p l e R (s.setVm vm0) m args below meth c T locs cells slots) (eT : T.heap = h) (hZ : Z.Warmed39 vm0) (B : Bok md Z n0 s sf vm0 h) (N : Fr n0 locs) {v : Option Value} (hv : meth.sig.returnType = none → v = none) (hlk : meth.locks = false) (hc : cells ≤ R.cells) (hs : slots ≤ R.slots)
    (Q : Ψ v h sf') (hsub : ∀ x ∈ sf', x ∈ sf)
    (st : ∀ fs, (∀ (f : JFrame) (acts : List Action), f.method = m → f.locked = none → f.entered = [] → (doReturn e (T.setTop f) acts v).1 = T.setFrames fs) → Steps p.tables e below (T.setTop g) (T.setFrames fs)) :
    ∃ (s₂ : State) (o : Outcome), Steps p.tables e below (T.setTop g) s₂ ∧ s₂.status = .running ∧ Ended s₂ below o ∧
      ∃ (v : Option Value) (L' : List Loc) (sf' : List Addr), o = .returned v ∧ Ψ v s₂.heap sf' ∧ Old Z n0 s₂.heap ∧ Fr n0 L' ∧ SafeAll md Z sf' s₂.vm s₂.heap ∧ FinE md Z s o s₂ L' R.cells R.slots := by
  have eh : ∀ fs, (T.setFrames fs).heap = h := fun fs => eT
  cases md with
  | none =>
    obtain rfl : vm0 = s.vm := B.2
    obtain ⟨fs, hr, hrun, hended, hW, hsame⟩ := X.leave hv hlk
    exact ⟨_, _, st fs hr, hrun, hended, v, locs, sf', rfl, by rw [eh]; exact Q, by rw [eh]; exact B.1, N, trivial, ⟨_, rfl⟩, hW, hsame.mono hc hs⟩
  | some EL =>
    obtain ⟨h0, ⟨k, h1, h2⟩, ⟨a0, h3⟩, h4, h5⟩ := B
    obtain ⟨fs, hr, hrun, hended, hW⟩ := X.leaveW h1 (by rw [eT]; exact h2) hv hlk
    have C : CHr Z EL vm0 h T.vm h := CHv.at X hZ h3 h4.1
    refine ⟨_, _, st fs hr, hrun, hended, v, locs, sf', rfl, by rw [eh]; exact Q, by rw [eh]; exact h0, N, fun x hx => ?_, ?_, hW.1, hW.2.1, hW.2.2.1, hW.2.2.2.mono hc hs⟩
    · rw [eh]; exact ⟨(h5 x (hsub x hx)).1, C.safe (h5 x (hsub x hx)).1 (h5 x (hsub x hx)).2⟩
    · rw [eh]; exact h4.trans C
theorem Go.ret0 (hd : decode bytes pc = .ok (.return_, 1)) (hret : ret = none) {sf' : List Addr} (Q : Ψ none h sf') (hsub : ∀ x ∈ sf', x ∈ sf) (hc : cells ≤ R.cells) (hs : slots ≤ R.slots) : Go md l Z n0 R bytes ml ret own mn Ψ cells slots sf h pc L [] := by
  intro p e s m args below meth c vm0 T locs hx hby hml hr hlk hn ho X eT hZ B N
  exact fin_ret X eT hZ B N (fun _ => rfl) hlk hc hs Q hsub fun fs hl => X.returnOut hx (hr.trans hret) (hb hby hd) hl
theorem Go.retW {t : FieldType} {w : Value} {i : Instr} (hd : decode bytes pc = .ok (i, 1)) (hret : ret = some t) (hn' : narrow t w = w)
    (hi : (i = .ireturn ∧ (t = .int ∨ t = .boolean ∨ t = .byte ∨ t = .char ∨ t = .short) ∧ ∃ z, w = .int z) ∨ (i = .lreturn ∧ t = .long ∧ ∃ z, w = .long z) ∨ (i = .dreturn ∧ t = .double ∧ ∃ z, w = .double z) ∨ (i = .freturn ∧ t = .float ∧ ∃ z, w = .float z) ∨ (i = .areturn ∧ t.isReference = true ∧ w.isRef = true))
    {sf' : List Addr} (Q : Ψ (some w) h sf') (hsub : ∀ x ∈ sf', x ∈ sf) (hc : cells ≤ R.cells) (hs : slots ≤ R.slots) : Go md l Z n0 R bytes ml ret own mn Ψ cells slots sf h pc L (w :: S) := by
  intro p e s m args below meth c vm0 T locs hx hby hml hr hlk hn ho X eT hZ B N
  exact fin_ret X eT hZ B N (fun q => by rw [hr, hret] at q; cases q) hlk hc hs Q hsub fun fs hl => retOut X hx (hr.trans hret) hn' hi (hb hby hd) hl
theorem Go.retI {z : Int32} (hd : decode bytes pc = .ok (.ireturn, 1)) (hret : ret = some .int) {sf' : List Addr} (Q : Ψ (some (.int z)) h sf') (hsub : ∀ x ∈ sf', x ∈ sf) (hc : cells ≤ R.cells) (hs : slots ≤ R.slots) : Go md l Z n0 R bytes ml ret own mn Ψ cells slots sf h pc L (.int z :: S) :=
  Go.retW hd hret rfl (Or.inl ⟨rfl, Or.inl rfl, _, rfl⟩) Q hsub hc hs
theorem Go.retJ {z : Int64} (hd : decode bytes pc = .ok (.lreturn, 1)) (hret : ret = some .long) {sf' : List Addr} (Q : Ψ (some (.long z)) h sf') (hsub : ∀ x ∈ sf', x ∈ sf) (hc : cells ≤ R.cells) (hs : slots ≤ R.slots) : Go md l Z n0 R bytes ml ret own mn Ψ cells slots sf h pc L (.long z :: S) :=
  Go.retW hd hret rfl (Or.inr (Or.inl ⟨rfl, rfl, _, rfl⟩)) Q hsub hc hs
theorem Go.retA {t : FieldType} {w : Value} (hd : decode bytes pc = .ok (.areturn, 1)) (hret : ret = some t) (ht : t.isReference = true) (hw : w.isRef = true) {sf' : List Addr} (Q : Ψ (some w) h sf') (hsub : ∀ x ∈ sf', x ∈ sf) (hc : cells ≤ R.cells) (hs : slots ≤ R.slots) : Go md l Z n0 R bytes ml ret own mn Ψ cells slots sf h pc L (w :: S) :=
  Go.retW hd hret (by cases t <;> cases w <;> first | rfl | cases ht | cases hw) (Or.inr (Or.inr (Or.inr (Or.inr ⟨rfl, ht, hw⟩)))) Q hsub hc hs
theorem Go.retN {t : FieldType} {z : Int32} (v : Int32) (hd : decode bytes pc = .ok (.ireturn, 1)) (hret : ret = some t) (ht : t = .boolean ∨ t = .byte ∨ t = .char ∨ t = .short) (hv : nar t z = v) {sf' : List Addr} (Q : Ψ (some (.int v)) h sf') (hsub : ∀ x ∈ sf', x ∈ sf) (hc : cells ≤ R.cells) (hs : slots ≤ R.slots) :
    Go md l Z n0 R bytes ml ret own mn Ψ cells slots sf h pc L (.int z :: S) := by
  subst hv
  intro p e s m args below meth c vm0 T locs hx hby hml hr hlk hn ho X eT hZ B N
  exact fin_ret X eT hZ B N (fun q => by rw [hr, hret] at q; cases q) hlk hc hs Q hsub fun fs hl => Jvm.RoadKit.retN X hx (hr.trans hret) ht (hb hby hd) hl
/-! plain steps -/
theorem Go.aload {k : Nat} {v : Value} (pc' : Nat) (hd : decode bytes pc = .ok (.aload k, 2)) (hp : pc + 2 = pc') (hl : L[k]? = some (.val v)) (hv : v.isRef = true) (G : Go md l Z n0 R bytes ml ret own mn Ψ cells slots sf h pc' L (v :: S)) : Go md l Z n0 R bytes ml ret own mn Ψ cells slots sf h pc L S := by
  subst hp; exact Go.pure _ (fun p e below T target m c A hx hby k => XS.aload A hx rfl (hb hby hd) hl hv k) G
theorem Go.aloadN {k : Fin 4} {v : Value} (pc' : Nat) (hd : decode bytes pc = .ok (.aload_n k, 1)) (hp : pc + 1 = pc') (hl : L[k.val]? = some (.val v)) (hv : v.isRef = true) (G : Go md l Z n0 R bytes ml ret own mn Ψ cells slots sf h pc' L (v :: S)) : Go md l Z n0 R bytes ml ret own mn Ψ cells slots sf h pc L S := by
  subst hp; exact Go.pure _ (fun p e below T target m c A hx hby k => XS.aloadN A hx rfl (hb hby hd) hl hv k) G
theorem Go.iload {k : Nat} {v : Int32} (pc' : Nat) (hd : decode bytes pc = .ok (.iload k, 2)) (hp : pc + 2 = pc') (hl : L[k]? = some (.val (.int v))) (G : Go md l Z n0 R bytes ml ret own mn Ψ cells slots sf h pc' L (.int v :: S)) : Go md l Z n0 R bytes ml ret own mn Ψ cells slots sf h pc L S := by
  subst hp; exact Go.pure _ (fun p e below T target m c A hx hby k => XS.iload A hx rfl (hb hby hd) hl k) G
theorem Go.iloadN {k : Fin 4} {v : Int32} (pc' : Nat) (hd : decode bytes pc = .ok (.iload_n k, 1)) (hp : pc + 1 = pc') (hl : L[k.val]? = some (.val (.int v))) (G : Go md l Z n0 R bytes ml ret own mn Ψ cells slots sf h pc' L (.int v :: S)) : Go md l Z n0 R bytes ml ret own mn Ψ cells slots sf h pc L S := by
  subst hp; exact Go.pure _ (fun p e below T target m c A hx hby k => XS.iloadN A hx rfl (hb hby hd) hl k) G
theorem Go.lload {k : Nat} {v : Int64} (pc' : Nat) (hd : decode bytes pc = .ok (.lload k, 2)) (hp : pc + 2 = pc') (hl : L[k]? = some (.val (.long v))) (G : Go md l Z n0 R bytes ml ret own mn Ψ cells slots sf h pc' L (.long v :: S)) : Go md l Z n0 R bytes ml ret own mn Ψ cells slots sf h pc L S := by
  subst hp; exact Go.pure _ (fun p e below T target m c A hx hby k => XS.lload A hx rfl (hb hby hd) hl k) G
theorem Go.lloadN {k : Fin 4} {v : Int64} (pc' : Nat) (hd : decode bytes pc = .ok (.lload_n k, 1)) (hp : pc + 1 = pc') (hl : L[k.val]? = some (.val (.long v))) (G : Go md l Z n0 R bytes ml ret own mn Ψ cells slots sf h pc' L (.long v :: S)) : Go md l Z n0 R bytes ml ret own mn Ψ cells slots sf h pc L S := by
  subst hp; exact Go.pure _ (fun p e below T target m c A hx hby k => XS.lloadN A hx rfl (hb hby hd) hl k) G
theorem Go.astore {k : Nat} {v : Value} (pc' : Nat) (L' : Array Slot) (hd : decode bytes pc = .ok (.astore k, 2)) (hp : pc + 2 = pc') (hv : v.isRef = true) (hl : storeLocals L k v = some L') (G : Go md l Z n0 R bytes ml ret own mn Ψ cells slots sf h pc' L' S) : Go md l Z n0 R bytes ml ret own mn Ψ cells slots sf h pc L (v :: S) := by
  subst hp; exact Go.pure _ (fun p e below T target m c A hx hby k => XS.astore A hx rfl (hb hby hd) rfl hv hl k) G
theorem Go.astoreN {k : Fin 4} {v : Value} (pc' : Nat) (L' : Array Slot) (hd : decode bytes pc = .ok (.astore_n k, 1)) (hp : pc + 1 = pc') (hv : v.isRef = true) (hl : storeLocals L k.val v = some L') (G : Go md l Z n0 R bytes ml ret own mn Ψ cells slots sf h pc' L' S) : Go md l Z n0 R bytes ml ret own mn Ψ cells slots sf h pc L (v :: S) := by
  subst hp; exact Go.pure _ (fun p e below T target m c A hx hby k => XS.astoreN A hx rfl (hb hby hd) rfl hv hl k) G
theorem Go.istore {k : Nat} {x : Int32} (pc' : Nat) (L' : Array Slot) (hd : decode bytes pc = .ok (.istore k, 2)) (hp : pc + 2 = pc') (hl : storeLocals L k (.int x) = some L') (G : Go md l Z n0 R bytes ml ret own mn Ψ cells slots sf h pc' L' S) : Go md l Z n0 R bytes ml ret own mn Ψ cells slots sf h pc L (.int x :: S) := by
  subst hp; exact Go.pure _ (fun p e below T target m c A hx hby k => XS.istore A hx rfl (hb hby hd) rfl hl k) G
theorem Go.istoreN {k : Fin 4} {x : Int32} (pc' : Nat) (L' : Array Slot) (hd : decode bytes pc = .ok (.istore_n k, 1)) (hp : pc + 1 = pc') (hl : storeLocals L k.val (.int x) = some L') (G : Go md l Z n0 R bytes ml ret own mn Ψ cells slots sf h pc' L' S) : Go md l Z n0 R bytes ml ret own mn Ψ cells slots sf h pc L (.int x :: S) := by
  subst hp; exact Go.pure _ (fun p e below T target m c A hx hby k => XS.istoreN A hx rfl (hb hby hd) rfl hl k) G
theorem Go.lstore {k : Nat} {x : Int64} (pc' : Nat) (L' : Array Slot) (hd : decode bytes pc = .ok (.lstore k, 2)) (hp : pc + 2 = pc') (hl : storeLocals L k (.long x) = some L') (G : Go md l Z n0 R bytes ml ret own mn Ψ cells slots sf h pc' L' S) : Go md l Z n0 R bytes ml ret own mn Ψ cells slots sf h pc L (.long x :: S) := by
  subst hp; exact Go.pure _ (fun p e below T target m c A hx hby k => XS.lstore A hx rfl (hb hby hd) rfl hl k) G
theorem Go.lstoreN {k : Fin 4} {x : Int64} (pc' : Nat) (L' : Array Slot) (hd : decode bytes pc = .ok (.lstore_n k, 1)) (hp : pc + 1 = pc') (hl : storeLocals L k.val (.long x) = some L') (G : Go md l Z n0 R bytes ml ret own mn Ψ cells slots sf h pc' L' S) : Go md l Z n0 R bytes ml ret own mn Ψ cells slots sf h pc L (.long x :: S) := by
  subst hp; exact Go.pure _ (fun p e below T target m c A hx hby k => XS.lstoreN A hx rfl (hb hby hd) rfl hl k) G
theorem Go.iinc {k : Nat} {cst : Int} {x : Int32} (pc' : Nat) (L' : Array Slot) (v : Int32) (hd : decode bytes pc = .ok (.iinc k cst, 3)) (hp : pc + 3 = pc') (hl : L[k]? = some (.val (.int x))) (hv : Int32.ofInt cst = v) (hl' : storeLocals L k (.int (x + v)) = some L') (G : Go md l Z n0 R bytes ml ret own mn Ψ cells slots sf h pc' L' S) : Go md l Z n0 R bytes ml ret own mn Ψ cells slots sf h pc L S := by
  subst hp; subst hv; exact Go.pure _ (fun p e below T target m c A hx hby k => XS.iinc A hx rfl (hb hby hd) hl hl' k) G
theorem Go.iconst {i : Int} (pc' : Nat) (v : Int32) (hd : decode bytes pc = .ok (.iconst i, 1)) (hp : pc + 1 = pc') (hv : Int32.ofInt i = v) (G : Go md l Z n0 R bytes ml ret own mn Ψ cells slots sf h pc' L (.int v :: S)) : Go md l Z n0 R bytes ml ret own mn Ψ cells slots sf h pc L S := by
  subst hp; subst hv; exact Go.pure _ (fun p e below T target m c A hx hby k => XS.iconst A hx rfl (hb hby hd) k) G
theorem Go.bipush {i : Int} (pc' : Nat) (v : Int32) (hd : decode bytes pc = .ok (.bipush i, 2)) (hp : pc + 2 = pc') (hv : (Int8.ofInt i).toInt32 = v) (G : Go md l Z n0 R bytes ml ret own mn Ψ cells slots sf h pc' L (.int v :: S)) : Go md l Z n0 R bytes ml ret own mn Ψ cells slots sf h pc L S := by
  subst hp; subst hv; exact Go.pure _ (fun p e below T target m c A hx hby k => XS.bipush A hx rfl (hb hby hd) k) G
theorem Go.sipush {i : Int} (pc' : Nat) (v : Int32) (hd : decode bytes pc = .ok (.sipush i, 3)) (hp : pc + 3 = pc') (hv : (Int16.ofInt i).toInt32 = v) (G : Go md l Z n0 R bytes ml ret own mn Ψ cells slots sf h pc' L (.int v :: S)) : Go md l Z n0 R bytes ml ret own mn Ψ cells slots sf h pc L S := by
  subst hp; subst hv; exact Go.pure _ (fun p e below T target m c A hx hby k => XS.sipush A hx rfl (hb hby hd) k) G
theorem Go.lconst {i : Fin 2} (pc' : Nat) (v : Int64) (hd : decode bytes pc = .ok (.lconst i, 1)) (hp : pc + 1 = pc') (hv : Int64.ofNat i = v) (G : Go md l Z n0 R bytes ml ret own mn Ψ cells slots sf h pc' L (.long v :: S)) : Go md l Z n0 R bytes ml ret own mn Ψ cells slots sf h pc L S := by
  subst hp; subst hv; exact Go.pure _ (fun p e below T target m c A hx hby k => XS.lconst A hx rfl (hb hby hd) k) G
theorem Go.aconstNull (pc' : Nat) (hd : decode bytes pc = .ok (.aconst_null, 1)) (hp : pc + 1 = pc') (G : Go md l Z n0 R bytes ml ret own mn Ψ cells slots sf h pc' L (.null :: S)) : Go md l Z n0 R bytes ml ret own mn Ψ cells slots sf h pc L S := by
  subst hp; exact Go.pure _ (fun p e below T target m c A hx hby k => XS.aconstNull A hx rfl (hb hby hd) k) G
theorem Go.dup {v : Value} (pc' : Nat) (hd : decode bytes pc = .ok (.dup, 1)) (hp : pc + 1 = pc') (hv : v.category = 1) (G : Go md l Z n0 R bytes ml ret own mn Ψ cells slots sf h pc' L (v :: v :: S)) : Go md l Z n0 R bytes ml ret own mn Ψ cells slots sf h pc L (v :: S) := by
  subst hp; exact Go.pure _ (fun p e below T target m c A hx hby k => XS.dup A hx rfl (hb hby hd) rfl hv k) G
theorem Go.pop {v : Value} (pc' : Nat) (hd : decode bytes pc = .ok (.pop, 1)) (hp : pc + 1 = pc') (hv : v.category = 1) (G : Go md l Z n0 R bytes ml ret own mn Ψ cells slots sf h pc' L S) : Go md l Z n0 R bytes ml ret own mn Ψ cells slots sf h pc L (v :: S) := by
  subst hp; exact Go.pure _ (fun p e below T target m c A hx hby k => XS.pop A hx rfl (hb hby hd) rfl hv k) G
theorem Go.goto {o : Int} (pc' : Nat) (hd : decode bytes pc = .ok (.goto o, 3)) (ho' : 0 ≤ (pc : Int) + o) (hp : ((pc : Int) + o).toNat = pc') (G : Go md l Z n0 R bytes ml ret own mn Ψ cells slots sf h pc' L S) : Go md l Z n0 R bytes ml ret own mn Ψ cells slots sf h pc L S :=
  Go.pure pc' (fun p e below T target m c A hx hby k => XS.goto A hx rfl (pc0 := pc) (pc' := pc') rfl (hb hby hd) ho' hp k) G
theorem Go.ifY {cd : ClassFile.Cond} {x : Int32} {o : Int} (pc' : Nat) (hd : decode bytes pc = .ok (.ifCond cd o, 3)) (ho' : 0 ≤ (pc : Int) + o) (hp : ((pc : Int) + o).toNat = pc') (hc : if_icmp.holds cd x 0 = true) (G : Go md l Z n0 R bytes ml ret own mn Ψ cells slots sf h pc' L S) : Go md l Z n0 R bytes ml ret own mn Ψ cells slots sf h pc L (.int x :: S) :=
  Go.pure pc' (fun p e below T target m c A hx hby k => XS.ifYes A hx rfl (pc0 := pc) (pc' := pc') rfl (hb hby hd) rfl ((if0 _ _).trans hc) ho' hp k) G
theorem Go.ifN {cd : ClassFile.Cond} {x : Int32} {o : Int} (pc' : Nat) (hd : decode bytes pc = .ok (.ifCond cd o, 3)) (hp : pc + 3 = pc') (hc : if_icmp.holds cd x 0 = false) (G : Go md l Z n0 R bytes ml ret own mn Ψ cells slots sf h pc' L S) : Go md l Z n0 R bytes ml ret own mn Ψ cells slots sf h pc L (.int x :: S) := by
  subst hp; exact Go.pure _ (fun p e below T target m c A hx hby k => XS.ifNo A hx rfl (hb hby hd) rfl ((if0 _ _).trans hc) k) G
theorem Go.icmpY {cd : ClassFile.Cond} {x y : Int32} {o : Int} (pc' : Nat) (hd : decode bytes pc = .ok (.if_icmp cd o, 3)) (ho' : 0 ≤ (pc : Int) + o) (hp : ((pc : Int) + o).toNat = pc') (hc : if_icmp.holds cd x y = true) (G : Go md l Z n0 R bytes ml ret own mn Ψ cells slots sf h pc' L S) : Go md l Z n0 R bytes ml ret own mn Ψ cells slots sf h pc L (.int y :: .int x :: S) :=
  Go.pure pc' (fun p e below T target m c A hx hby k => XS.icmpYes A hx rfl (pc0 := pc) (pc' := pc') rfl (hb hby hd) rfl hc ho' hp k) G
theorem Go.icmpN {cd : ClassFile.Cond} {x y : Int32} {o : Int} (pc' : Nat) (hd : decode bytes pc = .ok (.if_icmp cd o, 3)) (hp : pc + 3 = pc') (hc : if_icmp.holds cd x y = false) (G : Go md l Z n0 R bytes ml ret own mn Ψ cells slots sf h pc' L S) : Go md l Z n0 R bytes ml ret own mn Ψ cells slots sf h pc L (.int y :: .int x :: S) := by
  subst hp; exact Go.pure _ (fun p e below T target m c A hx hby k => XS.icmpNo A hx rfl (hb hby hd) rfl hc k) G
theorem Go.acmpY {cd : ClassFile.ACond} {x y : Value} {o : Int} (pc' : Nat) (hd : decode bytes pc = .ok (.if_acmp cd o, 3)) (ho' : 0 ≤ (pc : Int) + o) (hp : ((pc : Int) + o).toNat = pc') (hx' : x.isRef = true) (hy' : y.isRef = true) (hc : acV cd (decide (x = y)) = true) (G : Go md l Z n0 R bytes ml ret own mn Ψ cells slots sf h pc' L S) : Go md l Z n0 R bytes ml ret own mn Ψ cells slots sf h pc L (y :: x :: S) :=
  Go.warm pc' (fun p e s m args below meth c T locs hx hby hml hZ hown X eT => ⟨T, X, eT, fun target k => Jvm.RoadKit.acmp (g := mkF m pc L (y :: x :: S)) X hx rfl hx' hy' (pc0 := pc) rfl (hb hby hd) rfl rfl ho' (by rw [if_pos hc]; exact hp.symm) k⟩) G
theorem Go.acmpN {cd : ClassFile.ACond} {x y : Value} {o : Int} (pc' : Nat) (hd : decode bytes pc = .ok (.if_acmp cd o, 3)) (ho' : 0 ≤ (pc : Int) + o) (hp : pc + 3 = pc') (hx' : x.isRef = true) (hy' : y.isRef = true) (hc : acV cd (decide (x = y)) = false) (G : Go md l Z n0 R bytes ml ret own mn Ψ cells slots sf h pc' L S) : Go md l Z n0 R bytes ml ret own mn Ψ cells slots sf h pc L (y :: x :: S) :=
  Go.warm pc' (fun p e s m args below meth c T locs hx hby hml hZ hown X eT => ⟨T, X, eT, fun target k => Jvm.RoadKit.acmp (g := mkF m pc L (y :: x :: S)) X hx rfl hx' hy' (pc0 := pc) rfl (hb hby hd) rfl rfl ho' (by rw [if_neg (by rw [hc]; exact Bool.false_ne_true)]; exact hp.symm) k⟩) G
theorem Go.nullY {o : Int} (pc' : Nat) (hd : decode bytes pc = .ok (.ifnull o, 3)) (ho' : 0 ≤ (pc : Int) + o) (hp : ((pc : Int) + o).toNat = pc') (G : Go md l Z n0 R bytes ml ret own mn Ψ cells slots sf h pc' L S) : Go md l Z n0 R bytes ml ret own mn Ψ cells slots sf h pc L (.null :: S) :=
  Go.pure pc' (fun p e below T target m c A hx hby k => XS.ifnullYes A hx rfl (pc0 := pc) (pc' := pc') rfl (hb hby hd) rfl ho' hp k) G
theorem Go.nullN {o : Int} {a : Addr} (pc' : Nat) (hd : decode bytes pc = .ok (.ifnull o, 3)) (hp : pc + 3 = pc') (G : Go md l Z n0 R bytes ml ret own mn Ψ cells slots sf h pc' L S) : Go md l Z n0 R bytes ml ret own mn Ψ cells slots sf h pc L (.ref a :: S) := by
  subst hp; exact Go.pure _ (fun p e below T target m c A hx hby k => XS.ifnullNo A hx rfl (hb hby hd) rfl k) G
theorem Go.nonnullY {o : Int} {a : Addr} (pc' : Nat) (hd : decode bytes pc = .ok (.ifnonnull o, 3)) (ho' : 0 ≤ (pc : Int) + o) (hp : ((pc : Int) + o).toNat = pc') (G : Go md l Z n0 R bytes ml ret own mn Ψ cells slots sf h pc' L S) : Go md l Z n0 R bytes ml ret own mn Ψ cells slots sf h pc L (.ref a :: S) :=
  Go.pure pc' (fun p e below T target m c A hx hby k => XS.ifnonnullYes A hx rfl (pc0 := pc) (pc' := pc') rfl (hb hby hd) rfl ho' hp k) G
theorem Go.nonnullN {o : Int} (pc' : Nat) (hd : decode bytes pc = .ok (.ifnonnull o, 3)) (hp : pc + 3 = pc') (G : Go md l Z n0 R bytes ml ret own mn Ψ cells slots sf h pc' L S) : Go md l Z n0 R bytes ml ret own mn Ψ cells slots sf h pc L (.null :: S) := by
  subst hp; exact Go.pure _ (fun p e below T target m c A hx hby k => XS.ifnonnullNo A hx rfl (hb hby hd) rfl k) G
theorem Go.iadd {x y : Int32} (pc' : Nat) (hd : decode bytes pc = .ok (.iadd, 1)) (hp : pc + 1 = pc') (G : Go md l Z n0 R bytes ml ret own mn Ψ cells slots sf h pc' L (.int (x + y) :: S)) : Go md l Z n0 R bytes ml ret own mn Ψ cells slots sf h pc L (.int y :: .int x :: S) := by
  subst hp; exact Go.pure _ (fun p e below T target m c A hx hby k => XS.iadd A hx rfl (hb hby hd) rfl k) G
theorem Go.isub {x y : Int32} (pc' : Nat) (hd : decode bytes pc = .ok (.isub, 1)) (hp : pc + 1 = pc') (G : Go md l Z n0 R bytes ml ret own mn Ψ cells slots sf h pc' L (.int (x - y) :: S)) : Go md l Z n0 R bytes ml ret own mn Ψ cells slots sf h pc L (.int y :: .int x :: S) := by
  subst hp; exact Go.pure _ (fun p e below T target m c A hx hby k => XS.isub A hx rfl (hb hby hd) rfl k) G
theorem Go.imul {x y : Int32} (pc' : Nat) (hd : decode bytes pc = .ok (.imul, 1)) (hp : pc + 1 = pc') (G : Go md l Z n0 R bytes ml ret own mn Ψ cells slots sf h pc' L (.int (x * y) :: S)) : Go md l Z n0 R bytes ml ret own mn Ψ cells slots sf h pc L (.int y :: .int x :: S) := by
  subst hp; exact Go.pure _ (fun p e below T target m c A hx hby k => XS.imul A hx rfl (hb hby hd) rfl k) G
theorem Go.iand {x y : Int32} (pc' : Nat) (hd : decode bytes pc = .ok (.iand, 1)) (hp : pc + 1 = pc') (G : Go md l Z n0 R bytes ml ret own mn Ψ cells slots sf h pc' L (.int (x &&& y) :: S)) : Go md l Z n0 R bytes ml ret own mn Ψ cells slots sf h pc L (.int y :: .int x :: S) := by
  subst hp; exact Go.pure _ (fun p e below T target m c A hx hby k => XS.iand A hx rfl (hb hby hd) rfl k) G
theorem Go.ior {x y : Int32} (pc' : Nat) (hd : decode bytes pc = .ok (.ior, 1)) (hp : pc + 1 = pc') (G : Go md l Z n0 R bytes ml ret own mn Ψ cells slots sf h pc' L (.int (x ||| y) :: S)) : Go md l Z n0 R bytes ml ret own mn Ψ cells slots sf h pc L (.int y :: .int x :: S) := by
  subst hp; exact Go.pure _ (fun p e below T target m c A hx hby k => XS.ior A hx rfl (hb hby hd) rfl k) G
theorem Go.ixor {x y : Int32} (pc' : Nat) (hd : decode bytes pc = .ok (.ixor, 1)) (hp : pc + 1 = pc') (G : Go md l Z n0 R bytes ml ret own mn Ψ cells slots sf h pc' L (.int (x ^^^ y) :: S)) : Go md l Z n0 R bytes ml ret own mn Ψ cells slots sf h pc L (.int y :: .int x :: S) := by
  subst hp; exact Go.pure _ (fun p e below T target m c A hx hby k => XS.ixor A hx rfl (hb hby hd) rfl k) G
theorem Go.ishl {x y : Int32} (pc' : Nat) (hd : decode bytes pc = .ok (.ishl, 1)) (hp : pc + 1 = pc') (G : Go md l Z n0 R bytes ml ret own mn Ψ cells slots sf h pc' L (.int (x <<< (y &&& 31)) :: S)) : Go md l Z n0 R bytes ml ret own mn Ψ cells slots sf h pc L (.int y :: .int x :: S) := by
  subst hp; exact Go.pure _ (fun p e below T target m c A hx hby k => XS.ishl A hx rfl (hb hby hd) rfl k) G
theorem Go.ishr {x y : Int32} (pc' : Nat) (hd : decode bytes pc = .ok (.ishr, 1)) (hp : pc + 1 = pc') (G : Go md l Z n0 R bytes ml ret own mn Ψ cells slots sf h pc' L (.int (x >>> (y &&& 31)) :: S)) : Go md l Z n0 R bytes ml ret own mn Ψ cells slots sf h pc L (.int y :: .int x :: S) := by
  subst hp; exact Go.pure _ (fun p e below T target m c A hx hby k => XS.ishr A hx rfl (hb hby hd) rfl k) G
theorem Go.iushr {x y : Int32} (pc' : Nat) (hd : decode bytes pc = .ok (.iushr, 1)) (hp : pc + 1 = pc') (G : Go md l Z n0 R bytes ml ret own mn Ψ cells slots sf h pc' L (.int (ushr x y) :: S)) : Go md l Z n0 R bytes ml ret own mn Ψ cells slots sf h pc L (.int y :: .int x :: S) := by
  subst hp; exact Go.pure _ (fun p e below T target m c A hx hby k => XS.iushr A hx rfl (hb hby hd) rfl k) G
theorem Go.idiv {x y : Int32} (pc' : Nat) (hd : decode bytes pc = .ok (.idiv, 1)) (hp : pc + 1 = pc') (hy : y ≠ 0) (G : Go md l Z n0 R bytes ml ret own mn Ψ cells slots sf h pc' L (.int (x / y) :: S)) : Go md l Z n0 R bytes ml ret own mn Ψ cells slots sf h pc L (.int y :: .int x :: S) := by
  subst hp; exact Go.pure _ (fun p e below T target m c A hx hby k => XS.idiv A hx rfl (hb hby hd) rfl hy k) G
theorem Go.ineg {x : Int32} (pc' : Nat) (hd : decode bytes pc = .ok (.ineg, 1)) (hp : pc + 1 = pc') (G : Go md l Z n0 R bytes ml ret own mn Ψ cells slots sf h pc' L (.int (-x) :: S)) : Go md l Z n0 R bytes ml ret own mn Ψ cells slots sf h pc L (.int x :: S) := by
  subst hp; exact Go.pure _ (fun p e below T target m c A hx hby k => XS.ineg A hx rfl (hb hby hd) rfl k) G
theorem Go.ladd {x y : Int64} (pc' : Nat) (hd : decode bytes pc = .ok (.ladd, 1)) (hp : pc + 1 = pc') (G : Go md l Z n0 R bytes ml ret own mn Ψ cells slots sf h pc' L (.long (x + y) :: S)) : Go md l Z n0 R bytes ml ret own mn Ψ cells slots sf h pc L (.long y :: .long x :: S) := by
  subst hp; exact Go.pure _ (fun p e below T target m c A hx hby k => XS.ladd A hx rfl (hb hby hd) rfl k) G
theorem Go.lsub {x y : Int64} (pc' : Nat) (hd : decode bytes pc = .ok (.lsub, 1)) (hp : pc + 1 = pc') (G : Go md l Z n0 R bytes ml ret own mn Ψ cells slots sf h pc' L (.long (x - y) :: S)) : Go md l Z n0 R bytes ml ret own mn Ψ cells slots sf h pc L (.long y :: .long x :: S) := by
  subst hp; exact Go.pure _ (fun p e below T target m c A hx hby k => XS.lsub A hx rfl (hb hby hd) rfl k) G
theorem Go.lmul {x y : Int64} (pc' : Nat) (hd : decode bytes pc = .ok (.lmul, 1)) (hp : pc + 1 = pc') (G : Go md l Z n0 R bytes ml ret own mn Ψ cells slots sf h pc' L (.long (x * y) :: S)) : Go md l Z n0 R bytes ml ret own mn Ψ cells slots sf h pc L (.long y :: .long x :: S) := by
  subst hp; exact Go.pure _ (fun p e below T target m c A hx hby k => XS.lmul A hx rfl (hb hby hd) rfl k) G
theorem Go.land {x y : Int64} (pc' : Nat) (hd : decode bytes pc = .ok (.land, 1)) (hp : pc + 1 = pc') (G : Go md l Z n0 R bytes ml ret own mn Ψ cells slots sf h pc' L (.long (x &&& y) :: S)) : Go md l Z n0 R bytes ml ret own mn Ψ cells slots sf h pc L (.long y :: .long x :: S) := by
  subst hp; exact Go.pure _ (fun p e below T target m c A hx hby k => XS.land A hx rfl (hb hby hd) rfl k) G
theorem Go.lor {x y : Int64} (pc' : Nat) (hd : decode bytes pc = .ok (.lor, 1)) (hp : pc + 1 = pc') (G : Go md l Z n0 R bytes ml ret own mn Ψ cells slots sf h pc' L (.long (x ||| y) :: S)) : Go md l Z n0 R bytes ml ret own mn Ψ cells slots sf h pc L (.long y :: .long x :: S) := by
  subst hp; exact Go.pure _ (fun p e below T target m c A hx hby k => XS.lor A hx rfl (hb hby hd) rfl k) G
theorem Go.lxor {x y : Int64} (pc' : Nat) (hd : decode bytes pc = .ok (.lxor, 1)) (hp : pc + 1 = pc') (G : Go md l Z n0 R bytes ml ret own mn Ψ cells slots sf h pc' L (.long (x ^^^ y) :: S)) : Go md l Z n0 R bytes ml ret own mn Ψ cells slots sf h pc L (.long y :: .long x :: S) := by
  subst hp; exact Go.pure _ (fun p e below T target m c A hx hby k => XS.lxor A hx rfl (hb hby hd) rfl k) G
theorem Go.lneg {x : Int64} (pc' : Nat) (hd : decode bytes pc = .ok (.lneg, 1)) (hp : pc + 1 = pc') (G : Go md l Z n0 R bytes ml ret own mn Ψ cells slots sf h pc' L (.long (-x) :: S)) : Go md l Z n0 R bytes ml ret own mn Ψ cells slots sf h pc L (.long x :: S) := by
  subst hp; exact Go.pure _ (fun p e below T target m c A hx hby k => XS.lneg A hx rfl (hb hby hd) rfl k) G
theorem Go.lcmp {x y : Int64} (pc' : Nat) (hd : decode bytes pc = .ok (.lcmp, 1)) (hp : pc + 1 = pc') (G : Go md l Z n0 R bytes ml ret own mn Ψ cells slots sf h pc' L (.int (lcmpW x y) :: S)) : Go md l Z n0 R bytes ml ret own mn Ψ cells slots sf h pc L (.long y :: .long x :: S) := by
  subst hp; exact Go.pure _ (fun p e below T target m c A hx hby k => XS.lcmp A hx rfl (hb hby hd) rfl k) G
theorem Go.lushr {x : Int64} {y : Int32} (pc' : Nat) (hd : decode bytes pc = .ok (.lushr, 1)) (hp : pc + 1 = pc') (G : Go md l Z n0 R bytes ml ret own mn Ψ cells slots sf h pc' L (.long (ushrL x y) :: S)) : Go md l Z n0 R bytes ml ret own mn Ψ cells slots sf h pc L (.int y :: .long x :: S) := by
  subst hp; exact Go.pure _ (fun p e below T target m c A hx hby k => XS.lushr A hx rfl (hb hby hd) rfl k) G
theorem Go.lshl {x : Int64} {y : Int32} (pc' : Nat) (hd : decode bytes pc = .ok (.lshl, 1)) (hp : pc + 1 = pc') (G : Go md l Z n0 R bytes ml ret own mn Ψ cells slots sf h pc' L (.long (x <<< (y &&& 0x3f).toInt64) :: S)) : Go md l Z n0 R bytes ml ret own mn Ψ cells slots sf h pc L (.int y :: .long x :: S) := by
  subst hp; exact Go.pure _ (fun p e below T target m c A hx hby k => XS.lshl A hx rfl (hb hby hd) rfl k) G
theorem Go.lrem {x y : Int64} (pc' : Nat) (hd : decode bytes pc = .ok (.lrem, 1)) (hp : pc + 1 = pc') (hy : y ≠ 0) (G : Go md l Z n0 R bytes ml ret own mn Ψ cells slots sf h pc' L (.long (x - (x / y) * y) :: S)) : Go md l Z n0 R bytes ml ret own mn Ψ cells slots sf h pc L (.long y :: .long x :: S) := by
  subst hp; exact Go.pure _ (fun p e below T target m c A hx hby k => XS.lrem A hx rfl (hb hby hd) rfl hy k) G
theorem Go.i2l {x : Int32} (pc' : Nat) (hd : decode bytes pc = .ok (.i2l, 1)) (hp : pc + 1 = pc') (G : Go md l Z n0 R bytes ml ret own mn Ψ cells slots sf h pc' L (.long x.toInt64 :: S)) : Go md l Z n0 R bytes ml ret own mn Ψ cells slots sf h pc L (.int x :: S) := by
  subst hp; exact Go.pure _ (fun p e below T target m c A hx hby k => XS.i2l A hx rfl (hb hby hd) rfl k) G
theorem Go.l2i {x : Int64} (pc' : Nat) (hd : decode bytes pc = .ok (.l2i, 1)) (hp : pc + 1 = pc') (G : Go md l Z n0 R bytes ml ret own mn Ψ cells slots sf h pc' L (.int x.toInt32 :: S)) : Go md l Z n0 R bytes ml ret own mn Ψ cells slots sf h pc L (.long x :: S) := by
  subst hp; exact Go.pure _ (fun p e below T target m c A hx hby k => XS.l2i A hx rfl (hb hby hd) rfl k) G
theorem Go.i2b {x : Int32} (pc' : Nat) (hd : decode bytes pc = .ok (.i2b, 1)) (hp : pc + 1 = pc') (G : Go md l Z n0 R bytes ml ret own mn Ψ cells slots sf h pc' L (.int x.toInt8.toInt32 :: S)) : Go md l Z n0 R bytes ml ret own mn Ψ cells slots sf h pc L (.int x :: S) := by
  subst hp; exact Go.pure _ (fun p e below T target m c A hx hby k => XS.i2b A hx rfl (hb hby hd) rfl k) G
theorem Go.i2c {x : Int32} (pc' : Nat) (hd : decode bytes pc = .ok (.i2c, 1)) (hp : pc + 1 = pc') (G : Go md l Z n0 R bytes ml ret own mn Ψ cells slots sf h pc' L (.int (chr x) :: S)) : Go md l Z n0 R bytes ml ret own mn Ψ cells slots sf h pc L (.int x :: S) := by
  subst hp; exact Go.pure _ (fun p e below T target m c A hx hby k => XS.i2c A hx rfl (hb hby hd) rfl k) G
theorem Go.dupX1 {v w : Value} (pc' : Nat) (hd : decode bytes pc = .ok (.dup_x1, 1)) (hp : pc + 1 = pc') (hv : v.category = 1) (hw : w.category = 1) (G : Go md l Z n0 R bytes ml ret own mn Ψ cells slots sf h pc' L (v :: w :: v :: S)) : Go md l Z n0 R bytes ml ret own mn Ψ cells slots sf h pc L (v :: w :: S) := by
  subst hp; exact Go.pure _ (fun p e below T target m c A hx hby k => XS.dupX1 A hx rfl (hb hby hd) rfl hv hw k) G
theorem sub1 {x : Addr} (q : x ∈ sf) : ∀ y ∈ [x], y ∈ sf := fun y hy => by cases List.mem_singleton.mp hy; exact q
/-- one field of an ordinary object known, each laid one holds something -/
theorem Fld.any {a : Addr} {C O n d O' n' d' : String} {v : Value} {k : Nat} (F : Fld Z h a O' n' d' v) (E : Exa Z h a C) (wi : (Jvm.Cond.instantiable C k).before a0 Z = true) (Lw : Laid Z a0 C O n d) : ∃ w, Fld Z h a O n d w := by
  obtain ⟨cell, cf, kk, i, f, h1, -, -, h4, h5, -, -⟩ := F
  obtain ⟨c2, k2, g1, g2, g3, g4, g5⟩ := E
  cases h1.symm.trans g1
  obtain ⟨c3, k3, i1, i2, i3, -⟩ := Cond.instantiable_spec wi
  cases g2.symm.trans i1
  cases g3.symm.trans i2
  obtain ⟨c, kc, cf', kf, j, f', a1, a2, a3, a4, a5, a6, -⟩ := Lw.spec
  cases g2.symm.trans a1
  cases g3.symm.trans a2
  have hs := g5 i3
  have hlt : f'.slot < cell.slots.size := by rw [hs]; exact (Array.getElem?_eq_some_iff.mp a6).1
  exact ⟨cell.slots[f'.slot], cell, cf', kf, j, f', h1, a3, a4, h4, h5, a5, Array.getElem?_eq_getElem hlt⟩
theorem Go.irem {x y : Int32} (pc' : Nat) (hd : decode bytes pc = .ok (.irem, 1)) (hp : pc + 1 = pc') (hy : y ≠ 0) (G : Go md l Z n0 R bytes ml ret own mn Ψ cells slots sf h pc' L (.int (x % y) :: S)) : Go md l Z n0 R bytes ml ret own mn Ψ cells slots sf h pc L (.int y :: .int x :: S) := by
  subst hp; exact Go.warm _ (fun p e s m args below meth c T locs hx hby hml hZ hown X eT => ⟨T, X, eT, fun target k => iremM (g := mkF m pc L (.int y :: .int x :: S)) X hx rfl (hb hby hd) rfl hy k⟩) G
theorem Go.ldcI {index : Nat} {v : Int32} (pc' : Nat) (hd : decode bytes pc = .ok (.ldc index, 2)) (hp : pc + 2 = pc') (w : (Jvm.Cond.constant own index v).before a0 Z = true) (G : Go md l Z n0 R bytes ml ret own mn Ψ cells slots sf h pc' L (.int v :: S)) : Go md l Z n0 R bytes ml ret own mn Ψ cells slots sf h pc L S := by
  subst hp; exact Go.warm _ (fun p e s m args below meth c T locs hx hby hml hZ hown X eT => ⟨T, X, eT, fun target k => X.ldcI (g := mkF m pc L S) hx hown (mvT hZ w) rfl (hb hby hd) k⟩) G
theorem Go.ldc2J {index : Nat} {v : Int64} (pc' : Nat) (hd : decode bytes pc = .ok (.ldc2_w index, 3)) (hp : pc + 3 = pc') (w : (Jvm.Cond.constantLong own index v).before a0 Z = true) (G : Go md l Z n0 R bytes ml ret own mn Ψ cells slots sf h pc' L (.long v :: S)) : Go md l Z n0 R bytes ml ret own mn Ψ cells slots sf h pc L S := by
  subst hp; exact Go.warm _ (fun p e s m args below meth c T locs hx hby hml hZ hown X eT => ⟨T, X, eT, fun target k => X.ldc2J (g := mkF m pc L S) hx hown (mvT hZ w) rfl (hb hby hd) k⟩) G
/-! fields -/
theorem Go.getF {R0 O n d : String} {index : Nat} {a : Addr} {v : Value} (pc' : Nat) (hd : decode bytes pc = .ok (.getfield index, 3)) (hp : pc + 3 = pc') (w : (Jvm.Cond.fieldLink own index R0 n d).before a0 Z = true) (via : Via Z R0 O n d) (F : Fld Z h a O n d v) (G : Go md l Z n0 R bytes ml ret own mn Ψ cells slots sf h pc' L (v :: S)) :
    Go md l Z n0 R bytes ml ret own mn Ψ cells slots sf h pc L (.ref a :: S) := by
  subst hp; exact Go.warm _ (fun p e s m args below meth c T locs hx hby hml hZ hown X eT => Jvm.RoadKit.getF X hx hZ hown (host := "") (Or.inl w) via eT F (g := mkF m pc L (.ref a :: S)) rfl rfl (hb hby hd)) G
theorem Go.getS {R0 O n d : String} {index : Nat} {v : Value} (pc' : Nat) (hd : decode bytes pc = .ok (.getstatic index, 3)) (hp : pc + 3 = pc') (w : (Jvm.Cond.fieldLink own index R0 n d).before a0 Z = true) (via : Via Z R0 O n d) (F : Sta Z Z.heap O n d v) (G : Go md l Z n0 R bytes ml ret own mn Ψ cells slots sf h pc' L (v :: S)) :
    Go md l Z n0 R bytes ml ret own mn Ψ cells slots sf h pc L S := by
  subst hp; exact Go.old fun o _ => Go.warm _ (fun p e s m args below meth c T locs hx hby hml hZ hown X eT => Jvm.RoadKit.getS (host := "") X hx hZ hown w via eT (F.ext o.2) (g := mkF m pc L S) rfl (hb hby hd)) G
theorem Go.putF {R0 O n d C : String} {index kk : Nat} {ty : FieldType} {a : Addr} {v old : Value} (pc' : Nat) (v' : Value) (hd : decode bytes pc = .ok (.putfield index, 3)) (hp : pc + 3 = pc') (w : (Jvm.Cond.fieldLink own index R0 n d).before a0 Z = true) (via : Via Z R0 O n d) (F : Fld Z h a O n d old) (E : Exa Z h a C)
    (Lw : (Jvm.Cond.lays C O n d).before a0 Z = true ∨ ((Jvm.Cond.laysFinal C O n d).before a0 Z = true ∧ own = O ∧ mn = "<init>")) (wi : (Jvm.Cond.instantiable C kk).before a0 Z = true) (hty : parseFieldDescriptor d = some ty) (hnw : narrow ty v = v') (hf : fits ty v' = true) (ha : a ∈ sf) (hn0 : n0 ≤ a)
    (G : ∀ h', Wr h h' a (Jvm.RoadKit.slotOf Z O n d) v' → Go md l Z n0 R bytes ml ret own mn Ψ cells slots sf h' pc' L S) : Go md l Z n0 R bytes ml ret own mn Ψ cells slots sf h pc L (v :: .ref a :: S) := by
  subst hp; exact Go.write _ ha hn0 (fun p e s m args below meth c T locs hx hby hml hnm hZ hown X eT => putFN X hx hZ hown w via eT F E (Lw.imp id fun q => ⟨q.1, q.2.1, hnm.trans q.2.2⟩) wi hty hnw hf (g := mkF m pc L (v :: .ref a :: S)) rfl rfl (hb hby hd)) G
/-! classes -/
theorem Go.castY {K : String} {index : Nat} {a : Addr} (pc' : Nat) (hd : decode bytes pc = .ok (.checkcast index, 3)) (hp : pc + 3 = pc') (w : (Jvm.Cond.classLink own index K).before a0 Z = true) (F : Ins Z h a K true) (G : Go md l Z n0 R bytes ml ret own mn Ψ cells slots sf h pc' L (.ref a :: S)) :
    Go md l Z n0 R bytes ml ret own mn Ψ cells slots sf h pc L (.ref a :: S) := by
  subst hp; exact Go.warm _ (fun p e s m args below meth c T locs hx hby hml hZ hown X eT => Jvm.RoadKit.castY X hx hZ hown w eT F (g := mkF m pc L (.ref a :: S)) rfl rfl (hb hby hd)) G
theorem Go.instY {K : String} {index : Nat} {a : Addr} (pc' : Nat) (hd : decode bytes pc = .ok (.instanceof index, 3)) (hp : pc + 3 = pc') (w : (Jvm.Cond.classLink own index K).before a0 Z = true) (F : Ins Z h a K true) (G : Go md l Z n0 R bytes ml ret own mn Ψ cells slots sf h pc' L (.int 1 :: S)) :
    Go md l Z n0 R bytes ml ret own mn Ψ cells slots sf h pc L (.ref a :: S) := by
  subst hp; exact Go.warm _ (fun p e s m args below meth c T locs hx hby hml hZ hown X eT => Jvm.RoadKit.instY X hx hZ hown w eT F (g := mkF m pc L (.ref a :: S)) rfl rfl (hb hby hd)) G
theorem Go.instNo {K C : String} {index : Nat} {a : Addr} (pc' : Nat) (hd : decode bytes pc = .ok (.instanceof index, 3)) (hp : pc + 3 = pc') (w : (Jvm.Cond.classLink own index K).before a0 Z = true) (E : Exa Z h a C) (F : ∃ c t, Z.vm.findClass C = some c ∧ Z.vm.findClass K = some t ∧ Z.vm.assignable c t = false) (G : Go md l Z n0 R bytes ml ret own mn Ψ cells slots sf h pc' L (.int 0 :: S)) :
    Go md l Z n0 R bytes ml ret own mn Ψ cells slots sf h pc L (.ref a :: S) := by
  subst hp; exact Go.warm _ (fun p e s m args below meth c T locs hx hby hml hZ hown X eT => Jvm.RoadKit.instNo X hx hZ hown w eT E F (g := mkF m pc L (.ref a :: S)) rfl rfl (hb hby hd)) G
theorem Go.instNull {index : Nat} (pc' : Nat) (hd : decode bytes pc = .ok (.instanceof index, 3)) (hp : pc + 3 = pc') (G : Go md l Z n0 R bytes ml ret own mn Ψ cells slots sf h pc' L (.int 0 :: S)) : Go md l Z n0 R bytes ml ret own mn Ψ cells slots sf h pc L (.null :: S) := by
  subst hp; exact Go.warm _ (fun p e s m args below meth c T locs hx hby hml hZ hown X eT => ⟨T, X, eT, fun target k => X.instanceofNull (g := mkF m pc L (.null :: S)) hx rfl rfl (hb hby hd) target k⟩) G
theorem Go.castNull {index : Nat} (pc' : Nat) (hd : decode bytes pc = .ok (.checkcast index, 3)) (hp : pc + 3 = pc') (G : Go md l Z n0 R bytes ml ret own mn Ψ cells slots sf h pc' L (.null :: S)) : Go md l Z n0 R bytes ml ret own mn Ψ cells slots sf h pc L (.null :: S) := by
  subst hp; exact Go.warm _ (fun p e s m args below meth c T locs hx hby hml hZ hown X eT => ⟨T, X, eT, fun target k => X.checkcastNull (g := mkF m pc L (.null :: S)) hx rfl rfl (hb hby hd) target k⟩) G
/-- Object's constructor -/
theorem Go.initO {idx : Nat} {a : Addr} {W : Nat} (pc' : Nat) (hd : decode bytes pc = .ok (.invokespecial idx, 3)) (hp : pc + 3 = pc') (w1 : (Jvm.Cond.methodLink own idx Lib.objectInit).before a0 Z = true) (w2 : (Jvm.Cond.instanceMethod Lib.objectInit).before a0 Z = true) (w3 : (Jvm.Cond.code Lib.objectInit ⟨#[0xb1]⟩ 1 none).before a0 Z = true)
    (hsz : L.size = ml) (hf : 1 ≤ R.frames) (hW : (S.map fun v => v.category).sum ≤ W) (hl : W + 12 ≤ R.locals) (G : Go md l Z n0 R bytes ml ret own mn Ψ cells slots sf h pc' L S) : Go md l Z n0 R bytes ml ret own mn Ψ cells slots sf h pc L (.ref a :: S) := by
  subst hp; exact Go.warm _ (fun p e s m args below meth c T locs hx hby hml hZ hown X eT => Jvm.RoadKit.initO X hx hZ hown w1 w2 w3 eT (g := mkF m pc L (.ref a :: S)) rfl (hsz.trans hml.symm) rfl (hb hby hd) hf (W := W) (by simpa using hW) hl) G
/-! what is made -/
theorem Go.new {C : String} {index n : Nat} (pc' : Nat) (hd : decode bytes pc = .ok (.new index, 3)) (hp : pc + 3 = pc') (w : (Jvm.Cond.classLink own index C).before a0 Z = true) (wi : (Jvm.Cond.instantiable C n).before a0 Z = true) (wz : (Jvm.Cond.initialized C).before a0 Z = true) (hc : cells + 1 ≤ R.cells) (hl : slots + n ≤ R.slots)
    (G : ∀ h' x, h.size = x → n0 ≤ x → Ext h h' → x < h'.size → Exa Z h' x C → (∀ {O nm d : String} {ty : FieldType}, Laid Z a0 C O nm d → parseFieldDescriptor d = some ty → Fld Z h' x O nm d (defaultValue ty)) → Go md l Z n0 R bytes ml ret own mn Ψ (cells + 1) (slots + n) (x :: sf) h' pc' L (.ref x :: S)) :
    Go md l Z n0 R bytes ml ret own mn Ψ cells slots sf h pc L S := by
  subst hp
  intro p e s m args below meth c vm0 T locs hx hby hml hr hlk hn ho X eT hZ B N
  obtain ⟨T', h', X', e', E, A, D, -, st⟩ := newO X hx hZ (by rw [show (s.setVm vm0).vm = vm0 from rfl, hZ.alike.findClass]; exact ho) w wi wz eT (g := mkF m pc L S) rfl (hb hby hd) hc hl
  obtain ⟨s₂, o, h1, r⟩ := G h' _ rfl B.n0le E A.lt A D p e s m args below meth c vm0 T' locs hx hby hml hr hlk hn ho X' e' hZ (B.new E A.lt (Nat.le_refl _)) N
  exact ⟨s₂, o, st _ h1, r⟩
/-- the array at a holds just these -/
def Ary (Z : State) (h : Heap) (a : Addr) (ty : FieldType) (vs : List Value) : Prop := ∃ c : Cell, Arr Z h a c ty ∧ c.slots.toList = vs ∧ vs.length < 2147483648 ∧ ∀ v ∈ vs, fits ty v = true
theorem Ary.lt {a : Addr} {ty : FieldType} {vs : List Value} (A : Ary Z h a ty vs) : a < h.size := by obtain ⟨c, A, -⟩ := A; exact A.lt
theorem Ary.ext {a : Addr} {ty : FieldType} {vs : List Value} (E : Ext h h') (A : Ary Z h a ty vs) : Ary Z h' a ty vs := by obtain ⟨c, A, r⟩ := A; exact ⟨c, A.ext E, r⟩
theorem Ary.other {a b : Addr} {ty : FieldType} {vs : List Value} {sl : Nat} {v : Value} (W : Wr h h' a sl v) (A : Ary Z h b ty vs) (q : b ≠ a) : Ary Z h' b ty vs := by obtain ⟨c, A, r⟩ := A; exact ⟨c, A.other W q, r⟩
theorem Ary.keep {a : Addr} {ty : FieldType} {vs : List Value} {ws : List Addr} (K : Keep h h' ws) (A : Ary Z h a ty vs) (q : a ∉ ws) : Ary Z h' a ty vs := by obtain ⟨c, A, r⟩ := A; exact ⟨c, ⟨K.2.1 a c A.1 q, A.2⟩, r⟩
theorem Ary.set {a : Addr} {ty : FieldType} {vs : List Value} {i : Nat} {v : Value} (W : Wr h h' a i v) (A : Ary Z h a ty vs) (hf : fits ty v = true) : Ary Z h' a ty (vs.set i v) := by
  obtain ⟨c, A, e1, e2, e3⟩ := A
  refine ⟨_, A.same W, by rw [← e1]; simp [Cell.setSlot, Array.toList_setIfInBounds], by simpa using e2, fun w hw => ?_⟩
  rcases List.mem_or_eq_of_mem_set hw with q | rfl
  · exact e3 w q
  · exact hf
theorem clamp_of {j : Int32} {i : Nat} (q : j.toInt = (i : Int)) : ¬ j < 0 ∧ j.toNatClampNeg = i := by
  refine ⟨fun z => ?_, ?_⟩
  · rw [Int32.lt_iff_toInt_lt] at z; rw [q] at z; have : (0 : Int32).toInt = 0 := rfl; omega
  · show j.toInt.toNat = i; rw [q]; rfl
theorem Ary.inb {a : Addr} {ty : FieldType} {vs : List Value} {c : Cell} {j : Int32} {i : Nat} (e1 : c.slots.toList = vs) (q : j.toInt = (i : Int)) (hi : i < vs.length) : ¬ (j < 0 ∨ c.slots.size ≤ j.toNatClampNeg) := by
  obtain ⟨q1, q2⟩ := clamp_of q
  rintro (z | z)
  · exact q1 z
  · rw [q2] at z; subst e1; simp at hi; omega
theorem Ary.at {c : Cell} {vs : List Value} {j : Int32} {i : Nat} {v : Value} (e1 : c.slots.toList = vs) (q : j.toInt = (i : Int)) (hv : vs[i]? = some v) : c.slots[j.toNatClampNeg]? = some v := by
  rw [(clamp_of q).2]; subst e1; rw [← hv]; simp
theorem Go.newA {aty : ArrayType} {n : Int32} {ty : FieldType} (k : Nat) (pc' : Nat) (hd : decode bytes pc = .ok (.newarray aty, 2)) (hp : pc + 2 = pc') (hty : newarray.typeOf aty = ty) (w : (Jvm.Cond.arrayClass ty).before a0 Z = true) (hk : n.toInt = (k : Int)) (cap : Nat) (hcap : k ≤ cap) (hb8 : cap * 8 ≤ 536870912) (hc : cells + 1 ≤ R.cells) (hl : slots + cap ≤ R.slots)
    (G : ∀ h' x, h.size = x → n0 ≤ x → Ext h h' → x < h'.size → Ary Z h' x ty (List.replicate k (defaultValue ty)) → Go md l Z n0 R bytes ml ret own mn Ψ (cells + 1) (slots + cap) (x :: sf) h' pc' L (.ref x :: S)) :
    Go md l Z n0 R bytes ml ret own mn Ψ cells slots sf h pc L (.int n :: S) := by
  subst hp; subst hty
  obtain ⟨q1, q2⟩ := clamp_of hk
  intro p e s m args below meth c vm0 T locs hx hby hml hr hlk hn ho X eT hZ B N
  obtain ⟨T', h', cA, X', e', E, A, st⟩ := newP X hx hZ w eT (g := mkF m pc L (.int n :: S)) rfl (hb hby hd) rfl q1 (cap := cap) (by rw [q2]; exact hcap) hb8 hc hl
  have A' : Ary Z h' h.size (newarray.typeOf aty) (List.replicate k (defaultValue (newarray.typeOf aty))) := ⟨_, A, by simp [Jvm.RoadKit.newA, q2], by simp; omega, fun v hv => by
    rw [(List.mem_replicate.mp hv).2]; cases aty <;> rfl⟩
  obtain ⟨s₂, o, h1, r⟩ := G h' _ rfl B.n0le E A'.lt A' p e s m args below meth c vm0 T' locs hx hby hml hr hlk hn ho X' e' hZ (B.new E A'.lt (Nat.le_refl _)) N
  exact ⟨s₂, o, st _ h1, r⟩
theorem Go.alen {a : Addr} {ty : FieldType} {vs : List Value} (pc' : Nat) (n : Int32) (hd : decode bytes pc = .ok (.arraylength, 1)) (hp : pc + 1 = pc') (A : Ary Z h a ty vs) (hn : Int32.ofNat vs.length = n) (G : Go md l Z n0 R bytes ml ret own mn Ψ cells slots sf h pc' L (.int n :: S)) :
    Go md l Z n0 R bytes ml ret own mn Ψ cells slots sf h pc L (.ref a :: S) := by
  subst hp; subst hn
  obtain ⟨c0, A, e1, e2, e3⟩ := A
  refine Go.warm _ (fun p e s m args below meth c T locs hx hby hml hZ hown X eT => ⟨T, X, eT, fun target k => X.arraylength hx (by rw [eT]; exact A.1) (State.isArrayOf_alike hZ.alike A.2.1) (g := mkF m pc L (.ref a :: S)) rfl rfl (hb hby hd) target ?_⟩) G
  subst e1; simpa using k
theorem Go.caload {a : Addr} {vs : List Value} {j : Int32} (i : Nat) {v : Value} (pc' : Nat) (hd : decode bytes pc = .ok (.caload, 1)) (hp : pc + 1 = pc') (A : Ary Z h a .char vs) (hj : j.toInt = (i : Int)) (hv : vs[i]? = some v) (G : Go md l Z n0 R bytes ml ret own mn Ψ cells slots sf h pc' L (v :: S)) :
    Go md l Z n0 R bytes ml ret own mn Ψ cells slots sf h pc L (.int j :: .ref a :: S) := by
  subst hp
  obtain ⟨c0, A, e1, e2, e3⟩ := A
  have hi := (List.getElem?_eq_some_iff.mp hv).1
  exact Go.warm _ (fun p e s m args below meth c T locs hx hby hml hZ hown X eT => ⟨T, X, eT, fun target k => X.caload hx (by rw [eT]; exact A.1) (State.isArrayOf_alike hZ.alike A.2.1) A.2.2 (Ary.inb (a := a) (ty := .char) e1 hj hi) (Ary.at e1 hj hv) (g := mkF m pc L (.int j :: .ref a :: S)) rfl rfl (hb hby hd) target k⟩) G
theorem Go.baload {a : Addr} {vs : List Value} {j : Int32} (i : Nat) {v : Value} (pc' : Nat) (hd : decode bytes pc = .ok (.baload, 1)) (hp : pc + 1 = pc') (A : Ary Z h a .byte vs) (hj : j.toInt = (i : Int)) (hv : vs[i]? = some v) (G : Go md l Z n0 R bytes ml ret own mn Ψ cells slots sf h pc' L (v :: S)) :
    Go md l Z n0 R bytes ml ret own mn Ψ cells slots sf h pc L (.int j :: .ref a :: S) := by
  subst hp
  obtain ⟨c0, A, e1, e2, e3⟩ := A
  have hi := (List.getElem?_eq_some_iff.mp hv).1
  exact Go.warm _ (fun p e s m args below meth c T locs hx hby hml hZ hown X eT => ⟨T, X, eT, fun target k => X.baloadBytes hx (by rw [eT]; exact A.1) (State.isArrayOf_alike hZ.alike A.2.1) A.2.2 (Ary.inb (a := a) (ty := .byte) e1 hj hi) (Ary.at e1 hj hv) (g := mkF m pc L (.int j :: .ref a :: S)) rfl rfl (hb hby hd) target k⟩) G
theorem Go.laload {a : Addr} {vs : List Value} {j : Int32} (i : Nat) {v : Value} (pc' : Nat) (hd : decode bytes pc = .ok (.laload, 1)) (hp : pc + 1 = pc') (A : Ary Z h a .long vs) (hj : j.toInt = (i : Int)) (hv : vs[i]? = some v) (G : Go md l Z n0 R bytes ml ret own mn Ψ cells slots sf h pc' L (v :: S)) :
    Go md l Z n0 R bytes ml ret own mn Ψ cells slots sf h pc L (.int j :: .ref a :: S) := by
  subst hp
  obtain ⟨c0, A, e1, e2, e3⟩ := A
  have hi := (List.getElem?_eq_some_iff.mp hv).1
  exact Go.warm _ (fun p e s m args below meth c T locs hx hby hml hZ hown X eT => ⟨T, X, eT, fun target k => X.laload hx (by rw [eT]; exact A.1) (State.isArrayOf_alike hZ.alike A.2.1) A.2.2 (Ary.inb (a := a) (ty := .long) e1 hj hi) (Ary.at e1 hj hv) (g := mkF m pc L (.int j :: .ref a :: S)) rfl rfl (hb hby hd) target k⟩) G
theorem Go.aaload {a : Addr} {vs : List Value} {j : Int32} {ty : FieldType} (i : Nat) {v : Value} (pc' : Nat) (hd : decode bytes pc = .ok (.aaload, 1)) (hp : pc + 1 = pc') (hty : ty.isReference = true) (A : Ary Z h a ty vs) (hj : j.toInt = (i : Int)) (hv : vs[i]? = some v) (G : Go md l Z n0 R bytes ml ret own mn Ψ cells slots sf h pc' L (v :: S)) :
    Go md l Z n0 R bytes ml ret own mn Ψ cells slots sf h pc L (.int j :: .ref a :: S) := by
  subst hp
  obtain ⟨c0, A, e1, e2, e3⟩ := A
  have hi := (List.getElem?_eq_some_iff.mp hv).1
  exact Go.warm _ (fun p e s m args below meth c T locs hx hby hml hZ hown X eT => ⟨T, X, eT, fun target k => X.aaload hx (by rw [eT]; exact A.1) (State.isArrayOf_alike hZ.alike A.2.1) hty A.2.2 (Ary.inb (a := a) (ty := ty) e1 hj hi) (Ary.at e1 hj hv) (g := mkF m pc L (.int j :: .ref a :: S)) rfl rfl (hb hby hd) target k⟩) G
theorem Go.castore {a : Addr} {vs : List Value} {j x : Int32} (i : Nat) (pc' : Nat) (hd : decode bytes pc = .ok (.castore, 1)) (hp : pc + 1 = pc') (A : Ary Z h a .char vs) (hj : j.toInt = (i : Int)) (hi : i < vs.length) (ha : a ∈ sf) (hn0 : n0 ≤ a)
    (G : ∀ h', Wr h h' a i (.int (nar .char x)) → Ary Z h' a .char (vs.set i (.int (nar .char x))) → Go md l Z n0 R bytes ml ret own mn Ψ cells slots sf h' pc' L S) : Go md l Z n0 R bytes ml ret own mn Ψ cells slots sf h pc L (.int x :: .int j :: .ref a :: S) := by
  subst hp
  obtain ⟨c0, A0, e1, e2, e3⟩ := A
  obtain ⟨-, q2⟩ := clamp_of hj
  exact Go.write _ ha hn0 (sl := i) (fun p e s m args below meth c T locs hx hby hml hnm hZ hown X eT => by rw [← q2]; exact stC X hx hZ eT A0 (Ary.inb (a := a) (ty := .char) e1 hj hi) (g := mkF m pc L (.int x :: .int j :: .ref a :: S)) rfl rfl (hb hby hd)) (fun h' W => G h' W (Ary.set W ⟨c0, A0, e1, e2, e3⟩ (fits_nar_char _)))
theorem Go.bastore {a : Addr} {vs : List Value} {j x : Int32} (i : Nat) (pc' : Nat) (hd : decode bytes pc = .ok (.bastore, 1)) (hp : pc + 1 = pc') (A : Ary Z h a .byte vs) (hj : j.toInt = (i : Int)) (hi : i < vs.length) (ha : a ∈ sf) (hn0 : n0 ≤ a)
    (G : ∀ h', Wr h h' a i (.int x.toInt8.toInt32) → Ary Z h' a .byte (vs.set i (.int x.toInt8.toInt32)) → Go md l Z n0 R bytes ml ret own mn Ψ cells slots sf h' pc' L S) : Go md l Z n0 R bytes ml ret own mn Ψ cells slots sf h pc L (.int x :: .int j :: .ref a :: S) := by
  subst hp
  obtain ⟨c0, A0, e1, e2, e3⟩ := A
  obtain ⟨-, q2⟩ := clamp_of hj
  exact Go.write _ ha hn0 (sl := i) (fun p e s m args below meth c T locs hx hby hml hnm hZ hown X eT => by rw [← q2]; exact stB X hx hZ eT A0 (Ary.inb (a := a) (ty := .byte) e1 hj hi) (g := mkF m pc L (.int x :: .int j :: .ref a :: S)) rfl rfl (hb hby hd)) (fun h' W => G h' W (Ary.set W ⟨c0, A0, e1, e2, e3⟩ (fits_nar_byte _)))
/-! calls -/
abbrev CPre (R : Room) (as : Array Value) (h : Heap) (kc ks : Nat) : Pt → Array Value → Prop := fun A a => a = as ∧ A.U.heap = h ∧ A.cells + kc ≤ R.cells ∧ A.slots + ks ≤ R.slots
abbrev CPost (Z : State) (n0 : Nat) (Q : Option Value → Heap → List Addr → Prop) (kc ks : Nat) : Pt → Array Value → Option Value → Pt → Prop := fun A _ v B => ∃ (L : List Loc) (sf' : List Addr), Q v B.U.heap sf' ∧ Old Z n0 B.U.heap ∧ Fr n0 L ∧ B.locs = A.locs ++ L ∧ B.cells = A.cells + kc ∧ B.slots = A.slots + ks
abbrev CPostW (Z : State) (EL : List (String × Nat)) (vm0 : Vm) (h : Heap) (n0 : Nat) (Q : Option Value → Heap → List Addr → Prop) (kc ks : Nat) : Pt → Array Value → Option Value → Pt → Prop := fun A _ v B => ∃ (L : List Loc) (sf' : List Addr), Q v B.U.heap sf' ∧ Old Z n0 B.U.heap ∧ Fr n0 L ∧ B.locs = A.locs ++ L ∧ B.cells = A.cells + kc ∧ B.slots = A.slots + ks ∧ CHr Z EL vm0 h B.U.vm B.U.heap ∧ ∀ x ∈ sf', x < B.U.heap.size ∧ Safe Z EL B.U.vm B.U.heap x
def Call (md : Md) (l : Launch) (Z : State) (n0 : Nat) (R : Room) (y : MethodName) (len W : Nat) (as : Array Value) (h : Heap) (sf : List Addr) (kc ks : Nat) (Q : Option Value → Heap → List Addr → Prop) : Prop :=
  ∀ (p : Program) (e : Env) (below : List Frame) (s : State) (vm0 : Vm) (sargs : Array Value), Z.Warmed39 vm0 → Bok md Z n0 s sf vm0 h →
    match md with
    | none => Back l R p e below (s.setVm vm0) sargs y len W (CPre R as h kc ks) (CPost Z n0 Q kc ks)
    | some EL => BackS l R p e below (s.setVm vm0) sargs y len W (CPre R as h kc ks) (CPostW Z EL vm0 h n0 Q kc ks)
theorem Bok.called {s U : State} {vm0 : Vm} {sf' : List Addr} (B : Bok (some EL) Z n0 s sf vm0 h) (h2 : (s.setVm vm0).Since U.vm U.heap.size) (o : Old Z n0 U.heap) (C : CHr Z EL vm0 h U.vm U.heap) (q : ∀ x ∈ sf', x < U.heap.size ∧ Safe Z EL U.vm U.heap x) : Bok (some EL) Z n0 s (sf' ++ sf) U.vm U.heap := by
  obtain ⟨-, ⟨k, b1, b2⟩, b3, b4, b5⟩ := B
  refine ⟨o, ⟨_, b1.trans h2 (Nat.le_trans b2 C.2.1), Nat.le_refl _⟩, b3, b4.trans C, fun x hx => ?_⟩
  rcases List.mem_append.mp hx with hx | hx
  · exact q x hx
  · exact ⟨Nat.lt_of_lt_of_le (b5 x hx).1 C.2.1, C.safe (b5 x hx).1 (b5 x hx).2⟩
theorem Go.callS {y : MethodName} {index maxY kc ks W : Nat} {bytesY : ByteArray} {retY : Option FieldType} {sfc : List Addr} {Q : Option Value → Heap → List Addr → Prop} {St : List Value} (pc' : Nat) (argsL : List Value) (hd : decode bytes pc = .ok (.invokestatic index, 3)) (hp : pc + 3 = pc') (hst : St = argsL.reverse ++ S)
    (wl : (Jvm.Cond.methodLink own index y).before a0 Z = true) (ws : (Jvm.Cond.static y).before a0 Z = true) (wi : (Jvm.Cond.initialized y.cls).before a0 Z = true) (wc : (Jvm.Cond.code y bytesY maxY retY).before a0 Z = true) (hy : y.cls ≠ "java/lang/invoke/MethodHandle" ∧ y.cls ≠ "java/lang/invoke/VarHandle")
    (hC : Call md l Z n0 R y 3 W argsL.toArray h sfc kc ks Q) (hlen : ∀ sig, parseMethodDescriptor y.desc = some sig → argsL.length = sig.parameters.length) (hW : (S.map fun v => v.category).sum ≤ W) (hsz : L.size = ml) (hc : cells + kc ≤ R.cells) (hs : slots + ks ≤ R.slots) (hsf : ∀ x ∈ sfc, x ∈ sf)
    (G : ∀ v h' sf', Q v h' sf' → Go md l Z n0 R bytes ml ret own mn Ψ (cells + kc) (slots + ks) (sf' ++ sf) h' pc' L (v.toList ++ S)) : Go md l Z n0 R bytes ml ret own mn Ψ cells slots sf h pc L St := by
  subst hp; subst hst
  intro p e s m args below meth c vm0 T locs hx hby hml hr hlk hn ho X eT hZ B N
  have hown : (s.setVm vm0).vm.findClass own = some m.cls := by rw [show (s.setVm vm0).vm = vm0 from rfl, hZ.alike.findClass]; exact ho
  have K := hC p e below s vm0 args hZ (B.sub hsf)
  cases md with
  | none =>
    obtain ⟨v, vm₁, ⟨U, L1, c1, n1⟩, -, X', ⟨L', sf', q1, q0, q2, q3, q4, q5⟩, st⟩ := Jvm.LawKit.callS X hx hown (mvT hZ wl) (mvT hZ ws) (mvT hZ wi) (mvT hZ wc) hy K (g := mkF m pc L (argsL.reverse ++ S)) rfl (hsz.trans hml.symm) hlen rfl (by simpa using hW) (hb hby hd) (fun _ _ => ⟨rfl, eT, hc, hs⟩)
    dsimp only [Pt.U, Pt.locs, Pt.cells, Pt.slots] at q1 q0 q3 q4 q5 X' st
    subst q3 q4 q5
    obtain ⟨s₂, o, h1, r⟩ := G v U.heap sf' q1 p e s m args below meth c vm0 U _ hx hby hml hr hlk hn ho X' rfl hZ ⟨q0, B.2⟩ (N.app q2)
    exact ⟨s₂, o, st _ h1, r⟩
  | some EL =>
    obtain ⟨v, vm₁, ⟨U, L1, c1, n1⟩, -, X', hS, hgr, ⟨L', sf', q1, q0, q2, q3, q4, q5, q6, q7⟩, st⟩ := callSS X hx hown (mvT hZ wl) (mvT hZ ws) (mvT hZ wi) (mvT hZ wc) hy K (g := mkF m pc L (argsL.reverse ++ S)) rfl (hsz.trans hml.symm) hlen rfl (by simpa using hW) (hb hby hd) (fun _ _ => ⟨rfl, eT, hc, hs⟩)
    dsimp only [Pt.U, Pt.locs, Pt.cells, Pt.slots] at q1 q0 q3 q4 q5 q6 q7 X' st hS hgr
    subst q3 q4 q5
    obtain ⟨s₂, o, h1, r⟩ := G v U.heap sf' q1 p e s m args below meth c U.vm U _ hx hby hml hr hlk hn ho X' rfl (State.Warmed39.trans (t := s.setVm vm0) hZ hS.1) (B.called hS q0 q6 q7) (N.app q2)
    exact ⟨s₂, o, st.trans h1, r⟩
theorem Go.callC {y : MethodName} {index maxY kc ks W : Nat} {bytesY : ByteArray} {sfc : List Addr} {Q : Option Value → Heap → List Addr → Prop} {St : List Value} {a : Addr} (pc' : Nat) (argsL : List Value) (hd : decode bytes pc = .ok (.invokespecial index, 3)) (hp : pc + 3 = pc') (hst : St = argsL.reverse ++ .ref a :: S) (hy1 : y.name = "<init>")
    (wl : (Jvm.Cond.methodLink own index y).before a0 Z = true) (ws : (Jvm.Cond.instanceMethod y).before a0 Z = true) (wc : (Jvm.Cond.code y bytesY maxY none).before a0 Z = true) (hy : y.cls ≠ "java/lang/invoke/MethodHandle" ∧ y.cls ≠ "java/lang/invoke/VarHandle")
    (hC : Call md l Z n0 R y 3 W (.ref a :: argsL).toArray h sfc kc ks Q) (hlen : ∀ sig, parseMethodDescriptor y.desc = some sig → argsL.length = sig.parameters.length) (hW : (S.map fun v => v.category).sum ≤ W) (hsz : L.size = ml) (hc : cells + kc ≤ R.cells) (hs : slots + ks ≤ R.slots) (hsf : ∀ x ∈ sfc, x ∈ sf)
    (G : ∀ v h' sf', Q v h' sf' → Go md l Z n0 R bytes ml ret own mn Ψ (cells + kc) (slots + ks) (sf' ++ sf) h' pc' L (v.toList ++ S)) : Go md l Z n0 R bytes ml ret own mn Ψ cells slots sf h pc L St := by
  subst hp; subst hst
  intro p e s m args below meth c vm0 T locs hx hby hml hr hlk hn ho X eT hZ B N
  have hown : (s.setVm vm0).vm.findClass own = some m.cls := by rw [show (s.setVm vm0).vm = vm0 from rfl, hZ.alike.findClass]; exact ho
  have K := hC p e below s vm0 args hZ (B.sub hsf)
  cases md with
  | none =>
    obtain ⟨v, vm₁, ⟨U, L1, c1, n1⟩, -, X', ⟨L', sf', q1, q0, q2, q3, q4, q5⟩, st⟩ := X.specialBack hx hy1 hown (mvT hZ wl) (mvT hZ ws) (mvT hZ wc) hy K (g := mkF m pc L (argsL.reverse ++ .ref a :: S)) rfl (hsz.trans hml.symm) (Steps.refl _) hlen rfl (by simpa using hW) (hb hby hd) (fun _ _ => ⟨rfl, eT, hc, hs⟩)
    dsimp only [Pt.U, Pt.locs, Pt.cells, Pt.slots] at q1 q0 q3 q4 q5 X' st
    subst q3 q4 q5
    obtain ⟨s₂, o, h1, r⟩ := G v U.heap sf' q1 p e s m args below meth c vm0 U _ hx hby hml hr hlk hn ho X' rfl hZ ⟨q0, B.2⟩ (N.app q2)
    exact ⟨s₂, o, st.trans h1, r⟩
  | some EL =>
    obtain ⟨v, vm₁, ⟨U, L1, c1, n1⟩, -, X', hS, hgr, ⟨L', sf', q1, q0, q2, q3, q4, q5, q6, q7⟩, st⟩ := X.specialBackS hx hy1 hown (mvT hZ wl) (mvT hZ ws) (mvT hZ wc) hy K (g := mkF m pc L (argsL.reverse ++ .ref a :: S)) rfl (hsz.trans hml.symm) (Steps.refl _) hlen rfl (by simpa using hW) (hb hby hd) (fun _ _ => ⟨rfl, eT, hc, hs⟩)
    dsimp only [Pt.U, Pt.locs, Pt.cells, Pt.slots] at q1 q0 q3 q4 q5 q6 q7 X' st hS hgr
    subst q3 q4 q5
    obtain ⟨s₂, o, h1, r⟩ := G v U.heap sf' q1 p e s m args below meth c U.vm U _ hx hby hml hr hlk hn ho X' rfl (State.Warmed39.trans (t := s.setVm vm0) hZ hS.1) (B.called hS q0 q6 q7) (N.app q2)
    exact ⟨s₂, o, st.trans h1, r⟩
theorem Go.callV {y z : MethodName} {index kc ks W : Nat} {C : String} {sfc : List Addr} {Q : Option Value → Heap → List Addr → Prop} {St : List Value} {a : Addr} (pc' : Nat) (argsL : List Value) (hd : decode bytes pc = .ok (.invokevirtual index, 3)) (hp : pc + 3 = pc') (hst : St = argsL.reverse ++ .ref a :: S)
    (wl : (Jvm.Cond.methodLink own index y).before a0 Z = true) (wd : (Jvm.Cond.declares y).before a0 Z = true) (wse : (Jvm.Cond.selects C y z).before a0 Z = true) (ws : (Jvm.Cond.instanceMethod z).before a0 Z = true) (hnf : ∀ (s : State), Z.Warmed39 s.vm → NotFace s y) (hy : y.cls ≠ "java/lang/invoke/MethodHandle" ∧ y.cls ≠ "java/lang/invoke/VarHandle")
    (E : Exa Z h a C) (hC : Call md l Z n0 R z 3 W (.ref a :: argsL).toArray h sfc kc ks Q) (hlen : ∀ sig, parseMethodDescriptor y.desc = some sig → argsL.length = sig.parameters.length) (hW : (S.map fun v => v.category).sum ≤ W) (hsz : L.size = ml) (hc : cells + kc ≤ R.cells) (hs : slots + ks ≤ R.slots) (hsf : ∀ x ∈ sfc, x ∈ sf)
    (G : ∀ v h' sf', Q v h' sf' → Go md l Z n0 R bytes ml ret own mn Ψ (cells + kc) (slots + ks) (sf' ++ sf) h' pc' L (v.toList ++ S)) : Go md l Z n0 R bytes ml ret own mn Ψ cells slots sf h pc L St := by
  subst hp; subst hst
  intro p e s m args below meth c vm0 T locs hx hby hml hr hlk hn ho X eT hZ B N
  have hown : (s.setVm vm0).vm.findClass own = some m.cls := by rw [show (s.setVm vm0).vm = vm0 from rfl, hZ.alike.findClass]; exact ho
  have K := hC p e below s vm0 args hZ (B.sub hsf)
  obtain ⟨cB, kB, i1, -, i3⟩ := isOf (s := s.setVm vm0) hZ eT E
  cases md with
  | none =>
    obtain ⟨v, vm₁, ⟨U, L1, c1, n1⟩, -, X', ⟨L', sf', q1, q0, q2, q3, q4, q5⟩, st⟩ := X.virtualBack hx hown (mvT hZ wl) (mvT hZ wd) (hnf _ hZ) (mvT hZ wse) (mvT hZ ws) hy K i1 i3 (g := mkF m pc L (argsL.reverse ++ .ref a :: S)) rfl (hsz.trans hml.symm) (Steps.refl _) hlen rfl (by simpa using hW) (hb hby hd) (fun _ _ => ⟨rfl, eT, hc, hs⟩)
    dsimp only [Pt.U, Pt.locs, Pt.cells, Pt.slots] at q1 q0 q3 q4 q5 X' st
    subst q3 q4 q5
    obtain ⟨s₂, o, h1, r⟩ := G v U.heap sf' q1 p e s m args below meth c vm0 U _ hx hby hml hr hlk hn ho X' rfl hZ ⟨q0, B.2⟩ (N.app q2)
    exact ⟨s₂, o, st.trans h1, r⟩
  | some EL =>
    obtain ⟨v, vm₁, ⟨U, L1, c1, n1⟩, -, X', hS, hgr, ⟨L', sf', q1, q0, q2, q3, q4, q5, q6, q7⟩, st⟩ := X.virtualBackS hx hown (mvT hZ wl) (mvT hZ wd) (hnf _ hZ) (mvT hZ wse) (mvT hZ ws) hy K i1 i3 (g := mkF m pc L (argsL.reverse ++ .ref a :: S)) rfl (hsz.trans hml.symm) (Steps.refl _) hlen rfl (by simpa using hW) (hb hby hd) (fun _ _ => ⟨rfl, eT, hc, hs⟩)
    dsimp only [Pt.U, Pt.locs, Pt.cells, Pt.slots] at q1 q0 q3 q4 q5 q6 q7 X' st hS hgr
    subst q3 q4 q5
    obtain ⟨s₂, o, h1, r⟩ := G v U.heap sf' q1 p e s m args below meth c U.vm U _ hx hby hml hr hlk hn ho X' rfl (State.Warmed39.trans (t := s.setVm vm0) hZ hS.1) (B.called hS q0 q6 q7) (N.app q2)
    exact ⟨s₂, o, st.trans h1, r⟩
/-! from a body to a call -/
theorem met_of_go {cls name desc : String} {as : Array Value} {L0 : Array Slot} {Q : Option Value → Heap → List Addr → Prop} {ws : List Jvm.Cond} (hpn : plainName cls = true) (hef : ∀ m, entryFrame m as ml = mkF m 0 L0 []) (G : Go md l Z n0 R bytes ml ret cls name Q 0 0 sf h 0 L0 []) :
    MetFree l ⟨cls, name, desc⟩ (head1 (Jvm.Cond.code ⟨cls, name, desc⟩ bytes ml ret :: ws) R) (fun a U => a = as ∧ Z.Warmed39 U.vm ∧ U.heap = h ∧ Bok md Z n0 U sf U.vm h) (fun _ _ _ _ _ => True)
      (fun _ U o U' => ∃ (v : Option Value) (L' : List Loc) (sf' : List Addr), o = .returned v ∧ Q v U'.heap sf' ∧ Old Z n0 U'.heap ∧ Fr n0 L' ∧ SafeAll md Z sf' U'.vm U'.heap ∧ FinE md Z U o U' L' R.cells R.slots) := by
  refine MetFree.of_bodySF (plainFor_of_name hpn) hisR ?_
  intro p e s m args below meth c s₁ Bd hml0 hP hK
  obtain ⟨rfl, hZ, hh, hB⟩ := hP
  have X0 : Stand p l e R s m args below meth c s₁ [] 0 0 := Stand.of_body Bd
  have e0 : s₁.heap = h := by rw [← hh, Bd.state]; rfl
  have q := G p e s m args below meth c s.vm s₁ [] Bd.exec Bd.bytes hml0 Bd.returns (BodyLoose.notSynchronized Bd) (name_of_methodNamed Bd.named Bd.method).1 (by rw [← hZ.alike.findClass]; exact findClass_of_methodNamed Bd.named) X0 e0 hZ hB (Fr.nil n0)
  rw [hef]; exact q
theorem call_of_go {cls name desc : String} {as : Array Value} {L0 : Array Slot} {Q : Option Value → Heap → List Addr → Prop} {rm : Room} {len W : Nat} (hpn : plainName cls = true) (hef : ∀ m, entryFrame m as ml = mkF m 0 L0 []) (G : Go md l Z n0 rm bytes ml ret cls name Q 0 0 sf h 0 L0 [])
    (wc : (Jvm.Cond.code ⟨cls, name, desc⟩ bytes ml ret).before a0 Z = true) (wz : (Jvm.Cond.initialized cls).before a0 Z = true) (hf : rm.frames + 1 ≤ R.frames) (hl : W + (ml + 11) + rm.locals ≤ R.locals) :
    Call md l Z n0 R ⟨cls, name, desc⟩ len W as h sf rm.cells rm.slots Q := by
  have hM := met_of_go (desc := desc) (ws := []) hpn hef G
  intro p e below s vm0 sargs hZ B
  cases md with
  | none =>
    have hM' : MetFree l ⟨cls, name, desc⟩ (head1 [Jvm.Cond.code ⟨cls, name, desc⟩ bytes ml ret] rm) (fun a U => a = as ∧ Z.Warmed39 U.vm ∧ U.heap = h) (fun _ _ _ _ _ => True) (fun _ U o U' => ∃ v L, o = .returned v ∧ (fun v h' L => ∃ sf', Q v h' sf' ∧ Old Z n0 h' ∧ Fr n0 L) v U'.heap L ∧ FrameEnd U o U' L rm.cells rm.slots) :=
      fun p e ha hc hk s m args below hfr happ hP hK => by
        obtain ⟨n, o, h1, h2, h3, v, L', sf', e1, q1, q0, q2, -, q4⟩ := hM p e ha hc hk s m args below hfr happ ⟨hP.1, hP.2.1, hP.2.2, B.1, rfl⟩ hK
        exact ⟨n, o, h1, h2, h3, v, L', e1, ⟨sf', q1, q0, q2⟩, q4⟩
    have K := backOf (Q := fun v h' L => ∃ sf', Q v h' sf' ∧ Old Z n0 h' ∧ Fr n0 L) (R := R) (p := p) (e := e) (below := below) (s := s.setVm vm0) (args := sargs) (len := len) (W := W) hM' hZ wc wz hf hl
    intro m meth c A g ig mk a X hg hsize hdg hW hn hp
    obtain ⟨v, P, X', ⟨L', ⟨sf', q1, q0, q2⟩, q3, q4, q5⟩, st⟩ := K m meth c A g ig mk a X hg hsize hdg hW hn hp
    exact ⟨v, P, X', ⟨L', sf', q1, q0, q2, q3, q4, q5⟩, st⟩
  | some EL =>
    obtain ⟨b0, ⟨k, b1, b2⟩, ⟨a1, b3⟩, b4, b5⟩ := B
    exact BackS.of_freeW (bytes := bytes) (maxL := ml) (ret := ret) (E := fun _ first o t L k n => k = rm.cells ∧ n = rm.slots ∧ (∃ v sf', o = .returned v ∧ Q v t.heap sf' ∧ Old Z n0 t.heap ∧ Fr n0 L ∧ ∀ x ∈ sf', x < t.heap.size ∧ Safe Z EL t.vm t.heap x) ∧ CHr Z EL first.vm first.heap t.vm t.heap) hM hf hl
      (fun m meth c A a Y hp => have hU : Z.Warmed39 A.U.vm := wtrans (s := s.setVm vm0) hZ Y.warmed
        ⟨by show (Jvm.Cond.and _ .tt).before a A.U = true; rw [Cond.before_and, mv hU wc]; rfl, mv hU wc, mv hU wz, hp.2.2.1, hp.2.2.2⟩)
      (fun m meth c A a g mk Y hp => by
        have C := CHv.at Y hZ b3 b4.1
        exact ⟨hp.1, wtrans (s := s.setVm vm0) hZ Y.warmed, hp.2.1, b0, ⟨_, (State.WarmedH.refl _).since _, Nat.le_refl _⟩, ⟨a1, b3⟩, by show CHr Z EL A.U.vm A.U.heap A.U.vm h; rw [hp.2.1]; exact CHr.refl C.1, fun x hx => ⟨(b5 x hx).1, C.safe (b5 x hx).1 (b5 x hx).2⟩⟩)
      (fun _ _ _ _ _ _ _ _ _ => trivial)
      (fun _ _ _ _ ⟨v, L', sf', e1, q1, q0, q2, q3, q4, q5⟩ => ⟨L', _, _, q5, rfl, rfl, ⟨v, sf', e1, q1, q0, q2, q3⟩, q4⟩)
      (fun m meth c A a g mk v t L' k n Y hp _ _ ⟨e1, e2, ⟨v', sf', e3, q1, q0, q2, q3⟩, q4⟩ => by
        cases e3; subst e1 e2
        refine ⟨L', sf', q1, q0, q2, rfl, rfl, rfl, (CHv.at Y hZ b3 b4.1).trans ?_, q3⟩
        rw [← hp.2.1]; exact q4)
/-- a law of the library or of a pasted text, in backOf's shape -/
theorem call_of_back {y : MethodName} {as : Array Value} {len W kc ks : Nat} {QB : Option Value → Heap → List Loc → Prop} {Q : Option Value → Heap → List Addr → Prop} (ws : List Addr)
    (hB : ∀ (p : Program) (e : Env) (below : List Frame) (s : State) (sargs : Array Value), Z.Warmed39 s.vm → Back l R p e below s sargs y len W (fun A a => a = as ∧ A.U.heap = h ∧ A.cells + kc ≤ R.cells ∧ A.slots + ks ≤ R.slots) (fun A _ v B => ∃ L, QB v B.U.heap L ∧ B.locs = A.locs ++ L ∧ B.cells = A.cells + kc ∧ B.slots = A.slots + ks))
    (hQ : ∀ v h' L, QB v h' L → Fr n0 L ∧ Keep h h' ws ∧ Q v h' []) (hws : ∀ x ∈ ws, x ∈ sf) (hw0 : ∀ x ∈ ws, n0 ≤ x) : Call md l Z n0 R y len W as h sf kc ks Q := by
  intro p e below s vm0 sargs hZ B
  have K := hB p e below (s.setVm vm0) sargs hZ
  cases md with
  | none =>
    intro m meth c A g ig mk a X hg hsize hdg hW hn hp
    obtain ⟨v, P, X', ⟨L', q1, q3, q4, q5⟩, st⟩ := K m meth c A g ig mk a X hg hsize hdg hW hn hp
    obtain ⟨r1, r2, r3⟩ := hQ _ _ _ q1
    exact ⟨v, P, X', ⟨L', [], r3, B.1.keep r2 hw0, r1, q3, q4, q5⟩, st⟩
  | some EL =>
    obtain ⟨b0, ⟨k, b1, b2⟩, ⟨a1, b3⟩, b4, b5⟩ := B
    intro m meth c A g ig mk a X hg hsize hdg hW hn hp
    obtain ⟨v, P, X', ⟨L', q1, q3, q4, q5⟩, st⟩ := K m meth c A g ig mk a X hg hsize hdg hW hn hp
    obtain ⟨r1, r2, r3⟩ := hQ _ _ _ q1
    have C1 : CHr Z EL vm0 h vm0 P.U.heap := CHr.keep r2 (fun x hx => (b5 x (hws x hx)).2) b4.1
    have C2 : CHr Z EL vm0 P.U.heap P.U.vm P.U.heap := CHv.at X' hZ b3 C1.1
    exact ⟨v, P, X'.retabled X'.warmed.wide, X'.warmed.since _, by rw [hp.2.1]; exact r2.1, ⟨L', [], r3, b0.keep r2 hw0, r1, q3, q4, q5, C1.trans C2, fun x hx => nomatch hx⟩, st⟩
/-! String constants -/
theorem Go.ldcL {index : Nat} {text : String} {vs : List Value} {z : Int32} (n : Nat) (pc' : Nat) (hd : decode bytes pc = .ok (.ldc index, 2)) (hp : pc + 2 = pc') (w : (Jvm.Cond.stringLink own index text).before a0 Z = true) (wS : ∀ a ∈ Bundle.stringAtoms, a.before a0 Z = true) (hmem : (own, index) ∈ EL)
    (ht : (∀ c ∈ text.toList, c.toNat < 256) ∧ text.toList.map (fun c => Value.int (Jvm.Lit.byteI c.toNat.toUInt16)) = vs) (hz : ¬ z < 0) (hl : z.toNatClampNeg = vs.length) (hn : 4 * text.toList.length ≤ n) (hbig : n ≤ 536870912) (hc : cells + 2 ≤ R.cells) (hl' : slots + (n + 4) ≤ R.slots)
    (G : ∀ h' a b k, Ext h h' → Exa Z h' a "java/lang/String" → Fld Z h' a "java/lang/String" "coder" "B" (.int 0) → Fld Z h' a "java/lang/String" "value" "[B" (.ref b) → Arv Z h' b k .byte z vs (.int 0) → (∀ x ∈ sf, x ≠ a ∧ x ≠ b) → Go (some EL) l Z n0 R bytes ml ret own mn Ψ (cells + 2) (slots + (n + 4)) sf h' pc' L (.ref a :: S)) :
    Go (some EL) l Z n0 R bytes ml ret own mn Ψ cells slots sf h pc L S := by
  subst hp
  intro p e s m args below meth c vm0 T locs hx hby hml hr hlk hnm ho X eT hZ B N
  obtain ⟨b0, ⟨k0, b1, b2⟩, ⟨a1, b3⟩, b4, b5⟩ := B
  have hown : vm0.findClass own = some m.cls := by rw [hZ.alike.findClass]; exact ho
  obtain ⟨a, T', h', k1, b, k, X', e', E, hS, hk1, hZ', hown', x1, x2, x3, x4, x5, x6, C, -, hsf, st⟩ := ldcCH X hx hZ hown w wS eT b1 b2 b3 hmem b4.1 ht hz hl (g := mkF m pc L S) rfl (hb hby hd) hn hbig hc hl'
  obtain ⟨s₂, o, h1, r⟩ := G h' a b k E x1 x2 x3 x4 (fun x hx => hsf x (C.safe (b5 x hx).1 (b5 x hx).2)) p e s m args below meth c T'.vm T' locs hx hby hml hr hlk hnm ho X' e' hZ' ⟨b0.ext E, ⟨k1, hS, hk1⟩, ⟨a1, b3⟩, b4.trans C, fun x hx => ⟨Nat.lt_of_lt_of_le (b5 x hx).1 C.2.1, C.safe (b5 x hx).1 (b5 x hx).2⟩⟩ N
  exact ⟨s₂, o, st _ h1, r⟩
theorem ofNat_toInt {n : Nat} (q : n < 2147483648) : (Int32.ofNat n).toInt = (n : Int) := Int32.toInt_ofNat_of_lt (by omega)
theorem Ary.arv {a : Addr} {ty : FieldType} {vs : List Value} (A : Ary Z h a ty vs) (d : Value) : ∃ k, Arv Z h a k ty (Int32.ofNat vs.length) vs d := by
  obtain ⟨c, A, e1, e2, e3⟩ := A
  obtain ⟨q1, q2⟩ := clamp_of (ofNat_toInt e2)
  subst e1
  refine ⟨c.cls, c, A, rfl, by rw [q2]; simp, q1, fun k hk => ?_, fun i hi => ?_⟩
  · simp [List.getD, hk]
  · have : c.slots.toList.getD i d = c.slots[i] := by simp [List.getD, hi]
    rw [this]; exact e3 _ (by simp)
theorem Ary.ofArv {a : Addr} {ty : FieldType} {vs : List Value} {k : ClassId} {z : Int32} {d : Value} (A : Arv Z h a k ty z vs d) (hl : z.toNatClampNeg = vs.length) (hb31 : vs.length < 2147483648) : Ary Z h a ty vs := by
  obtain ⟨c, A, -, e2, -, e4, e5⟩ := A
  have hs : c.slots.size = vs.length := e2.trans hl
  have e1 : c.slots.toList = vs := by
    refine List.ext_getElem? fun i => ?_
    by_cases hi : i < vs.length
    · have := e4 i (by omega)
      simp only [List.getD, List.getElem?_eq_getElem hi, Option.getD_some] at this
      rw [List.getElem?_eq_getElem hi, ← this]; simp
    · rw [List.getElem?_eq_none (by simpa using by omega), List.getElem?_eq_none (by omega)]
  refine ⟨c, A, e1, hb31, fun v hv => ?_⟩
  obtain ⟨i, hi, rfl⟩ := List.mem_iff_getElem.mp hv
  have := e5 i (by omega)
  simpa [List.getD, List.getElem?_eq_getElem hi] using this
theorem fld_int {args : Array Value} {s : State} {t : Term} {O n d : String} {v : Int32} {a : Addr} (hv : (Jvm.Cond.eq (Term.field t O n d) (Term.int v)).value args s none s [] = some true) (ev : t.eval args s none [] s = some (.ref a)) : Fld s s.heap a O n d (.int v) := by
  obtain ⟨x, y, e1, e2, k1, k2⟩ := cmp_v (Or.inl hv)
  cases (Term.int_eval v).symm.trans e2
  obtain ⟨z, rfl⟩ := k2
  have := gotT (Cond.eq_ints e1 (Term.int_eval v)) hv
  subst this
  exact Fld.start ((fld_at ev).symm.trans e1)
theorem no_sub {C O K : String} {k : Nat} (w : (Jvm.Cond.superclass C O).before a0 Z = true) (w0 : (Jvm.Cond.noSuperclass O).before a0 Z = true) (wi : (Jvm.Cond.instantiable K k).before a0 Z = true) (hn : C ≠ K) (hn2 : O ≠ K) : ∃ c t, Z.vm.findClass C = some c ∧ Z.vm.findClass K = some t ∧ Z.vm.assignable c t = false := by
  obtain ⟨c, h0⟩ := found_sup w
  obtain ⟨p, kc, kp, h1, h2, h3, h4, h5, -, h7⟩ := Cond.superclass_spec h0 w
  obtain ⟨c', k', g1, g2, g3, -, -⟩ := Cond.noSuperclass_spec w0
  cases h1.symm.trans g1
  obtain ⟨t, kt, i1, i2, i3, i4, -⟩ := Cond.instantiable_spec wi
  have ne1 := ids_ne h0 i1 hn
  have ne2 := ids_ne g1 i1 hn2
  have i5 : kt.isInterface = false := by simp only [Bool.or_eq_false_iff] at i4; exact i4.1
  refine ⟨c, t, h0, i1, ?_⟩
  show Z.vm.assignableAux (255 + 1) c t = false
  have j1 : ∀ f, Z.vm.isSubclassAux f p t = false := fun f => by cases f <;> simp [Vm.isSubclassAux, ne2, g2, g3]
  have j2 : ∀ f, Z.vm.isSubclassAux f c t = false := fun f => by cases f <;> simp [Vm.isSubclassAux, ne1, h2, h4, j1]
  simp [Vm.assignableAux, ne1, h2, i2, h5, i3, i5, Vm.isSubclass, j2]
end G
end GK
end Jvm.Pilot.@@N@@
/- laws to paste: Road.backV, Road.eqW, Road.codOf (cut by pick.py; bodies as the Statement names them) -/
namespace Jvm.Pilot.@@N@@
namespace StrChars
open Jvm Sem ClassFile Op Lib Jvm.Stand Jvm.Free.XT Jvm.Free.ALB Jvm.Free.JM Jvm.Free
open Jvm.Lib.Cold (StaticIs)
/-- a char array whose places are chars -/
def Ch (a : Addr) (A : Cell) (U : State) : Prop := Arr .char a A U ∧ Typed .char A
theorem Ch.mv {a : Addr} {A : Cell} {U U' : State} (h : Ch a A U) (hal : U.vm.Alike U'.vm) (hh : U'.heap = U.heap) : Ch a A U' := ⟨h.1.mv hal hh, h.2⟩
theorem Ch.keep {a : Addr} {A : Cell} {U U' : State} (h : Ch a A U) (hal : U.vm.Alike U'.vm) (hk : U'.heap[a]? = some A) : Ch a A U' := ⟨h.1.keep hal hk, h.2⟩
/-- what place i of a char[]'s cell holds -/
def cv (A : Cell) (i : Nat) : Int32 := match A.slots[i]? with | some (.int x) => x | _ => 0
theorem Ch.get {a : Addr} {A : Cell} {U : State} (h : Ch a A U) {i : Nat} (hi : i < A.slots.size) : A.slots[i]? = some (.int (cv A i)) := by
  have e := Array.getElem?_eq_getElem hi
  have f := h.2 i _ e
  unfold cv; rw [e]
  generalize A.slots[i] = v at f
  cases v <;> simp [fits] at f ⊢
/-- the byte that i2b leaves of a char -/
def lo8 (x : Int32) : Int32 := x.toInt8.toInt32
theorem fits_lo8 (y : Int32) : fits .byte (.int (lo8 y)) = true := by
  have h1 := y.toInt8.le_toInt
  have h2 := y.toInt8.toInt_lt
  simp only [lo8, fits, Bool.and_eq_true, decide_eq_true_eq, Int32.le_iff_toInt_le, Int8.toInt_toInt32, show (-128 : Int32).toInt = -128 from by decide, show (127 : Int32).toInt = 127 from by decide]
  omega
/-- A' is A but that each place j of lo .. hi - 1 holds f j -/
def Laid (A A' : Cell) (lo hi : Nat) (f : Nat → Value) : Prop := A'.cls = A.cls ∧ A'.vm = A.vm ∧ A'.slots.size = A.slots.size ∧ ∀ i, A'.slots[i]? = if lo ≤ i ∧ i < hi then some (f i) else A.slots[i]?
theorem Laid.zero (A : Cell) (lo : Nat) (f : Nat → Value) : Laid A A lo (lo + 0) f := ⟨rfl, rfl, rfl, fun i => by rw [if_neg (by omega)]⟩
theorem Laid.step {A Ak : Cell} {lo k : Nat} {f : Nat → Value} {v : Value} (h : Laid A Ak lo k f) (hlo : lo ≤ k) (hk : k < Ak.slots.size) (hv : v = f k) : Laid A (Ak.setSlot k v) lo (k + 1) f := by
  refine ⟨h.1, h.2.1, by simpa [Cell.setSlot] using h.2.2.1, fun i => ?_⟩
  by_cases e : k = i
  · subst e; rw [Cell.slots_setSlot_self v hk, if_pos (by omega), hv]
  · rw [Cell.slots_setSlot_ne v e, h.2.2.2 i]
    by_cases q : lo ≤ i ∧ i < k
    · rw [if_pos q, if_pos (by omega)]
    · rw [if_neg q, if_neg (by omega)]
def U16 : String := "java/lang/StringUTF16"
namespace Cmp5
def yN : MethodName := ⟨"java/lang/StringUTF16", "compress", "([CI[BII)I"⟩
abbrev yB : ByteArray := jdk_52_method_21_code
theorem d0 : decode yB 0 = .ok (.iconst 0, 1) := by decide +kernel
theorem d1 : decode yB 1 = .ok (.istore 5, 2) := by decide +kernel
theorem d3 : decode yB 3 = .ok (.iload 5, 2) := by decide +kernel
theorem d5 : decode yB 5 = .ok (.iload 4, 2) := by decide +kernel
theorem d7 : decode yB 7 = .ok (.if_icmp (.ge) 37, 3) := by decide +kernel
theorem d10 : decode yB 10 = .ok (.aload_n 0, 1) := by decide +kernel
theorem d11 : decode yB 11 = .ok (.iload_n 1, 1) := by decide +kernel
theorem d12 : decode yB 12 = .ok (.caload, 1) := by decide +kernel
theorem d13 : decode yB 13 = .ok (.istore 6, 2) := by decide +kernel
theorem d15 : decode yB 15 = .ok (.iload 6, 2) := by decide +kernel
theorem d17 : decode yB 17 = .ok (.sipush 255, 3) := by decide +kernel
theorem d20 : decode yB 20 = .ok (.if_icmp (.le) 6, 3) := by decide +kernel
theorem d26 : decode yB 26 = .ok (.aload_n 2, 1) := by decide +kernel
theorem d27 : decode yB 27 = .ok (.iload_n 3, 1) := by decide +kernel
theorem d28 : decode yB 28 = .ok (.iload 6, 2) := by decide +kernel
theorem d30 : decode yB 30 = .ok (.i2b, 1) := by decide +kernel
theorem d31 : decode yB 31 = .ok (.bastore, 1) := by decide +kernel
theorem d32 : decode yB 32 = .ok (.iinc 1 1, 3) := by decide +kernel
theorem d35 : decode yB 35 = .ok (.iinc 3 1, 3) := by decide +kernel
theorem d38 : decode yB 38 = .ok (.iinc 5 1, 3) := by decide +kernel
theorem d41 : decode yB 41 = .ok (.goto (-38), 3) := by decide +kernel
theorem d44 : decode yB 44 = .ok (.iload 4, 2) := by decide +kernel
theorem d46 : decode yB 46 = .ok (.ireturn, 1) := by decide +kernel
def site : List Cond := []
def tab : Cond := tabOf yN yB 7 (some .int) site
def P (b : Addr) (A : Cell) (d : Addr) (B : Cell) (o q len : Nat) (args : Array Value) (s : State) : Prop := args = #[.ref b, .int (Int32.ofNat o), .ref d, .int (Int32.ofNat q), .int (Int32.ofNat len)] ∧ Ch b A s ∧ Arr .byte d B s ∧ b ≠ d ∧ o + len ≤ A.slots.size ∧ q + len ≤ B.slots.size ∧ ∀ i, i < len → ¬ 255 < cv A (o + i)
def E (b : Addr) (A : Cell) (d : Addr) (B : Cell) (o q len : Nat) (r : Option Value) (s u : State) : Prop := r = some (.int (Int32.ofNat len)) ∧ ∃ B', Put d B' s u ∧ Laid B B' q (q + len) (fun j => Value.int (lo8 (cv A (o + (j - q)))))
/-- no char of the range above 255: len; the places written hold each char's low byte -/
theorem law (l : Launch) (b : Addr) (A : Cell) (d : Addr) (B : Cell) (o q len : Nat) : Law l yN 5 5 0 0 yB 7 (some .int) site (P b A d B o q len) (E b A d B o q len) (copyLocs d q len) 0 0 := by
  refine Law.of_walk (plainFor_of_name (by decide +kernel)) (by decide +kernel) (by decide +kernel) (by decide) (fun _ _ h => by rw [h.1]; rfl) (fun _ U U' hal hh h => ⟨h.1, h.2.1.mv hal hh, h.2.2.1.mv hal hh, h.2.2.2⟩) (fun r U U' V V' h1 hal h2 h => ⟨h.1, h.2.elim fun B' q => ⟨B', q.1.mv h1 h2, q.2⟩⟩) ?_
  intro p e s m args below meth c s₁ X0 hexec hbytes hml hret hlk hnm hown hh0 W hP
  obtain ⟨rfl, hA, hB, hne, l1, l2, hp⟩ := hP
  have c1 : Steps p.tables e below (s₁.setTop (entryFrame m #[.ref b, .int (Int32.ofNat o), .ref d, .int (Int32.ofNat q), .int (Int32.ofNat len)] 7)) (s₁.setTop (mkF m 0 #[.val (.ref b), .val (.int (Int32.ofNat o)), .val (.ref d), .val (.int (Int32.ofNat q)), .val (.int (Int32.ofNat len)), .unset, .unset] [])) := entry rfl
  have hA0 := hA.1.mv X0.warmed.alike hh0
  have hB0 := hB.mv X0.warmed.alike hh0
  have a31 := hA.1.2.2.2
  have c2 : Steps p.tables e below (s₁.setTop (entryFrame m #[.ref b, .int (Int32.ofNat o), .ref d, .int (Int32.ofNat q), .int (Int32.ofNat len)] 7)) (s₁.setTop (mkF m 3 #[.val (.ref b), .val (.int (Int32.ofNat o)), .val (.ref d), .val (.int (Int32.ofNat q)), .val (.int (Int32.ofNat len)), .val (.int 0), .unset] [])) := c1.trans (by
    refine iconstV X0.here hexec rfl 0 (hb hbytes d0) (by decide) ?_
    refine XS.istore X0.here hexec rfl (hb hbytes d1) rfl rfl ?_
    exact Steps.refl _)
  have loop : ∀ (r i : Nat), i + r = len → ∀ (z : Slot), (z = .unset ∨ ∃ w, z = .val w ∧ w.category = 1) → ∀ (Tl : State) (Bk : Cell), Stand p l e { frames := 0, locals := 0, cells := 0, slots := 0 } s m #[.ref b, .int (Int32.ofNat o), .ref d, .int (Int32.ofNat q), .int (Int32.ofNat len)] below meth c Tl ([] ++ copyLocs d q i) 0 0 → Put d Bk s₁ Tl → Laid B Bk q (q + i) (fun j => Value.int (lo8 (cv A (o + (j - q))))) →
      Steps p.tables e below (s₁.setTop (entryFrame m #[.ref b, .int (Int32.ofNat o), .ref d, .int (Int32.ofNat q), .int (Int32.ofNat len)] 7)) (Tl.setTop (mkF m 3 #[.val (.ref b), .val (.int (Int32.ofNat (o + i))), .val (.ref d), .val (.int (Int32.ofNat (q + i))), .val (.int (Int32.ofNat len)), .val (.int (Int32.ofNat i)), z] [])) → ∃ (T' : State) (B' : Cell) (z' : Slot), Stand p l e { frames := 0, locals := 0, cells := 0, slots := 0 } s m #[.ref b, .int (Int32.ofNat o), .ref d, .int (Int32.ofNat q), .int (Int32.ofNat len)] below meth c T' ([] ++ copyLocs d q len) 0 0 ∧ Put d B' s₁ T' ∧ Laid B B' q (q + len) (fun j => Value.int (lo8 (cv A (o + (j - q))))) ∧
      Steps p.tables e below (s₁.setTop (entryFrame m #[.ref b, .int (Int32.ofNat o), .ref d, .int (Int32.ofNat q), .int (Int32.ofNat len)] 7)) (T'.setTop (mkF m 3 #[.val (.ref b), .val (.int (Int32.ofNat (o + len))), .val (.ref d), .val (.int (Int32.ofNat (q + len))), .val (.int (Int32.ofNat len)), .val (.int (Int32.ofNat len)), z'] [])) := by
    intro r
    induction r with
    | zero =>
      intro i hi z hz Tl Bk Xl pl fl cl
      have hil : i = len := by omega
      rw [hil] at Xl fl cl
      exact ⟨Tl, Bk, z, Xl, pl, fl, cl⟩
    | succ r ih =>
      intro i hi z hz Tl Bk Xl pl fl cl
      have all := X0.warmed.alike.symm.trans Xl.warmed.alike
      have hAl := hA0.keep all (pl.other hne hA0.1)
      have hBk := hB0.like all pl.1 fl.1 fl.2.1 fl.2.2.1
      have hlt : q + i < Bk.slots.size := by rw [fl.2.2.1]; omega
      have c3 : Steps p.tables e below (s₁.setTop (entryFrame m #[.ref b, .int (Int32.ofNat o), .ref d, .int (Int32.ofNat q), .int (Int32.ofNat len)] 7)) (Tl.setTop (mkF m 12 #[.val (.ref b), .val (.int (Int32.ofNat (o + i))), .val (.ref d), .val (.int (Int32.ofNat (q + i))), .val (.int (Int32.ofNat len)), .val (.int (Int32.ofNat i)), z] [.int (Int32.ofNat (o + i)), .ref b])) := cl.trans (by
        refine XS.iload Xl.here hexec rfl (hb hbytes d3) rfl ?_
        refine XS.iload Xl.here hexec rfl (hb hbytes d5) rfl ?_
        refine XS.icmpNo Xl.here hexec rfl (hb hbytes d7) rfl (ii_ge_f (lt32 (by omega) (by omega))) ?_
        refine XS.aloadN Xl.here hexec rfl (hb hbytes d10) rfl rfl ?_
        refine XS.iloadN Xl.here hexec rfl (hb hbytes d11) rfl ?_
        exact Steps.refl _)
      have c4 : Steps p.tables e below (s₁.setTop (entryFrame m #[.ref b, .int (Int32.ofNat o), .ref d, .int (Int32.ofNat q), .int (Int32.ofNat len)] 7)) (Tl.setTop (mkF m 13 #[.val (.ref b), .val (.int (Int32.ofNat (o + i))), .val (.ref d), .val (.int (Int32.ofNat (q + i))), .val (.int (Int32.ofNat len)), .val (.int (Int32.ofNat i)), z] [.int (cv A (o + i))])) := c3.trans (by
        refine Xl.aget hexec hAl rfl (hA.get (i := o + i) (by omega)) rfl rfl (hb hbytes d12) ?_
        exact Steps.refl _)
      have c5 : Steps p.tables e below (s₁.setTop (entryFrame m #[.ref b, .int (Int32.ofNat o), .ref d, .int (Int32.ofNat q), .int (Int32.ofNat len)] 7)) (Tl.setTop (mkF m 15 #[.val (.ref b), .val (.int (Int32.ofNat (o + i))), .val (.ref d), .val (.int (Int32.ofNat (q + i))), .val (.int (Int32.ofNat len)), .val (.int (Int32.ofNat i)), .val (.int (cv A (o + i)))] [])) := c4.trans (by
        refine XS.istoreS Xl.here hexec rfl (hb hbytes d13) rfl rfl hz ?_
        exact Steps.refl _)
      have c6 : Steps p.tables e below (s₁.setTop (entryFrame m #[.ref b, .int (Int32.ofNat o), .ref d, .int (Int32.ofNat q), .int (Int32.ofNat len)] 7)) (Tl.setTop (mkF m 31 #[.val (.ref b), .val (.int (Int32.ofNat (o + i))), .val (.ref d), .val (.int (Int32.ofNat (q + i))), .val (.int (Int32.ofNat len)), .val (.int (Int32.ofNat i)), .val (.int (cv A (o + i)))] [.int (lo8 (cv A (o + i))), .int (Int32.ofNat (q + i)), .ref d])) := c5.trans (by
        refine XS.iload Xl.here hexec rfl (hb hbytes d15) rfl ?_
        refine sipushV Xl.here hexec rfl 255 (hb hbytes d17) (by decide) ?_
        refine XS.icmpYes Xl.here hexec rfl (pc0 := 20) rfl (hb hbytes d20) rfl (ii_le_t (hp i (by omega))) (by decide) rfl ?_
        refine XS.aloadN Xl.here hexec rfl (hb hbytes d26) rfl rfl ?_
        refine XS.iloadN Xl.here hexec rfl (hb hbytes d27) rfl ?_
        refine XS.iload Xl.here hexec rfl (hb hbytes d28) rfl ?_
        refine i2b Xl.here hexec rfl (hb hbytes d30) rfl ?_
        exact Steps.refl _)
      obtain ⟨T7, X7, p7, st7⟩ := Xl.aput hexec hBk rfl hlt rfl (fits_lo8 (cv A (o + i))) (g := (mkF m 31 #[.val (.ref b), .val (.int (Int32.ofNat (o + i))), .val (.ref d), .val (.int (Int32.ofNat (q + i))), .val (.int (Int32.ofNat len)), .val (.int (Int32.ofNat i)), .val (.int (cv A (o + i)))] [.int (lo8 (cv A (o + i))), .int (Int32.ofNat (q + i)), .ref d])) rfl (rest := []) rfl (hb hbytes d31)
      have c8 : Steps p.tables e below (s₁.setTop (entryFrame m #[.ref b, .int (Int32.ofNat o), .ref d, .int (Int32.ofNat q), .int (Int32.ofNat len)] 7)) (T7.setTop (mkF m 32 #[.val (.ref b), .val (.int (Int32.ofNat (o + i))), .val (.ref d), .val (.int (Int32.ofNat (q + i))), .val (.int (Int32.ofNat len)), .val (.int (Int32.ofNat i)), .val (.int (cv A (o + i)))] [])) := c6.trans (st7 _ (Steps.refl _))
      have c9 : Steps p.tables e below (s₁.setTop (entryFrame m #[.ref b, .int (Int32.ofNat o), .ref d, .int (Int32.ofNat q), .int (Int32.ofNat len)] 7)) (T7.setTop (mkF m 3 #[.val (.ref b), .val (.int (Int32.ofNat (o + i) + 1)), .val (.ref d), .val (.int (Int32.ofNat (q + i) + 1)), .val (.int (Int32.ofNat len)), .val (.int (Int32.ofNat i + 1)), .val (.int (cv A (o + i)))] [])) := c8.trans (by
        refine iincV X7.here hexec rfl 1 (hb hbytes d32) (by decide) rfl rfl ?_
        refine iincV X7.here hexec rfl 1 (hb hbytes d35) (by decide) rfl rfl ?_
        refine iincV X7.here hexec rfl 1 (hb hbytes d38) (by decide) rfl rfl ?_
        refine XS.goto X7.here hexec rfl (pc0 := 41) rfl (hb hbytes d41) (by decide) rfl ?_
        exact Steps.refl _)
      have c10 : Steps p.tables e below (s₁.setTop (entryFrame m #[.ref b, .int (Int32.ofNat o), .ref d, .int (Int32.ofNat q), .int (Int32.ofNat len)] 7)) (T7.setTop (mkF m 3 #[.val (.ref b), .val (.int (Int32.ofNat (o + (i + 1)))), .val (.ref d), .val (.int (Int32.ofNat (q + (i + 1)))), .val (.int (Int32.ofNat len)), .val (.int (Int32.ofNat (i + 1))), .val (.int (cv A (o + i)))] [])) := by
        have := c9
        rw [succ32, succ32, succ32] at this
        exact this
      exact ih (i + 1) (by omega) _ (Or.inr ⟨_, rfl, rfl⟩) T7 _ (by rw [copyLocs_step, ← List.append_assoc]; exact X7) (pl.trans p7) (fl.step (by omega) hlt (by simp)) c10
  obtain ⟨T9, B9, z9, X9, p9, f9, g9⟩ := loop len 0 (by omega) .unset (Or.inl rfl) s₁ B (by simpa [copyLocs] using X0) ⟨hB0.1, fun _ _ => rfl, rfl⟩ (Laid.zero _ _ _) c2
  have c11 : Steps p.tables e below (s₁.setTop (entryFrame m #[.ref b, .int (Int32.ofNat o), .ref d, .int (Int32.ofNat q), .int (Int32.ofNat len)] 7)) (T9.setTop (mkF m 46 #[.val (.ref b), .val (.int (Int32.ofNat (o + len))), .val (.ref d), .val (.int (Int32.ofNat (q + len))), .val (.int (Int32.ofNat len)), .val (.int (Int32.ofNat len)), z9] [.int (Int32.ofNat len)])) := g9.trans (by
    refine XS.iload X9.here hexec rfl (hb hbytes d3) rfl ?_
    refine XS.iload X9.here hexec rfl (hb hbytes d5) rfl ?_
    refine XS.icmpYes X9.here hexec rfl (pc0 := 7) rfl (hb hbytes d7) rfl (ii_ge_t (nlt32 (by omega) (Nat.le_refl _))) (by decide) rfl ?_
    refine XS.iload X9.here hexec rfl (hb hbytes d44) rfl ?_
    exact Steps.refl _)
  exact ⟨T9, some (.int (Int32.ofNat len)), _, _, _, X9, by simp, rfl, rfl, (fun h => by cases h), ⟨rfl, B9, p9.from hh0, f9⟩, fun fs hl => c11.trans (X9.ireturnOut hexec hret rfl (Or.inl rfl) (hb hbytes d46) hl)⟩
end Cmp5
namespace Cmp3
def yN : MethodName := ⟨"java/lang/StringUTF16", "compress", "([CII)[B"⟩
abbrev yB : ByteArray := jdk_52_method_16_code
theorem d0 : decode yB 0 = .ok (.iload_n 2, 1) := by decide +kernel
theorem d1 : decode yB 1 = .ok (.newarray .byte, 2) := by decide +kernel
theorem d3 : decode yB 3 = .ok (.astore_n 3, 1) := by decide +kernel
theorem d4 : decode yB 4 = .ok (.aload_n 0, 1) := by decide +kernel
theorem d5 : decode yB 5 = .ok (.iload_n 1, 1) := by decide +kernel
theorem d6 : decode yB 6 = .ok (.aload_n 3, 1) := by decide +kernel
theorem d7 : decode yB 7 = .ok (.iconst 0, 1) := by decide +kernel
theorem d8 : decode yB 8 = .ok (.iload_n 2, 1) := by decide +kernel
theorem d9 : decode yB 9 = .ok (.invokestatic 115, 3) := by decide +kernel
theorem d12 : decode yB 12 = .ok (.istore 4, 2) := by decide +kernel
theorem d14 : decode yB 14 = .ok (.iload 4, 2) := by decide +kernel
theorem d16 : decode yB 16 = .ok (.iload_n 2, 1) := by decide +kernel
theorem d17 : decode yB 17 = .ok (.if_icmp (.eq) 40, 3) := by decide +kernel
theorem d57 : decode yB 57 = .ok (.aload_n 3, 1) := by decide +kernel
theorem d58 : decode yB 58 = .ok (.areturn, 1) := by decide +kernel
def site : List Cond := [.arrayClass .byte, Cmp5.tab] ++ staticW U16 115 Cmp5.yN
def tab : Cond := tabOf yN yB 6 (some (.array .byte)) site
def P (b : Addr) (A : Cell) (o len : Nat) (args : Array Value) (s : State) : Prop := args = #[.ref b, .int (Int32.ofNat o), .int (Int32.ofNat len)] ∧ Ch b A s ∧ o + len ≤ A.slots.size ∧ len ≤ 536870912 ∧ ∀ i, i < len → ¬ 255 < cv A (o + i)
def E (b : Addr) (A : Cell) (o len : Nat) (r : Option Value) (s u : State) : Prop := NewArr .byte "[B" len (fun j => .int (lo8 (cv A (o + j)))) r s u ∧ u.heap.size = s.heap.size + 1
/-- no char of the range above 255: a new byte[] of their low bytes -/
theorem law (l : Launch) (b : Addr) (A : Cell) (o len : Nat) : Law l yN 3 3 1 18 yB 6 (some (.array .byte)) site (P b A o len) (E b A o len) [] 1 len := by
  refine Law.of_walk (plainFor_of_name (by decide +kernel)) (by decide +kernel) (by decide +kernel) (by decide) (fun _ _ h => by rw [h.1]; rfl) (fun _ U U' hal hh h => ⟨h.1, h.2.1.mv hal hh, h.2.2⟩) (fun r U U' V V' h1 hal h2 h => ⟨NewArr.mv r U U' V V' h1 hal h2 h.1, by rw [h1, h2]; exact h.2⟩) ?_
  intro p e s m args below meth c s₁ X0 hexec hbytes hml hret hlk hnm hown hh0 W hP
  obtain ⟨rfl, hA, l1, l2, hp⟩ := hP
  have a31 := hA.1.2.2.2
  have c1 : Steps p.tables e below (s₁.setTop (entryFrame m #[.ref b, .int (Int32.ofNat o), .int (Int32.ofNat len)] 6)) (s₁.setTop (mkF m 0 #[.val (.ref b), .val (.int (Int32.ofNat o)), .val (.int (Int32.ofNat len)), .unset, .unset, .unset] [])) := entry rfl
  have c2 : Steps p.tables e below (s₁.setTop (entryFrame m #[.ref b, .int (Int32.ofNat o), .int (Int32.ofNat len)] 6)) (s₁.setTop (mkF m 1 #[.val (.ref b), .val (.int (Int32.ofNat o)), .val (.int (Int32.ofNat len)), .unset, .unset, .unset] [.int (Int32.ofNat len)])) := c1.trans (by
    refine XS.iloadN X0.here hexec rfl (hb hbytes d0) rfl ?_
    exact Steps.refl _)
  obtain ⟨T3, B3, X3, ba3, bs3, bv3, bh3, bf3, st3⟩ := X0.anew hexec (atype := .byte) (wk W (.arrayClass .byte)) rfl (by show len * 1 ≤ _; omega) (by omega) (g := (mkF m 1 #[.val (.ref b), .val (.int (Int32.ofNat o)), .val (.int (Int32.ofNat len)), .unset, .unset, .unset] [.int (Int32.ofNat len)])) rfl (hb hbytes d1) (rest := []) rfl (Nat.le_refl _) (by show 0 + len ≤ len; omega)
  rw [hh0] at ba3 st3
  have kp3 : XT.Kept s T3 := (XT.Kept.of_eq hh0).push bh3
  have hA3 := hA.keep X3.warmed.alike (kp3 _ _ hA.1.1)
  have hne : b ≠ s.heap.size := hA.1.ne
  have c4 : Steps p.tables e below (s₁.setTop (entryFrame m #[.ref b, .int (Int32.ofNat o), .int (Int32.ofNat len)] 6)) (T3.setTop (mkF m 3 #[.val (.ref b), .val (.int (Int32.ofNat o)), .val (.int (Int32.ofNat len)), .unset, .unset, .unset] [.ref s.heap.size])) := c2.trans (st3 _ (Steps.refl _))
  have c5 : Steps p.tables e below (s₁.setTop (entryFrame m #[.ref b, .int (Int32.ofNat o), .int (Int32.ofNat len)] 6)) (T3.setTop (mkF m 9 #[.val (.ref b), .val (.int (Int32.ofNat o)), .val (.int (Int32.ofNat len)), .val (.ref s.heap.size), .unset, .unset] [.int (Int32.ofNat len), .int 0, .ref s.heap.size, .int (Int32.ofNat o), .ref b])) := c4.trans (by
    refine XS.astoreN X3.here hexec rfl (hb hbytes d3) rfl rfl rfl ?_
    refine XS.aloadN X3.here hexec rfl (hb hbytes d4) rfl rfl ?_
    refine XS.iloadN X3.here hexec rfl (hb hbytes d5) rfl ?_
    refine XS.aloadN X3.here hexec rfl (hb hbytes d6) rfl rfl ?_
    refine iconstV X3.here hexec rfl 0 (hb hbytes d7) (by decide) ?_
    refine XS.iloadN X3.here hexec rfl (hb hbytes d8) rfl ?_
    exact Steps.refl _)
  obtain ⟨v6, T6, X6, E6, g6⟩ := X3.callS hexec (Cmp5.law l b A s.heap.size B3 o 0 len) hown (wks W (staticW U16 115 Cmp5.yN)) (wk W Cmp5.tab) (W := 0) (Nat.le_of_ble_eq_true rfl) (Nat.le_of_ble_eq_true rfl) (Nat.le_refl _) (by show 0 + len + 0 ≤ len; omega) (g := (mkF m 9 #[.val (.ref b), .val (.int (Int32.ofNat o)), .val (.int (Int32.ofNat len)), .val (.ref s.heap.size), .unset, .unset] [.int (Int32.ofNat len), .int (Int32.ofNat 0), .ref s.heap.size, .int (Int32.ofNat o), .ref b])) rfl (by rw [hml]; rfl) c5 (argsL := [.ref b, .int (Int32.ofNat o), .ref s.heap.size, .int (Int32.ofNat 0), .int (Int32.ofNat len)]) (rest := []) rfl rfl (by show 2 * 0 + 0 ≤ _; decide) (hb hbytes d9) (⟨rfl, hA3, ba3, hne, l1, by rw [bs3]; simp, hp⟩)
  obtain ⟨rfl, B6, p6, f6⟩ := E6
  have c7 : Steps p.tables e below (s₁.setTop (entryFrame m #[.ref b, .int (Int32.ofNat o), .int (Int32.ofNat len)] 6)) (T6.setTop (mkF m 12 #[.val (.ref b), .val (.int (Int32.ofNat o)), .val (.int (Int32.ofNat len)), .val (.ref s.heap.size), .unset, .unset] [.int (Int32.ofNat len)])) := g6
  have c8 : Steps p.tables e below (s₁.setTop (entryFrame m #[.ref b, .int (Int32.ofNat o), .int (Int32.ofNat len)] 6)) (T6.setTop (mkF m 58 #[.val (.ref b), .val (.int (Int32.ofNat o)), .val (.int (Int32.ofNat len)), .val (.ref s.heap.size), .val (.int (Int32.ofNat len)), .unset] [.ref s.heap.size])) := c7.trans (by
    refine XS.istore X6.here hexec rfl (hb hbytes d12) rfl rfl ?_
    refine XS.iload X6.here hexec rfl (hb hbytes d14) rfl ?_
    refine XS.iloadN X6.here hexec rfl (hb hbytes d16) rfl ?_
    refine XS.icmpYes X6.here hexec rfl (pc0 := 17) rfl (hb hbytes d17) rfl (ii_eq_t rfl) (by decide) rfl ?_
    refine XS.aloadN X6.here hexec rfl (hb hbytes d57) rfl rfl ?_
    exact Steps.refl _)
  have X8 := X6.wide (L' := []) (cells' := 1) (slots' := len) (fun x hx hlt => by
    simp only [List.nil_append, copyLocs, List.mem_map, List.mem_range] at hx
    obtain ⟨i, -, rfl⟩ := hx
    exact absurd hlt (Nat.lt_irrefl _)) (Nat.le_refl _) (by omega)
  exact ⟨T6, some (.ref s.heap.size), _, _, _, X8, rfl, rfl, rfl, (fun h => by cases h), ⟨⟨rfl, B6, ba3.like (X3.warmed.alike.symm.trans X6.warmed.alike) p6.1 f6.1 f6.2.1 f6.2.2.1, f6.2.1.trans bv3, by rw [X6.warmed.alike.findClass, f6.1]; exact bf3, by rw [f6.2.2.1, bs3]; simp, fun j hj => by rw [f6.2.2.2 j, if_pos (by omega)]; rfl, kp3.put p6 (Nat.le_refl _)⟩, by rw [p6.2.2, bh3, hh0]; simp⟩, fun fs hl => c8.trans (X8.areturnOut hexec rfl hret rfl (hb hbytes d58) hl)⟩
end Cmp3
namespace CodL
def yN : MethodName := ⟨"java/lang/StringUTF16", "coderFromArrayLen", "([BI)B"⟩
abbrev yB : ByteArray := jdk_52_method_15_code
theorem d0 : decode yB 0 = .ok (.iload_n 1, 1) := by decide +kernel
theorem d1 : decode yB 1 = .ok (.aload_n 0, 1) := by decide +kernel
theorem d2 : decode yB 2 = .ok (.arraylength, 1) := by decide +kernel
theorem d3 : decode yB 3 = .ok (.isub, 1) := by decide +kernel
theorem d4 : decode yB 4 = .ok (.bipush 31, 2) := by decide +kernel
theorem d6 : decode yB 6 = .ok (.iushr, 1) := by decide +kernel
theorem d7 : decode yB 7 = .ok (.i2b, 1) := by decide +kernel
theorem d8 : decode yB 8 = .ok (.ireturn, 1) := by decide +kernel
def site : List Cond := []
def tab : Cond := tabOf yN yB 2 (some .byte) site
def P (d : Addr) (B : Cell) (args : Array Value) (s : State) : Prop := args = #[.ref d, .int (Int32.ofNat B.slots.size)] ∧ Arr .byte d B s
def E (r : Option Value) (s u : State) : Prop := XT.PureE (some (.int 0)) r s u
/-- an array as long as the number of chars: LATIN1 -/
theorem law (l : Launch) (d : Addr) (B : Cell) : Law l yN 2 2 0 0 yB 2 (some .byte) site (P d B) E [] 0 0 := by
  refine Law.of_walk (plainFor_of_name (by decide +kernel)) (by decide +kernel) (by decide +kernel) (by decide) (fun _ _ h => by rw [h.1]; rfl) (fun _ U U' hal hh h => ⟨h.1, h.2.mv hal hh⟩) (fun r U U' V V' h1 hal h2 h => XT.PureE.mv r U U' V V' h1 hal h2 h) ?_
  intro p e s m args below meth c s₁ X0 hexec hbytes hml hret hlk hnm hown hh0 W hP
  obtain ⟨rfl, hB⟩ := hP
  have hB0 := hB.mv X0.warmed.alike hh0
  have c1 : Steps p.tables e below (s₁.setTop (entryFrame m #[.ref d, .int (Int32.ofNat B.slots.size)] 2)) (s₁.setTop (mkF m 0 #[.val (.ref d), .val (.int (Int32.ofNat B.slots.size))] [])) := entry rfl
  have c2 : Steps p.tables e below (s₁.setTop (entryFrame m #[.ref d, .int (Int32.ofNat B.slots.size)] 2)) (s₁.setTop (mkF m 2 #[.val (.ref d), .val (.int (Int32.ofNat B.slots.size))] [.ref d, .int (Int32.ofNat B.slots.size)])) := c1.trans (by
    refine XS.iloadN X0.here hexec rfl (hb hbytes d0) rfl ?_
    refine XS.aloadN X0.here hexec rfl (hb hbytes d1) rfl rfl ?_
    exact Steps.refl _)
  have c3 : Steps p.tables e below (s₁.setTop (entryFrame m #[.ref d, .int (Int32.ofNat B.slots.size)] 2)) (s₁.setTop (mkF m 8 #[.val (.ref d), .val (.int (Int32.ofNat B.slots.size))] [.int (lo8 (ushr (Int32.ofNat B.slots.size - Int32.ofNat B.slots.size) 31))])) := c2.trans (by
    refine X0.alen hexec hB0 rfl rfl (hb hbytes d2) ?_
    refine XS.isub X0.here hexec rfl (hb hbytes d3) rfl ?_
    refine bipushV X0.here hexec rfl 31 (hb hbytes d4) (by decide) ?_
    refine iushr X0.here hexec rfl (hb hbytes d6) rfl ?_
    refine i2b X0.here hexec rfl (hb hbytes d7) rfl ?_
    exact Steps.refl _)
  have e0 : lo8 (ushr (Int32.ofNat B.slots.size - Int32.ofNat B.slots.size) 31) = 0 := by rw [Int32.sub_self]; decide
  rw [e0] at c3
  exact ⟨s₁, some (.int 0), _, _, _, X0, rfl, rfl, rfl, (fun h => by cases h), ⟨rfl, hh0⟩, fun fs hl => c3.trans (X0.ireturnOut hexec hret rfl (Or.inr (Or.inr (Or.inl rfl))) (hb hbytes d8) hl)⟩
end CodL
/-- the String at a is Latin-1 over a new byte[] (the heap's one new cell): the low bytes of the len chars of A from o on; every cell but a is kept -/
def Got (a : Addr) (D : Cell) (fV fC : Field) (A : Cell) (o len : Nat) (r : Option Value) (s u : State) : Prop := r = none ∧ ∃ D' V : Cell, Blank "java/lang/String" a D' u ∧ Same D D' [fV.slot, fC.slot] ∧ D'.slots[fV.slot]? = some (.ref s.heap.size) ∧ D'.slots[fC.slot]? = some (.int 0) ∧ Arr .byte s.heap.size V u ∧ V.vm = .none ∧ u.vm.findClass "[B" = some V.cls ∧ V.slots.size = len ∧ (∀ j, j < len → V.slots[j]? = some (.int (lo8 (cv A (o + j))))) ∧ (∀ (y : Addr) (c : Cell), y ≠ a → s.heap[y]? = some c → u.heap[y]? = some c) ∧ u.heap.size = s.heap.size + 1
theorem Got.mv {a : Addr} {D A : Cell} {fV fC : Field} {o len : Nat} : ∀ r (U U' V V' : State), U'.heap = U.heap → V.vm.Alike V'.vm → V'.heap = V.heap → Got a D fV fC A o len r U V → Got a D fV fC A o len r U' V' :=
  fun r U U' V V' h1 hal h2 ⟨e0, D', X, a1, a2, a3, a4, a5, a6, a7, a8, a9, a10, a11⟩ => ⟨e0, D', X, a1.mv hal h2, a2, by rw [h1]; exact a3, a4, by rw [h1]; exact a5.mv hal h2, a6, by rw [hal.findClass]; exact a7, a8, a9, by rw [h1, h2]; exact a10, by rw [h1, h2]; exact a11⟩
namespace New4
def yN : MethodName := ⟨"java/lang/String", "<init>", "([CIILjava/lang/Void;)V"⟩
abbrev yB : ByteArray := jdk_42_method_149_code
theorem d0 : decode yB 0 = .ok (.aload_n 0, 1) := by decide +kernel
theorem d1 : decode yB 1 = .ok (.invokespecial 1, 3) := by decide +kernel
theorem d4 : decode yB 4 = .ok (.iload_n 3, 1) := by decide +kernel
theorem d5 : decode yB 5 = .ok (.ifCond (.ne) 22, 3) := by decide +kernel
theorem d27 : decode yB 27 = .ok (.getstatic 38, 3) := by decide +kernel
theorem d30 : decode yB 30 = .ok (.ifCond (.eq) 28, 3) := by decide +kernel
theorem d33 : decode yB 33 = .ok (.aload_n 1, 1) := by decide +kernel
theorem d34 : decode yB 34 = .ok (.iload_n 2, 1) := by decide +kernel
theorem d35 : decode yB 35 = .ok (.iload_n 3, 1) := by decide +kernel
theorem d36 : decode yB 36 = .ok (.invokestatic 177, 3) := by decide +kernel
theorem d39 : decode yB 39 = .ok (.astore 5, 2) := by decide +kernel
theorem d41 : decode yB 41 = .ok (.aload_n 0, 1) := by decide +kernel
theorem d42 : decode yB 42 = .ok (.aload 5, 2) := by decide +kernel
theorem d44 : decode yB 44 = .ok (.iload_n 3, 1) := by decide +kernel
theorem d45 : decode yB 45 = .ok (.invokestatic 47, 3) := by decide +kernel
theorem d48 : decode yB 48 = .ok (.putfield 15, 3) := by decide +kernel
theorem d51 : decode yB 51 = .ok (.aload_n 0, 1) := by decide +kernel
theorem d52 : decode yB 52 = .ok (.aload 5, 2) := by decide +kernel
theorem d54 : decode yB 54 = .ok (.putfield 9, 3) := by decide +kernel
theorem d57 : decode yB 57 = .ok (.return_, 1) := by decide +kernel
def site : List Cond := [.fieldLink "java/lang/String" 38 "java/lang/String" "COMPACT_STRINGS" "Z", Cmp3.tab, CodL.tab, .laysFinal "java/lang/String" "java/lang/String" "value" "[B", .fieldLink "java/lang/String" 9 "java/lang/String" "value" "[B", .laysFinal "java/lang/String" "java/lang/String" "coder" "B", .fieldLink "java/lang/String" 15 "java/lang/String" "coder" "B"] ++ objW "java/lang/String" 1 ++ staticW "java/lang/String" 177 Cmp3.yN ++ staticW "java/lang/String" 47 CodL.yN
def tab : Cond := tabOf yN yB 6 none site
def P (a : Addr) (D : Cell) (fV fC : Field) (b : Addr) (A : Cell) (z : Int32) (o len : Nat) (args : Array Value) (s : State) : Prop := args = #[.ref a, .ref b, .int (Int32.ofNat o), .int (Int32.ofNat len), .null] ∧ Blank "java/lang/String" a D s ∧ Found "java/lang/String" "value" "[B" fV s ∧ Found "java/lang/String" "coder" "B" fC s ∧ Ch b A s ∧ StaticIs s "java/lang/String" "COMPACT_STRINGS" "Z" (.int z) ∧ ¬ z = 0 ∧ 0 < len ∧ o + len ≤ A.slots.size ∧ len ≤ 536870912 ∧ ∀ i, i < len → ¬ 255 < cv A (o + i)
def E (a : Addr) (D : Cell) (fV fC : Field) (A : Cell) (o len : Nat) (r : Option Value) (s u : State) : Prop := Got a D fV fC A o len r s u
/-- len > 0, no char of the range above 255: a Latin-1 String of their low bytes -/
theorem law (l : Launch) (a : Addr) (D : Cell) (fV fC : Field) (b : Addr) (A : Cell) (z : Int32) (o len : Nat) : Law l yN 5 4 2 35 yB 6 none site (P a D fV fC b A z o len) (E a D fV fC A o len) [⟨a, fC.slot⟩, ⟨a, fV.slot⟩] 1 len := by
  refine Law.of_walk (plainFor_of_name (by decide +kernel)) (by decide +kernel) (by decide +kernel) (by decide) (fun _ _ h => by rw [h.1]; rfl) (fun _ U U' hal hh h => ⟨h.1, h.2.1.mv hal hh, h.2.2.1.al hal, h.2.2.2.1.al hal, h.2.2.2.2.1.mv hal hh, h.2.2.2.2.2.1.there hal hh, h.2.2.2.2.2.2⟩) (fun r U U' V V' h1 hal h2 h => Got.mv r U U' V V' h1 hal h2 h) ?_
  intro p e s m args below meth c s₁ X0 hexec hbytes hml hret hlk hnm hown hh0 W hP
  obtain ⟨rfl, hB, f1, f2, hA, s1, hz, l0, l1, l2, hp⟩ := hP
  have a31 := hA.1.2.2.2
  have c1 : Steps p.tables e below (s₁.setTop (entryFrame m #[.ref a, .ref b, .int (Int32.ofNat o), .int (Int32.ofNat len), .null] 6)) (s₁.setTop (mkF m 0 #[.val (.ref a), .val (.ref b), .val (.int (Int32.ofNat o)), .val (.int (Int32.ofNat len)), .val .null, .unset] [])) := entry rfl
  have c2 : Steps p.tables e below (s₁.setTop (entryFrame m #[.ref a, .ref b, .int (Int32.ofNat o), .int (Int32.ofNat len), .null] 6)) (s₁.setTop (mkF m 1 #[.val (.ref a), .val (.ref b), .val (.int (Int32.ofNat o)), .val (.int (Int32.ofNat len)), .val .null, .unset] [.ref a])) := c1.trans (by
    refine XS.aloadN X0.here hexec rfl (hb hbytes d0) rfl rfl ?_
    exact Steps.refl _)
  obtain ⟨T3, X3, q3, st3⟩ := X0.oinit hexec hown (wks W (objW "java/lang/String" 1)) (g := (mkF m 1 #[.val (.ref a), .val (.ref b), .val (.int (Int32.ofNat o)), .val (.int (Int32.ofNat len)), .val .null, .unset] [.ref a])) rfl (by rw [hml]; rfl) (rest := []) rfl (hb hbytes d1) (W := 0) (by show 2 * 0 + 0 ≤ _; decide) (Nat.le_of_ble_eq_true rfl) (Nat.le_of_ble_eq_true rfl)
  have hh3 := q3.trans hh0
  have c4 : Steps p.tables e below (s₁.setTop (entryFrame m #[.ref a, .ref b, .int (Int32.ofNat o), .int (Int32.ofNat len), .null] 6)) (T3.setTop (mkF m 27 #[.val (.ref a), .val (.ref b), .val (.int (Int32.ofNat o)), .val (.int (Int32.ofNat len)), .val .null, .unset] [])) := (c2.trans (st3 _ (Steps.refl _))).trans (by
    refine XS.iloadN X3.here hexec rfl (hb hbytes d4) rfl ?_
    refine XS.ifYes X3.here hexec rfl (pc0 := 5) rfl (hb hbytes d5) rfl (i0_ne_t (nz32 (by omega) l0)) (by decide) rfl ?_
    exact Steps.refl _)
  obtain ⟨T5, X5, q5, st5⟩ := X3.sget hexec hown (wk W (.fieldLink "java/lang/String" 38 "java/lang/String" "COMPACT_STRINGS" "Z")) s1 (fun _ _ h => by rw [hh3]; exact h) (g := (mkF m 27 #[.val (.ref a), .val (.ref b), .val (.int (Int32.ofNat o)), .val (.int (Int32.ofNat len)), .val .null, .unset] [])) rfl (hb hbytes d27)
  have hh5 := q5.trans hh3
  have c6 : Steps p.tables e below (s₁.setTop (entryFrame m #[.ref a, .ref b, .int (Int32.ofNat o), .int (Int32.ofNat len), .null] 6)) (T5.setTop (mkF m 30 #[.val (.ref a), .val (.ref b), .val (.int (Int32.ofNat o)), .val (.int (Int32.ofNat len)), .val .null, .unset] [.int z])) := c4.trans (st5 _ (Steps.refl _))
  have c7 : Steps p.tables e below (s₁.setTop (entryFrame m #[.ref a, .ref b, .int (Int32.ofNat o), .int (Int32.ofNat len), .null] 6)) (T5.setTop (mkF m 36 #[.val (.ref a), .val (.ref b), .val (.int (Int32.ofNat o)), .val (.int (Int32.ofNat len)), .val .null, .unset] [.int (Int32.ofNat len), .int (Int32.ofNat o), .ref b])) := c6.trans (by
    refine XS.ifNo X5.here hexec rfl (hb hbytes d30) rfl (i0_eq_f hz) ?_
    refine XS.aloadN X5.here hexec rfl (hb hbytes d33) rfl rfl ?_
    refine XS.iloadN X5.here hexec rfl (hb hbytes d34) rfl ?_
    refine XS.iloadN X5.here hexec rfl (hb hbytes d35) rfl ?_
    exact Steps.refl _)
  obtain ⟨v8, T8, X8, E8, g8⟩ := X5.callS hexec (Cmp3.law l b A o len) hown (wks W (staticW "java/lang/String" 177 Cmp3.yN)) (wk W Cmp3.tab) (W := 0) (Nat.le_of_ble_eq_true rfl) (Nat.le_of_ble_eq_true rfl) (Nat.le_refl _) (by show 0 + len ≤ len; omega) (g := (mkF m 36 #[.val (.ref a), .val (.ref b), .val (.int (Int32.ofNat o)), .val (.int (Int32.ofNat len)), .val .null, .unset] [.int (Int32.ofNat len), .int (Int32.ofNat o), .ref b])) rfl (by rw [hml]; rfl) c7 (argsL := [.ref b, .int (Int32.ofNat o), .int (Int32.ofNat len)]) (rest := []) rfl rfl (by show 2 * 0 + 0 ≤ _; decide) (hb hbytes d36) (⟨rfl, hA.mv X5.warmed.alike hh5, l1, l2, hp⟩)
  obtain ⟨e8, z8⟩ := E8
  obtain ⟨rfl, N, n1, n2, n3, n4, n5, n6⟩ := NewArr.mv _ T5 s _ _ hh5.symm (Vm.Alike.refl _) rfl e8
  rw [hh5] at z8
  have hB1 := hB.keep X8.warmed.alike (n6 _ _ hB.1)
  have hne : s.heap.size ≠ a := (Nat.ne_of_lt (Array.getElem?_eq_some_iff.mp hB.1).1).symm
  have c9 : Steps p.tables e below (s₁.setTop (entryFrame m #[.ref a, .ref b, .int (Int32.ofNat o), .int (Int32.ofNat len), .null] 6)) (T8.setTop (mkF m 39 #[.val (.ref a), .val (.ref b), .val (.int (Int32.ofNat o)), .val (.int (Int32.ofNat len)), .val .null, .unset] [.ref s.heap.size])) := g8
  have c10 : Steps p.tables e below (s₁.setTop (entryFrame m #[.ref a, .ref b, .int (Int32.ofNat o), .int (Int32.ofNat len), .null] 6)) (T8.setTop (mkF m 45 #[.val (.ref a), .val (.ref b), .val (.int (Int32.ofNat o)), .val (.int (Int32.ofNat len)), .val .null, .val (.ref s.heap.size)] [.int (Int32.ofNat N.slots.size), .ref s.heap.size, .ref a])) := by
    have hc : Steps p.tables e below (s₁.setTop (entryFrame m #[.ref a, .ref b, .int (Int32.ofNat o), .int (Int32.ofNat len), .null] 6)) (T8.setTop (mkF m 45 #[.val (.ref a), .val (.ref b), .val (.int (Int32.ofNat o)), .val (.int (Int32.ofNat len)), .val .null, .val (.ref s.heap.size)] [.int (Int32.ofNat len), .ref s.heap.size, .ref a])) := c9.trans (by
      refine XS.astore X8.here hexec rfl (hb hbytes d39) rfl rfl rfl ?_
      refine XS.aloadN X8.here hexec rfl (hb hbytes d41) rfl rfl ?_
      refine XS.aload X8.here hexec rfl (hb hbytes d42) rfl rfl ?_
      refine XS.iloadN X8.here hexec rfl (hb hbytes d44) rfl ?_
      exact Steps.refl _)
    rw [n4]; exact hc
  obtain ⟨v11, T11, X11, E11, g11⟩ := X8.callS hexec (CodL.law l s.heap.size N) hown (wks W (staticW "java/lang/String" 47 CodL.yN)) (wk W CodL.tab) (W := 1) (Nat.le_of_ble_eq_true rfl) (Nat.le_of_ble_eq_true rfl) (Nat.le_refl _) (by show 0 + len + 0 ≤ len; omega) (g := (mkF m 45 #[.val (.ref a), .val (.ref b), .val (.int (Int32.ofNat o)), .val (.int (Int32.ofNat len)), .val .null, .val (.ref s.heap.size)] [.int (Int32.ofNat N.slots.size), .ref s.heap.size, .ref a])) rfl (by rw [hml]; rfl) c10 (argsL := [.ref s.heap.size, .int (Int32.ofNat N.slots.size)]) (rest := [.ref a]) rfl rfl (by show 2 * 0 + (1 + 0) ≤ _; decide) (hb hbytes d45) (⟨rfl, n1⟩)
  obtain ⟨rfl, q11⟩ := E11
  have hB11 := hB1.mv (X8.warmed.alike.symm.trans X11.warmed.alike) q11
  have c12 : Steps p.tables e below (s₁.setTop (entryFrame m #[.ref a, .ref b, .int (Int32.ofNat o), .int (Int32.ofNat len), .null] 6)) (T11.setTop (mkF m 48 #[.val (.ref a), .val (.ref b), .val (.int (Int32.ofNat o)), .val (.int (Int32.ofNat len)), .val .null, .val (.ref s.heap.size)] [.int 0, .ref a])) := g11
  obtain ⟨T13, X13, p13, bl13, sl13, st13⟩ := X11.finit hexec hown (wk W (.fieldLink "java/lang/String" 15 "java/lang/String" "coder" "B")) (Or.inr ⟨_, (wk W (.laysFinal "java/lang/String" "java/lang/String" "coder" "B"))⟩) (Or.inl ⟨rfl, hnm⟩) f2 (Or.inl rfl) hB11 (t := .byte) (by decide +kernel) rfl (g := (mkF m 48 #[.val (.ref a), .val (.ref b), .val (.int (Int32.ofNat o)), .val (.int (Int32.ofNat len)), .val .null, .val (.ref s.heap.size)] [.int 0, .ref a])) rfl (rest := []) rfl (hb hbytes d48)
  have c14 : Steps p.tables e below (s₁.setTop (entryFrame m #[.ref a, .ref b, .int (Int32.ofNat o), .int (Int32.ofNat len), .null] 6)) (T13.setTop (mkF m 54 #[.val (.ref a), .val (.ref b), .val (.int (Int32.ofNat o)), .val (.int (Int32.ofNat len)), .val .null, .val (.ref s.heap.size)] [.ref s.heap.size, .ref a])) := (c12.trans (st13 _ (Steps.refl _))).trans (by
    refine XS.aloadN X13.here hexec rfl (hb hbytes d51) rfl rfl ?_
    refine XS.aload X13.here hexec rfl (hb hbytes d52) rfl rfl ?_
    exact Steps.refl _)
  obtain ⟨T15, X15, p15, bl15, sl15, st15⟩ := X13.finit hexec hown (wk W (.fieldLink "java/lang/String" 9 "java/lang/String" "value" "[B")) (Or.inr ⟨_, (wk W (.laysFinal "java/lang/String" "java/lang/String" "value" "[B"))⟩) (Or.inl ⟨rfl, hnm⟩) f1 (Or.inl rfl) bl13 (t := (.array .byte)) (by decide +kernel) rfl (g := (mkF m 54 #[.val (.ref a), .val (.ref b), .val (.int (Int32.ofNat o)), .val (.int (Int32.ofNat len)), .val .null, .val (.ref s.heap.size)] [.ref s.heap.size, .ref a])) rfl (rest := []) rfl (hb hbytes d54)
  have c16 : Steps p.tables e below (s₁.setTop (entryFrame m #[.ref a, .ref b, .int (Int32.ofNat o), .int (Int32.ofNat len), .null] 6)) (T15.setTop (mkF m 57 #[.val (.ref a), .val (.ref b), .val (.int (Int32.ofNat o)), .val (.int (Int32.ofNat len)), .val .null, .val (.ref s.heap.size)] [])) := c14.trans (st15 _ (Steps.refl _))
  have ap := apart (Or.inr ⟨_, (wk W (.laysFinal "java/lang/String" "java/lang/String" "value" "[B"))⟩) (Or.inr ⟨_, (wk W (.laysFinal "java/lang/String" "java/lang/String" "coder" "B"))⟩) f1 f2 (t₁ := .array .byte) (t₂ := .byte) (by decide +kernel) (by decide +kernel) (by decide)
  have al := X8.warmed.alike.symm.trans X15.warmed.alike
  have n7 : T11.heap[s.heap.size]? = some N := by rw [q11]; exact n1.1
  exact ⟨T15, none, _, _, _, X15, by simp, rfl, by omega, (fun _ => rfl), ⟨rfl, _, N, bl15, ((Same.refl D _).set _ (by simp)).set _ (by simp), sl15, (Cell.slots_setSlot_ne _ ap).trans sl13, n1.keep al (p15.other hne (p13.other hne n7)), n2, by rw [al.findClass]; exact n3, n4, n5, fun y c h1 h2 => p15.other h1 (p13.other h1 (by rw [q11]; exact n6 y c h2)), by rw [p15.2.2, p13.2.2, q11]; exact z8⟩, fun fs hl => c16.trans (X15.returnOut hexec hret (hb hbytes d57) hl)⟩
end New4
namespace New1
def yN : MethodName := ⟨"java/lang/String", "<init>", "([C)V"⟩
abbrev yB : ByteArray := jdk_42_method_3_code
theorem d0 : decode yB 0 = .ok (.aload_n 0, 1) := by decide +kernel
theorem d1 : decode yB 1 = .ok (.aload_n 1, 1) := by decide +kernel
theorem d2 : decode yB 2 = .ok (.iconst 0, 1) := by decide +kernel
theorem d3 : decode yB 3 = .ok (.aload_n 1, 1) := by decide +kernel
theorem d4 : decode yB 4 = .ok (.arraylength, 1) := by decide +kernel
theorem d5 : decode yB 5 = .ok (.aconst_null, 1) := by decide +kernel
theorem d6 : decode yB 6 = .ok (.invokespecial 27, 3) := by decide +kernel
theorem d9 : decode yB 9 = .ok (.return_, 1) := by decide +kernel
def site : List Cond := [New4.tab] ++ initW "java/lang/String" 27 New4.yN
def tab : Cond := tabOf yN yB 2 none site
def P (a : Addr) (D : Cell) (fV fC : Field) (b : Addr) (A : Cell) (z : Int32) (args : Array Value) (s : State) : Prop := args = #[.ref a, .ref b] ∧ Blank "java/lang/String" a D s ∧ Found "java/lang/String" "value" "[B" fV s ∧ Found "java/lang/String" "coder" "B" fC s ∧ Ch b A s ∧ StaticIs s "java/lang/String" "COMPACT_STRINGS" "Z" (.int z) ∧ ¬ z = 0 ∧ 0 < A.slots.size ∧ A.slots.size ≤ 536870912 ∧ ∀ i, i < A.slots.size → ¬ 255 < cv A i
def E (a : Addr) (D : Cell) (fV fC : Field) (A : Cell) (r : Option Value) (s u : State) : Prop := Got a D fV fC A 0 A.slots.size r s u
/-- new String(chars), not empty, no char above 255: a Latin-1 String of their low bytes -/
theorem law (l : Launch) (a : Addr) (D : Cell) (fV fC : Field) (b : Addr) (A : Cell) (z : Int32) : Law l yN 2 1 3 52 yB 2 none site (P a D fV fC b A z) (E a D fV fC A) [⟨a, fC.slot⟩, ⟨a, fV.slot⟩] 1 A.slots.size := by
  refine Law.of_walk (plainFor_of_name (by decide +kernel)) (by decide +kernel) (by decide +kernel) (by decide) (fun _ _ h => by rw [h.1]; rfl) (fun _ U U' hal hh h => ⟨h.1, h.2.1.mv hal hh, h.2.2.1.al hal, h.2.2.2.1.al hal, h.2.2.2.2.1.mv hal hh, h.2.2.2.2.2.1.there hal hh, h.2.2.2.2.2.2⟩) (fun r U U' V V' h1 hal h2 h => Got.mv r U U' V V' h1 hal h2 h) ?_
  intro p e s m args below meth c s₁ X0 hexec hbytes hml hret hlk hnm hown hh0 W hP
  obtain ⟨rfl, hB, f1, f2, hA, s1, hz, l0, l2, hp⟩ := hP
  have c1 : Steps p.tables e below (s₁.setTop (entryFrame m #[.ref a, .ref b] 2)) (s₁.setTop (mkF m 0 #[.val (.ref a), .val (.ref b)] [])) := entry rfl
  have c2 : Steps p.tables e below (s₁.setTop (entryFrame m #[.ref a, .ref b] 2)) (s₁.setTop (mkF m 6 #[.val (.ref a), .val (.ref b)] [.null, .int (Int32.ofNat A.slots.size), .int 0, .ref b, .ref a])) := c1.trans (by
    refine XS.aloadN X0.here hexec rfl (hb hbytes d0) rfl rfl ?_
    refine XS.aloadN X0.here hexec rfl (hb hbytes d1) rfl rfl ?_
    refine iconstV X0.here hexec rfl 0 (hb hbytes d2) (by decide) ?_
    refine XS.aloadN X0.here hexec rfl (hb hbytes d3) rfl rfl ?_
    refine X0.alen hexec (hA.1.mv X0.warmed.alike hh0) rfl rfl (hb hbytes d4) ?_
    refine XS.aconstNull X0.here hexec rfl (hb hbytes d5) ?_
    exact Steps.refl _)
  obtain ⟨v3, T3, X3, E3, g3⟩ := X0.callN hexec (New4.law l a D fV fC b A z 0 A.slots.size) rfl hown (wks W (initW "java/lang/String" 27 New4.yN)) (W New4.tab (by simp only [site, List.mem_cons, List.mem_append, true_or, or_true])) (W := 0) (Nat.le_of_ble_eq_true rfl) (Nat.le_of_ble_eq_true rfl) (Nat.le_refl _) (by show 0 + A.slots.size ≤ A.slots.size; omega) (g := (mkF m 6 #[.val (.ref a), .val (.ref b)] [.null, .int (Int32.ofNat A.slots.size), .int (Int32.ofNat 0), .ref b, .ref a])) rfl (by rw [hml]; rfl) c2 (argsL := [.ref b, .int (Int32.ofNat 0), .int (Int32.ofNat A.slots.size), .null]) (rest := []) rfl rfl (by show 2 * 0 + 0 ≤ _; decide) (hb hbytes d6) (⟨rfl, hB.mv X0.warmed.alike hh0, f1.al X0.warmed.alike, f2.al X0.warmed.alike, hA.mv X0.warmed.alike hh0, s1.there X0.warmed.alike hh0, hz, l0, by omega, l2, fun i hi => by rw [Nat.zero_add]; exact hp i hi⟩)
  have e0 := Got.mv _ s₁ s _ _ hh0.symm (Vm.Alike.refl _) rfl E3
  obtain rfl := e0.1
  have c4 : Steps p.tables e below (s₁.setTop (entryFrame m #[.ref a, .ref b] 2)) (T3.setTop (mkF m 9 #[.val (.ref a), .val (.ref b)] [])) := g3
  exact ⟨T3, none, _, _, _, X3, by simp, rfl, by omega, (fun _ => rfl), e0, fun fs hl => c4.trans (X3.returnOut hexec hret (hb hbytes d9) hl)⟩
theorem pays {l : Launch} {R : Room} {p : Program} {e : Env} {below : List Frame} {s : State} {sargs : Array Value} {len W : Nat} (a : Addr) (D : Cell) (fV fC : Field) (b : Addr) (A : Cell) (z : Int32) (htab : tab.before sargs s = true) (hfr : 4 ≤ R.frames) (hlo : W + 65 ≤ R.locals) :
    Back l R p e below s sargs yN len W (fun A₁ a₁ => A₁.cells + 1 ≤ R.cells ∧ A₁.slots + A.slots.size ≤ R.slots ∧ P a D fV fC b A z a₁ A₁.U) (fun A₁ _ v₁ B₁ => E a D fV fC A v₁ A₁.U B₁.U ∧ B₁.locs = A₁.locs ++ [⟨a, fC.slot⟩, ⟨a, fV.slot⟩] ∧ B₁.cells = A₁.cells + 1 ∧ B₁.slots = A₁.slots + A.slots.size) :=
  (law l a D fV fC b A z).pays htab hfr (by omega)
end New1
/-- the byte, read back as charAt reads it, is the char -/
theorem lo8_mask {x : Int32} (h0 : ¬ x < 0) (h1 : ¬ 255 < x) : lo8 x &&& 255 = x := by
  have t : ∀ k : Fin 256, lo8 (Int32.ofNat k.val) &&& 255 = Int32.ofNat k.val := by decide +kernel
  rw [Int32.lt_iff_toInt_lt] at h0 h1
  have e0 : (0 : Int32).toInt = 0 := rfl
  have e1 : (255 : Int32).toInt = 255 := rfl
  obtain ⟨k, hk⟩ : ∃ k : Nat, x.toInt = k := ⟨x.toInt.toNat, by omega⟩
  have hx : x = Int32.ofNat k := Int32.toInt_inj.mp (by rw [hk, Int32.toInt_ofNat_small (by omega)])
  rw [hx]
  exact t ⟨k, by omega⟩
end StrChars
namespace StrChars.Road
open Jvm Sem ClassFile Op Lib Jvm.Stand Jvm.Free Jvm.Free.XT
open Jvm.Lib.Cold (StaticIs)
abbrev ST : String := "java/lang/String"
/-- every table word that New1's law asks, flat -/
abbrev words : List Jvm.Cond := [.code New1.yN New1.yB 2 none, .initialized ST, .methodLink ST 27 New4.yN, .instanceMethod New4.yN,
  .code New4.yN New4.yB 6 none, .fieldLink ST 38 ST "COMPACT_STRINGS" "Z", .laysFinal ST ST "value" "[B", .fieldLink ST 9 ST "value" "[B", .laysFinal ST ST "coder" "B", .fieldLink ST 15 ST "coder" "B",
  .methodLink ST 1 Lib.objectInit, .instanceMethod Lib.objectInit, .code Lib.objectInit ⟨#[0xb1]⟩ 1 none, .methodLink ST 177 Cmp3.yN, .static Cmp3.yN, .methodLink ST 47 CodL.yN, .static CodL.yN,
  .code Cmp3.yN Cmp3.yB 6 (some (.array .byte)), .initialized U16, .arrayClass .byte, .methodLink U16 115 Cmp5.yN, .static Cmp5.yN, .code Cmp5.yN Cmp5.yB 7 (some .int), .code CodL.yN CodL.yB 2 (some .byte)]
theorem tab_of {a : Array Value} {s : State} (h : ∀ w ∈ words, w.before a s = true) : New1.tab.before a s = true := by
  have h5 : Cmp5.tab.before a s = true := unparts (wk h (.code Cmp5.yN Cmp5.yB 7 (some .int))) (wks h (.initialized Cmp5.yN.cls :: Cmp5.site))
  have hc : CodL.tab.before a s = true := unparts (wk h (.code CodL.yN CodL.yB 2 (some .byte))) (wks h (.initialized CodL.yN.cls :: CodL.site))
  have q5 : ∀ w ∈ Cmp5.tab :: words, w.before a s = true := fun w hw => (List.mem_cons.mp hw).elim (fun e => e ▸ h5) (h w)
  have h3 : Cmp3.tab.before a s = true := unparts (wk q5 (.code Cmp3.yN Cmp3.yB 6 (some (.array .byte)))) (wks q5 (.initialized Cmp3.yN.cls :: Cmp3.site))
  have q3 : ∀ w ∈ Cmp3.tab :: CodL.tab :: words, w.before a s = true := fun w hw => (List.mem_cons.mp hw).elim (fun e => e ▸ h3) fun hw => (List.mem_cons.mp hw).elim (fun e => e ▸ hc) (h w)
  have h4 : New4.tab.before a s = true := unparts (wk q3 (.code New4.yN New4.yB 6 none)) (wks q3 (.initialized New4.yN.cls :: New4.site))
  have q4 : ∀ w ∈ New4.tab :: words, w.before a s = true := fun w hw => (List.mem_cons.mp hw).elim (fun e => e ▸ h4) (h w)
  exact unparts (wk q4 (.code New1.yN New1.yB 2 none)) (wks q4 (.initialized New1.yN.cls :: New1.site))
/-- the words ride from the start Z to the walk's own state -/
theorem moved {Z s : State} {a0 args : Array Value} (hZ : Z.Warmed39 s.vm) (hw : ∀ d ∈ words, d.before a0 Z = true) : ∀ d ∈ words, d.before args s = true := fun d hd => by
  have q := hw d hd
  have t : ∀ d ∈ words, d = .arrayClass .byte ∨ (d.onTables && d.keepsFace) = true := by decide +kernel
  rcases t d hd with rfl | t
  · exact RoadKit.mvA hZ q
  · exact RoadKit.mv hZ q t
/-- WHAT COMES BACK, over the tables of the start Z: h the heap at the call, h' behind it -/
def Q (Z : State) (x : Addr) (A : Cell) (h : Heap) (v : Option Value) (h' : Heap) (L : List Loc) : Prop := v = none ∧ (∀ y ∈ L, y.base = x) ∧ RoadKit.Keep h h' [x] ∧ h'.size = h.size + 1 ∧ RoadKit.Exa Z h' x ST ∧ RoadKit.Fld Z h' x ST "value" "[B" (.ref h.size) ∧ RoadKit.Fld Z h' x ST "coder" "B" (.int 0) ∧
  (∃ V : Cell, RoadKit.Arr Z h' h.size V .byte ∧ V.vm = .none ∧ Z.vm.findClass "[B" = some V.cls ∧ V.slots.size = A.slots.size ∧ ∀ j, j < A.slots.size → V.slots[j]? = some (.int (lo8 (cv A j)))) ∧
  ∀ (O n d : String) (w : Value), RoadKit.Fld Z h x O n d w → RoadKit.slotOf Z O n d ≠ RoadKit.slotOf Z ST "value" "[B" → RoadKit.slotOf Z O n d ≠ RoadKit.slotOf Z ST "coder" "B" → RoadKit.Fld Z h' x O n d w
/-- **new String(chars) AT A CALL, IN THE ROAD'S FORM**: for specialBack behind newO: x the fresh String, b the char[] with the cell A -/
theorem back {p : Program} {l : Launch} {e : Env} {R : Room} {s : State} {args : Array Value} {below : List Frame} {len W : Nat} {Z : State} {a0 : Array Value} {h : Heap} (hZ : Z.Warmed39 s.vm) (hw : ∀ d ∈ words, d.before a0 Z = true) {kI : Nat} (wi : (Jvm.Cond.instantiable ST kI).before a0 Z = true)
    {x b : Addr} {A : Cell} {z : Int32} {v0 c0 : Value} (E : RoadKit.Exa Z h x ST) (V : RoadKit.Fld Z h x ST "value" "[B" v0) (C : RoadKit.Fld Z h x ST "coder" "B" c0) (K : RoadKit.Arr Z h b A .char) (hty : Typed .char A) (S : RoadKit.Sta Z h ST "COMPACT_STRINGS" "Z" (.int z)) (hz : ¬ z = 0)
    (l0 : 0 < A.slots.size) (l2 : A.slots.size ≤ 536870912) (hp : ∀ i, i < A.slots.size → ¬ 255 < cv A i) (hfr : 4 ≤ R.frames) (hlo : W + 65 ≤ R.locals) :
    Back l R p e below s args New1.yN len W (fun P a => a = #[.ref x, .ref b] ∧ P.U.heap = h ∧ P.cells + 1 ≤ R.cells ∧ P.slots + A.slots.size ≤ R.slots)
      (fun P _ v B => ∃ L, Q Z x A h v B.U.heap L ∧ B.locs = P.locs ++ L ∧ B.cells = P.cells + 1 ∧ B.slots = P.slots + A.slots.size) := by
  intro m meth c P g ig mk a X hg hsize hdg hW hn hp'
  obtain ⟨rfl, rfl, r1, r2⟩ := hp'
  have al : Z.vm.Alike P.U.vm := hZ.alike.trans X.warmed.alike
  obtain ⟨D, cfV, kV, iV, fV, hD, gV, stV, knV, obV, asV, slV⟩ := id V
  obtain ⟨D', cfC, kC, iC, fC, hD', gC, stC, -, -, asC, slC⟩ := id C
  cases hD.symm.trans hD'
  obtain ⟨D2, kD, e1, e2, e3, e4, e5⟩ := id E
  cases hD.symm.trans e1
  obtain ⟨c2, k2, i1, i2, i3, -⟩ := Cond.instantiable_spec wi
  cases e2.symm.trans i1
  cases e3.symm.trans i2
  obtain ⟨kU, u1, u2⟩ := al.2.2 _ _ e3
  have hB : Blank ST x D P.U := ⟨hD, ⟨knV, fun q hq => by rw [hq] at obV; cases obV⟩, by rw [al.findClass]; exact e2, kU, u1, by rw [u2]; exact i3, by rw [u2]; exact e5 i3⟩
  have F1 : Found ST "value" "[B" fV P.U := ⟨SBG.found_only al ⟨cfV, kV, iV, gV⟩, stV⟩
  have F2 : Found ST "coder" "B" fC P.U := ⟨SBG.found_only al ⟨cfC, kC, iC, gC⟩, stC⟩
  have hA : Ch b A P.U := ⟨⟨K.1, State.isArrayOf_alike al K.2.1, K.2.2, by omega⟩, hty⟩
  have hS : StaticIs P.U ST "COMPACT_STRINGS" "Z" (.int z) := by
    obtain ⟨cfS, iS, kS, fS, st, cS, t1, t2, t3, t4, t5, t6, t7⟩ := S
    exact StaticIs.there (s := { Z with heap := P.U.heap }) ⟨cfS, iS, kS, fS, st, cS, t1, t2, t3, t4, t5, (fun q => by rw [q] at t6; cases t6), t7⟩ al rfl
  obtain ⟨v, B, X', ⟨⟨hv, E', V', q1, q2, q3, q4, q5, q6, q7, q8, q9, q10, q11⟩, hl, hc, hs⟩, st⟩ := New1.pays x D fV fC b A z (tab_of (moved hZ hw)) hfr hlo m meth c P g ig mk _ X hg hsize hdg hW hn ⟨r1, r2, rfl, hB, F1, F2, hA, hS, hz, l0, l2, hp⟩
  have al' : Z.vm.Alike B.U.vm := hZ.alike.trans X'.warmed.alike
  have hsz : E'.slots.size = D.slots.size := by
    obtain ⟨-, -, -, kB, w1, w2, w3⟩ := q1
    obtain ⟨kB', y1, y2⟩ := al'.2.2 _ _ e3
    rw [q2.2.1] at w1
    cases w1.symm.trans y1
    rw [w3, e5 i3, y2]
  refine ⟨v, B, X', ⟨_, ⟨hv, ?_, ⟨by omega, fun y cy hy hn' => q10 y cy (by simpa using hn') hy, fun y cy hy => ?_⟩, q11, ⟨E', _, q1.1, by rw [q2.2.1]; exact e2, by rw [q2.2.1]; exact e3, by rw [q2.1]; exact obV, fun _ => by rw [hsz]; exact e5 i3⟩,
    ⟨E', cfV, kV, iV, fV, q1.1, gV, stV, by rw [q2.1]; exact knV, by rw [q2.1]; exact obV, by rw [q2.2.1]; exact asV, q3⟩, ⟨E', cfC, kC, iC, fC, q1.1, gC, stC, by rw [q2.1]; exact knV, by rw [q2.1]; exact obV, by rw [q2.2.1]; exact asC, q4⟩,
    ⟨V', ⟨q5.1, State.isArrayOf_alike al'.symm q5.2.1, q5.2.2.1⟩, q6, by rw [← al'.findClass]; exact q7, q8, fun j hj => by have := q9 j hj; rwa [Nat.zero_add] at this⟩, fun O n d w F n1 n2 => ?_⟩, hl, hc, hs⟩, st⟩
  · intro y hy
    simp only [List.mem_cons, List.not_mem_nil, or_false] at hy
    rcases hy with rfl | rfl <;> rfl
  · by_cases q : y = x
    · subst q
      cases hD.symm.trans hy
      exact ⟨E', q1.1, q2.2.1, q2.1, hsz⟩
    · exact ⟨cy, q10 y cy q hy, rfl, rfl, rfl⟩
  · obtain ⟨D3, cf, k, i, f, g1, g2, g3, g4, g5, g6, g7⟩ := F
    cases hD.symm.trans g1
    simp only [RoadKit.slotOf, g2, gV, gC, Option.map_some, Option.getD_some] at n1 n2
    exact ⟨E', cf, k, i, f, q1.1, g2, g3, by rw [q2.1]; exact g4, by rw [q2.1]; exact g5, by rw [q2.2.1]; exact g6, by rw [q2.2.2 f.slot (by simp [n1, n2])]; exact g7⟩
end StrChars.Road
namespace StrChars.Road
open Jvm Sem ClassFile Op Lib Jvm.Stand Jvm.Free Jvm.Free.XT
/-- WHAT COMES BACK, the byte[] as a list of values -/
def QA (Z : State) (x : Addr) (zn : Int32) (cs : List Int32) (h : Heap) (v : Option Value) (h' : Heap) (L : List Loc) : Prop := v = none ∧ (∀ y ∈ L, y.base = x) ∧ RoadKit.Keep h h' [x] ∧ h'.size = h.size + 1 ∧ RoadKit.Exa Z h' x ST ∧ RoadKit.Fld Z h' x ST "value" "[B" (.ref h.size) ∧ RoadKit.Fld Z h' x ST "coder" "B" (.int 0) ∧
  (∃ kb, Z.vm.findClass "[B" = some kb ∧ RoadKit.Arv Z h' h.size kb .byte zn (cs.map fun c => .int (lo8 c)) (.int 0)) ∧
  ∀ (O n d : String) (w : Value), RoadKit.Fld Z h x O n d w → RoadKit.slotOf Z O n d ≠ RoadKit.slotOf Z ST "value" "[B" → RoadKit.slotOf Z O n d ≠ RoadKit.slotOf Z ST "coder" "B" → RoadKit.Fld Z h' x O n d w
/-- **new String(chars) AT A CALL, THE ARRAYS AS LISTS**: the char[] at b holds cs, not empty, no char above 255 -/
theorem backArv {p : Program} {l : Launch} {e : Env} {R : Room} {s : State} {args : Array Value} {below : List Frame} {len W : Nat} {Z : State} {a0 : Array Value} {h : Heap} (hZ : Z.Warmed39 s.vm) (hw : ∀ d ∈ words, d.before a0 Z = true) {kI : Nat} (wi : (Jvm.Cond.instantiable ST kI).before a0 Z = true)
    {x b : Addr} {k : ClassId} {zn z : Int32} {cs : List Int32} {dv v0 c0 : Value} (E : RoadKit.Exa Z h x ST) (V : RoadKit.Fld Z h x ST "value" "[B" v0) (C : RoadKit.Fld Z h x ST "coder" "B" c0) (K : RoadKit.Arv Z h b k .char zn (cs.map Value.int) dv) (S : RoadKit.Sta Z h ST "COMPACT_STRINGS" "Z" (.int z)) (hz : ¬ z = 0)
    (hlen : zn.toNatClampNeg = cs.length) (h0 : 0 < cs.length) (hbig : cs.length ≤ 536870912) (hall : ∀ c ∈ cs, ¬ 255 < c) (hfr : 4 ≤ R.frames) (hlo : W + 65 ≤ R.locals) :
    Back l R p e below s args New1.yN len W (fun P a => a = #[.ref x, .ref b] ∧ P.U.heap = h ∧ P.cells + 1 ≤ R.cells ∧ P.slots + cs.length ≤ R.slots)
      (fun P _ v B => ∃ L, QA Z x zn cs h v B.U.heap L ∧ B.locs = P.locs ++ L ∧ B.cells = P.cells + 1 ∧ B.slots = P.slots + cs.length) := by
  obtain ⟨A, K1, K2, K3, K4, K5, K6⟩ := K
  have e : A.slots.size = cs.length := K3.trans hlen
  have hat : ∀ (i : Nat) (hi : i < cs.length), A.slots[i]? = some (.int cs[i]) := fun i hi => by rw [K5 i (by omega)]; simp [List.getD_eq_getElem?_getD, hi]
  have hcv : ∀ (i : Nat) (hi : i < cs.length), cv A i = cs[i] := fun i hi => by unfold cv; rw [hat i hi]
  have hty : Typed .char A := fun i v hv => by
    have hi : i < A.slots.size := (Array.getElem?_eq_some_iff.mp hv).1
    have q := K5 i hi
    rw [hv] at q
    rw [Option.some.inj q]
    exact K6 i hi
  refine Back.mono (back hZ hw wi E V C K1 hty S hz (by omega) (by omega) (fun i hi => by rw [hcv i (by omega)]; exact hall _ (List.getElem_mem _)) hfr hlo) (fun P a hp => ⟨hp.1, hp.2.1, hp.2.2.1, by rw [e]; exact hp.2.2.2⟩) (fun P a v B hp hq => ?_)
  obtain ⟨L, ⟨q1, q2, q3, q4, q5, q6, q7, ⟨V', v1, v2, v3, v4, v5⟩, q9⟩, hl, hc, hs⟩ := hq
  refine ⟨L, ⟨q1, q2, q3, q4, q5, q6, q7, ⟨V'.cls, v3, V', v1, rfl, by rw [v4, e, hlen], K4, fun i hi => ?_, fun i hi => ?_⟩, q9⟩, hl, hc, by rw [hs, e]⟩
  · have hi' : i < cs.length := by omega
    rw [v5 i (by omega), hcv i hi']; simp [List.getD_eq_getElem?_getD, hi']
  · have hi' : i < cs.length := by omega
    simp only [List.getD_eq_getElem?_getD, List.getElem?_map, List.getElem?_eq_getElem hi', Option.map_some, Option.getD_some]
    exact fits_lo8 _
end StrChars.Road
namespace StrChars.Road
open Jvm Sem ClassFile Op Lib Jvm.Stand Jvm.Free Jvm.Free.XT
/-- WHAT COMES BACK, in the writer's own shape -/
def QV (Z : State) (x : Addr) (N : Int32) (bs : List Int32) (h : Heap) (n0 : Nat) (v : Option Value) (h' : Heap) (L : List Loc) : Prop := v = none ∧ RoadKit.Fr n0 L ∧ RoadKit.Keep h h' [x] ∧ RoadKit.Exa Z h' x ST ∧ RoadKit.Fld Z h' x ST "coder" "B" (.int 0) ∧
  ∃ (t : Addr) (kb : ClassId), n0 ≤ t ∧ h.size ≤ t ∧ ¬ t = x ∧ RoadKit.Fld Z h' x ST "value" "[B" (.ref t) ∧ RoadKit.Arv Z h' t kb .byte N (bs.map Value.int) (.int 0)
/-- **new String(chars) AT A CALL, FOR THE WRITER**: a char[] of n known ints, each 0 to 255 -/
theorem backV {p : Program} {l : Launch} {e : Env} {R : Room} {s : State} {args : Array Value} {below : List Frame} {len W : Nat} {Z : State} {a0 : Array Value} {h : Heap} (hZ : Z.Warmed39 s.vm) (hw : ∀ d ∈ words, d.before a0 Z = true) {kI : Nat} (wi : (Jvm.Cond.instantiable ST kI).before a0 Z = true)
    {x b : Addr} {kC : ClassId} {cs bs : List Int32} {d v0 c0 : Value} {z N : Int32} {n n0 : Nat} (hx0 : n0 ≤ x) (hh0 : n0 ≤ h.size) (E : RoadKit.Exa Z h x ST) (V : RoadKit.Fld Z h x ST "value" "[B" v0) (C : RoadKit.Fld Z h x ST "coder" "B" c0) (K : RoadKit.Arv Z h b kC .char N (cs.map Value.int) d) (S : RoadKit.Sta Z h ST "COMPACT_STRINGS" "Z" (.int z)) (hz : ¬ z = 0)
    (hn : cs.length = n) (hN : N = Int32.ofNat n) (l0 : 0 < n) (l2 : n ≤ 4000) (hp : ∀ c ∈ cs, ¬ c < 0 ∧ ¬ (255 : Int32) < c) (hb : bs = cs.map (fun c => c.toInt8.toInt32)) (hfr : 4 ≤ R.frames) (hlo : W + 65 ≤ R.locals) :
    Back l R p e below s args (⟨"java/lang/String", "<init>", "([C)V"⟩ : MethodName) len W (fun P a => a = #[.ref x, .ref b] ∧ P.U.heap = h ∧ P.cells + 1 ≤ R.cells ∧ P.slots + n ≤ R.slots)
      (fun P _ v B => ∃ L, QV Z x N bs h n0 v B.U.heap L ∧ B.locs = P.locs ++ L ∧ B.cells = P.cells + 1 ∧ B.slots = P.slots + n) := by
  subst hn hN hb
  refine Back.mono (backArv hZ hw wi E V C K S hz (n32 (by omega)) l0 (by omega) (fun c hc => (hp c hc).2) hfr hlo) (fun P a hp => hp) (fun P a v B hp hq => ?_)
  obtain ⟨L, ⟨q1, q2, q3, q4, q5, q6, q7, ⟨kb, v1, v2⟩, q9⟩, hl, hc, hs⟩ := hq
  exact ⟨L, ⟨q1, fun y hy => by rw [q2 y hy]; exact hx0, q3, q5, q7, h.size, kb, hh0, Nat.le_refl _, Nat.ne_of_gt E.lt, q6, by rw [List.map_map]; exact v2⟩, hl, hc, hs⟩
end StrChars.Road
namespace StrChars
open Jvm Sem ClassFile Op Lib Jvm.Stand Jvm.Free.XT Jvm.Free.ALB Jvm.Free.JM Jvm.Free
open Jvm.Lib.Cold (StaticIs)
def hi8 (x : Int32) : Int32 := lo8 (x >>> ((8 : Int32) &&& 31))
/-- what StringUTF16.getChar makes of two bytes -/
def pairCh (u v : Int32) : Int32 := (((u &&& 255) <<< ((0 : Int32) &&& 31)) ||| ((v &&& 255) <<< ((8 : Int32) &&& 31))).toUInt32.toUInt16.toUInt32.toInt32
theorem lo8_and (x : Int32) : (lo8 x &&& 255).toBitVec.toNat = x.toBitVec.toNat % 256 := by
  have h : (lo8 x).toBitVec = (x.toBitVec.signExtend 8).signExtend 32 := by rw [lo8, Int8.toBitVec_toInt32, Int32.toBitVec_toInt8]
  rw [Int32.toBitVec_and, BitVec.toNat_and, h]
  have e : ((x.toBitVec.signExtend 8).signExtend 32).toNat % 256 = x.toBitVec.toNat % 256 := by
    rw [BitVec.toNat_signExtend]
    have hlt := x.toBitVec.isLt
    simp only [BitVec.toNat_setWidth, BitVec.toNat_signExtend]
    split <;> split <;> omega
  rw [← e]
  exact Nat.and_two_pow_sub_one_eq_mod _ 8
theorem pair_says {c : Int32} (h0 : ¬ c < 0) (h1 : ¬ 65535 < c) : pairCh (lo8 c) (hi8 c) = c := by
  rw [Int32.lt_iff_toInt_lt] at h0 h1
  have e0 : (0 : Int32).toInt = 0 := rfl
  have e1 : (65535 : Int32).toInt = 65535 := rfl
  have hc : c.toInt = c.toBitVec.toNat := by
    have := c.toBitVec.isLt
    have e : c.toInt = c.toBitVec.toInt := rfl
    rw [e] at h0 h1
    rw [e]
    rw [BitVec.toInt_eq_toNat_cond] at h0 h1 ⊢
    split at h0 <;> split <;> omega
  have hn : c.toBitVec.toNat < 65536 := by omega
  have a1 := lo8_and c
  have a2 : (hi8 c &&& 255).toBitVec.toNat = c.toBitVec.toNat / 256 := by
    rw [hi8, lo8_and]
    have e : ((8 : Int32) &&& 31) = 8 := by decide
    rw [e, Int32.toBitVec_shiftRight]
    have e2 : ((8 : Int32).toBitVec.smod 32) = 8#32 := by decide
    rw [e2, BitVec.sshiftRight_eq', BitVec.toNat_sshiftRight_of_msb_false (by rw [BitVec.msb_eq_false_iff_two_mul_lt]; omega)]
    show c.toBitVec.toNat >>> 8 % 256 = _
    rw [Nat.shiftRight_eq_div_pow]
    omega
  unfold pairCh
  apply Int32.toBitVec_inj.mp
  apply BitVec.eq_of_toNat_eq
  have f0 : ((0 : Int32) &&& 31) = 0 := by decide
  have f8 : ((8 : Int32) &&& 31) = 8 := by decide
  rw [f0, f8]
  have g : (((lo8 c &&& 255) <<< (0 : Int32)) ||| ((hi8 c &&& 255) <<< (8 : Int32))).toBitVec.toNat = c.toBitVec.toNat := by
    rw [Int32.toBitVec_or, Int32.toBitVec_shiftLeft, Int32.toBitVec_shiftLeft]
    have s0 : ((0 : Int32).toBitVec.smod 32) = 0#32 := by decide
    have s8 : ((8 : Int32).toBitVec.smod 32) = 8#32 := by decide
    rw [s0, s8, BitVec.toNat_or]
    simp only [BitVec.shiftLeft_eq', BitVec.toNat_shiftLeft, a1, a2]
    show (c.toBitVec.toNat % 256) <<< 0 % 2 ^ 32 ||| (c.toBitVec.toNat / 256) <<< 8 % 2 ^ 32 = _
    rw [Nat.shiftLeft_zero, Nat.mod_eq_of_lt (show c.toBitVec.toNat % 256 < 2 ^ 32 by omega), Nat.mod_eq_of_lt (show (c.toBitVec.toNat / 256) <<< 8 < 2 ^ 32 by rw [Nat.shiftLeft_eq]; omega), Nat.or_comm, ← Nat.shiftLeft_add_eq_or_of_lt (by omega), Nat.shiftLeft_eq]
    omega
  show BitVec.toNat (((((lo8 c &&& 255) <<< (0 : Int32)) ||| ((hi8 c &&& 255) <<< (8 : Int32))).toBitVec.setWidth 16).setWidth 32) = _
  rw [BitVec.toNat_setWidth, BitVec.toNat_setWidth, g]
  omega
end StrChars
namespace StrChars
open Jvm Sem ClassFile Op Lib Jvm.Stand Jvm.Free.XT Jvm.Free.ALB Jvm.Free.JM Jvm.Free
open Jvm.Lib.Cold (StaticIs)
/-- the array's cell V codes the n chars f 0 .. f (n - 1) by the coder cd, as the JDK does: coder 1 just where some char is above 255 -/
def Cod (cd : Int32) (n : Nat) (f : Nat → Int32) (V : Cell) : Prop := (cd = 0 ∧ V.slots.size = n ∧ ∀ j, j < n → V.slots[j]? = some (.int (lo8 (f j))) ∧ ¬ 255 < f j) ∨ (cd = 1 ∧ V.slots.size = 2 * n ∧ (∀ j, j < n → V.slots[2 * j]? = some (.int (lo8 (f j))) ∧ V.slots[2 * j + 1]? = some (.int (hi8 (f j)))) ∧ ∃ j, j < n ∧ 255 < f j)
/-- **x is a String of the n chars f 0 .. f (n - 1)**, Latin-1 or UTF-16; its array at t has the cell V -/
def Txt (x t : Addr) (V : Cell) (cd : Int32) (n : Nat) (f : Nat → Int32) (U : State) : Prop := Exact "java/lang/String" x U ∧ Has x "java/lang/String" "value" "[B" (.ref t) U ∧ Has x "java/lang/String" "coder" "B" (.int cd) U ∧ XT.Arr .byte t V U ∧ Cod cd n f V ∧ ∀ j, j < n → ¬ f j < 0 ∧ ¬ 65535 < f j
theorem Txt.mv {x t : Addr} {V : Cell} {cd : Int32} {n : Nat} {f : Nat → Int32} {U U' : State} (h : Txt x t V cd n f U) (hal : U.vm.Alike U'.vm) (hh : U'.heap = U.heap) : Txt x t V cd n f U' := ⟨h.1.mv hal hh, h.2.1.mv hal hh, h.2.2.1.mv hal hh, h.2.2.2.1.mv hal hh, h.2.2.2.2⟩
end StrChars
namespace StrChars.Road
open Jvm Sem ClassFile Op Lib Jvm.Stand Jvm.Free Jvm.Free.XT
open Jvm.Lib.Cold (StaticIs)
theorem consq {a : Array Value} {s : State} {c : Jvm.Cond} {L : List Jvm.Cond} (h0 : c.before a s = true) (h : ∀ w ∈ L, w.before a s = true) : ∀ w ∈ c :: L, w.before a s = true := fun w hw => (List.mem_cons.mp hw).elim (fun e => e ▸ h0) (h w)
/-- the bytes of the chars cs, low before high -/
def wideBytes : List Int32 → List Value
  | [] => []
  | c :: cs => .int (lo8 c) :: .int (hi8 c) :: wideBytes cs
theorem wide_lo (d : Value) : ∀ (cs : List Int32) (j : Nat), j < cs.length → (wideBytes cs).getD (2 * j) d = .int (lo8 (cs.getD j 0))
  | [], j, h => absurd h (Nat.not_lt_zero j)
  | c :: cs, 0, _ => rfl
  | c :: cs, j + 1, h => by
    have q := wide_lo d cs j (by simpa using h)
    rw [show 2 * (j + 1) = 2 * j + 1 + 1 from by omega]
    simpa [wideBytes] using q
theorem wide_hi (d : Value) : ∀ (cs : List Int32) (j : Nat), j < cs.length → (wideBytes cs).getD (2 * j + 1) d = .int (hi8 (cs.getD j 0))
  | [], j, h => absurd h (Nat.not_lt_zero j)
  | c :: cs, 0, _ => rfl
  | c :: cs, j + 1, h => by
    have q := wide_hi d cs j (by simpa using h)
    rw [show 2 * (j + 1) + 1 = 2 * j + 1 + 1 + 1 from by omega]
    simpa [wideBytes] using q
theorem low_at (d : Value) (cs : List Int32) (j : Nat) (h : j < cs.length) : (cs.map fun c => Value.int (lo8 c)).getD j d = .int (lo8 (cs.getD j 0)) := by
  simp [List.getD_eq_getElem?_getD, h]
/-- an array of N2 bytes vs codes the chars cs by the coder cd -/
def CodA (cs : List Int32) (cd N2 : Int32) (vs : List Value) : Prop := (cd = 0 ∧ N2 = Int32.ofNat cs.length ∧ vs = (cs.map fun c => Value.int (lo8 c)) ∧ ∀ c ∈ cs, ¬ 255 < c) ∨ (cd = 1 ∧ N2 = Int32.ofNat (2 * cs.length) ∧ vs = wideBytes cs ∧ ∃ c ∈ cs, 255 < c)
theorem CodA.cod {cs : List Int32} {cd N2 : Int32} {vs : List Value} {V : Cell} (h : CodA cs cd N2 vs) (hn : 2 * cs.length < 2 ^ 31) (hs : V.slots.size = N2.toNatClampNeg) (hv : RoadKit.Has V vs (.int 0)) : Cod cd cs.length (fun j => cs.getD j 0) V := by
  rcases h with ⟨rfl, rfl, rfl, h⟩ | ⟨rfl, rfl, rfl, c, hc, hw⟩
  · rw [n32 (by omega)] at hs
    exact Or.inl ⟨rfl, hs, fun j hj => ⟨by rw [hv j (by omega), low_at _ _ _ hj], by
      have e : cs.getD j 0 = cs[j] := by simp [List.getD_eq_getElem?_getD, hj]
      show ¬ 255 < cs.getD j 0
      rw [e]; exact h _ (List.getElem_mem _)⟩⟩
  · rw [n32 (by omega)] at hs
    obtain ⟨j, hj, rfl⟩ := List.getElem_of_mem hc
    exact Or.inr ⟨rfl, hs, fun j hj => ⟨by rw [hv _ (by omega), wide_lo _ _ _ hj], by rw [hv _ (by omega), wide_hi _ _ _ hj]⟩, j, hj, by
      have e : cs.getD j 0 = cs[j] := by simp [List.getD_eq_getElem?_getD, hj]
      show 255 < cs.getD j 0
      rw [e]; exact hw⟩
/-- an object of exactly java/lang/String, its two fields found: as the laws ask it -/
theorem strObj {Z U : State} {a0 : Array Value} {kI : Nat} (wi : (Jvm.Cond.instantiable ST kI).before a0 Z = true) (al : Z.vm.Alike U.vm) {x : Addr} {v0 c0 : Value} (E : RoadKit.Exa Z U.heap x ST) (V : RoadKit.Fld Z U.heap x ST "value" "[B" v0) (C : RoadKit.Fld Z U.heap x ST "coder" "B" c0) :
    ∃ (D : Cell) (fV fC : Field), Blank ST x D U ∧ Found ST "value" "[B" fV U ∧ Found ST "coder" "B" fC U ∧ D.slots[fV.slot]? = some v0 ∧ D.slots[fC.slot]? = some c0 ∧ RoadKit.slotOf Z ST "value" "[B" = fV.slot ∧ RoadKit.slotOf Z ST "coder" "B" = fC.slot := by
  obtain ⟨D, cfV, kV, iV, fV, hD, gV, stV, knV, obV, asV, slV⟩ := V
  obtain ⟨D', cfC, kC, iC, fC, hD', gC, stC, -, -, asC, slC⟩ := C
  cases hD.symm.trans hD'
  obtain ⟨D2, kD, e1, e2, e3, e4, e5⟩ := E
  cases hD.symm.trans e1
  obtain ⟨c2, k2, i1, i2, i3, -⟩ := Cond.instantiable_spec wi
  cases e2.symm.trans i1
  cases e3.symm.trans i2
  obtain ⟨kU, u1, u2⟩ := al.2.2 _ _ e3
  exact ⟨D, fV, fC, ⟨hD, ⟨knV, fun q hq => by rw [hq] at obV; cases obV⟩, by rw [al.findClass]; exact e2, kU, u1, by rw [u2]; exact i3, by rw [u2]; exact e5 i3⟩, ⟨SBG.found_only al ⟨cfV, kV, iV, gV⟩, stV⟩, ⟨SBG.found_only al ⟨cfC, kC, iC, gC⟩, stC⟩, slV, slC, by simp [RoadKit.slotOf, gV], by simp [RoadKit.slotOf, gC]⟩
theorem sta_is {Z U : State} (al : Z.vm.Alike U.vm) {C n d : String} {v : Value} (S : RoadKit.Sta Z U.heap C n d v) : StaticIs U C n d v := by
  obtain ⟨cfS, iS, kS, fS, st, cS, t1, t2, t3, t4, t5, t6, t7⟩ := S
  exact StaticIs.there (s := { Z with heap := U.heap }) ⟨cfS, iS, kS, fS, st, cS, t1, t2, t3, t4, t5, (fun q => by rw [q] at t6; cases t6), t7⟩ al rfl
end StrChars.Road
namespace StrChars
open Jvm Sem ClassFile Op Lib Jvm.Stand Jvm.Free.XT Jvm.Free.ALB Jvm.Free.JM Jvm.Free
open Jvm.Lib.Cold (StaticIs)
/-- what place i of a byte[]'s cell holds -/
def yv (A : Cell) (i : Nat) : Int32 := match A.slots[i]? with | some (.int x) => x | _ => 0
theorem yv_get {a : Addr} {A : Cell} {U : State} (h : XT.Arr .byte a A U) (ht : Typed .byte A) {i : Nat} (hi : i < A.slots.size) : A.slots[i]? = some (.int (yv A i)) := by
  have e := Array.getElem?_eq_getElem hi
  have f := ht i _ e
  unfold yv; rw [e]
  generalize A.slots[i] = v at f
  cases v <;> simp [fits] at f ⊢
/-- the two arrays are equal, place for place -/
def EqC (A B : Cell) : Prop := A.slots.size = B.slots.size ∧ ∀ i, i < A.slots.size → yv A i = yv B i
/-- a boolean that says whether p -/
def Says01 (q : Prop) (r : Option Value) (s u : State) : Prop := ∃ v : Int32, r = some (.int v) ∧ u.heap = s.heap ∧ ((v = 1 ∧ q) ∨ (v = 0 ∧ ¬ q))
theorem Says01.mv {q : Prop} : ∀ r (U U' V V' : State), U'.heap = U.heap → V.vm.Alike V'.vm → V'.heap = V.heap → Says01 q r U V → Says01 q r U' V' :=
  fun r U U' V V' h1 _ h2 ⟨v, a, b, c⟩ => ⟨v, a, by rw [h1, h2]; exact b, c⟩
namespace LEq
def yN : MethodName := ⟨"java/lang/StringLatin1", "equals", "([B[B)Z"⟩
abbrev yB : ByteArray := jdk_43_method_13_code
theorem d0 : decode yB 0 = .ok (.aload_n 0, 1) := by decide +kernel
theorem d1 : decode yB 1 = .ok (.arraylength, 1) := by decide +kernel
theorem d2 : decode yB 2 = .ok (.aload_n 1, 1) := by decide +kernel
theorem d3 : decode yB 3 = .ok (.arraylength, 1) := by decide +kernel
theorem d4 : decode yB 4 = .ok (.if_icmp (.ne) 30, 3) := by decide +kernel
theorem d7 : decode yB 7 = .ok (.iconst 0, 1) := by decide +kernel
theorem d8 : decode yB 8 = .ok (.istore_n 2, 1) := by decide +kernel
theorem d9 : decode yB 9 = .ok (.iload_n 2, 1) := by decide +kernel
theorem d10 : decode yB 10 = .ok (.aload_n 0, 1) := by decide +kernel
theorem d11 : decode yB 11 = .ok (.arraylength, 1) := by decide +kernel
theorem d12 : decode yB 12 = .ok (.if_icmp (.ge) 20, 3) := by decide +kernel
theorem d15 : decode yB 15 = .ok (.aload_n 0, 1) := by decide +kernel
theorem d16 : decode yB 16 = .ok (.iload_n 2, 1) := by decide +kernel
theorem d17 : decode yB 17 = .ok (.baload, 1) := by decide +kernel
theorem d18 : decode yB 18 = .ok (.aload_n 1, 1) := by decide +kernel
theorem d19 : decode yB 19 = .ok (.iload_n 2, 1) := by decide +kernel
theorem d20 : decode yB 20 = .ok (.baload, 1) := by decide +kernel
theorem d21 : decode yB 21 = .ok (.if_icmp (.eq) 5, 3) := by decide +kernel
theorem d24 : decode yB 24 = .ok (.iconst 0, 1) := by decide +kernel
theorem d25 : decode yB 25 = .ok (.ireturn, 1) := by decide +kernel
theorem d26 : decode yB 26 = .ok (.iinc 2 1, 3) := by decide +kernel
theorem d29 : decode yB 29 = .ok (.goto (-20), 3) := by decide +kernel
theorem d32 : decode yB 32 = .ok (.iconst 1, 1) := by decide +kernel
theorem d33 : decode yB 33 = .ok (.ireturn, 1) := by decide +kernel
theorem d34 : decode yB 34 = .ok (.iconst 0, 1) := by decide +kernel
theorem d35 : decode yB 35 = .ok (.ireturn, 1) := by decide +kernel
def site : List Cond := []
def tab : Cond := tabOf yN yB 3 (some .boolean) site
def P (a : Addr) (A : Cell) (b : Addr) (B : Cell) (args : Array Value) (s : State) : Prop := args = #[.ref a, .ref b] ∧ XT.Arr .byte a A s ∧ Typed .byte A ∧ XT.Arr .byte b B s ∧ Typed .byte B
/-- whether two byte[] are equal, place for place -/
theorem law (l : Launch) (a : Addr) (A : Cell) (b : Addr) (B : Cell) : Law l yN 2 2 0 0 yB 3 (some .boolean) site (P a A b B) (Says01 (EqC A B)) [] 0 0 := by
  refine Law.of_walk (plainFor_of_name (by decide +kernel)) (by decide +kernel) (by decide +kernel) (by decide) (fun _ _ h => by rw [h.1]; rfl) (fun _ U U' hal hh h => ⟨h.1, h.2.1.mv hal hh, h.2.2.1, h.2.2.2.1.mv hal hh, h.2.2.2.2⟩) (fun r U U' V V' h1 hal h2 h => Says01.mv r U U' V V' h1 hal h2 h) ?_
  intro p e s m args below meth c s₁ X0 hexec hbytes hml hret hlk hnm hown hh0 W hP
  obtain ⟨rfl, hA, tA, hB, tB⟩ := hP
  have a31 := hA.2.2.2
  have b31 := hB.2.2.2
  have hA0 := hA.mv X0.warmed.alike hh0
  have hB0 := hB.mv X0.warmed.alike hh0
  have c1 : Steps p.tables e below (s₁.setTop (entryFrame m #[.ref a, .ref b] 3)) (s₁.setTop (mkF m 0 #[.val (.ref a), .val (.ref b), .unset] [])) := entry rfl
  have c2 : Steps p.tables e below (s₁.setTop (entryFrame m #[.ref a, .ref b] 3)) (s₁.setTop (mkF m 4 #[.val (.ref a), .val (.ref b), .unset] [.int (Int32.ofNat B.slots.size), .int (Int32.ofNat A.slots.size)])) := c1.trans (by
    refine XS.aloadN X0.here hexec rfl (hb hbytes d0) rfl rfl ?_
    refine X0.alen hexec hA0 rfl rfl (hb hbytes d1) ?_
    refine XS.aloadN X0.here hexec rfl (hb hbytes d2) rfl rfl ?_
    refine X0.alen hexec hB0 rfl rfl (hb hbytes d3) ?_
    exact Steps.refl _)
  by_cases hs : A.slots.size = B.slots.size
  · have c3 : Steps p.tables e below (s₁.setTop (entryFrame m #[.ref a, .ref b] 3)) (s₁.setTop (mkF m 9 #[.val (.ref a), .val (.ref b), .val (.int 0)] [])) := c2.trans (by
      refine XS.icmpNo X0.here hexec rfl (hb hbytes d4) rfl (ii_ne_f (by rw [hs])) ?_
      refine iconstV X0.here hexec rfl 0 (hb hbytes d7) (by decide) ?_
      refine XS.istoreN X0.here hexec rfl (hb hbytes d8) rfl rfl ?_
      exact Steps.refl _)
    have loop : ∀ (r i : Nat), i + r = A.slots.size → (∀ j, j < i → yv A j = yv B j) → Steps p.tables e below (s₁.setTop (entryFrame m #[.ref a, .ref b] 3)) (s₁.setTop (mkF m 9 #[.val (.ref a), .val (.ref b), .val (.int (Int32.ofNat i))] [])) → ∃ (pc : Nat) (Ls : Array Slot) (v : Int32), (pc = 25 ∨ pc = 33) ∧ ((v = 1 ∧ EqC A B) ∨ (v = 0 ∧ ¬ EqC A B)) ∧ Steps p.tables e below (s₁.setTop (entryFrame m #[.ref a, .ref b] 3)) (s₁.setTop (mkF m pc Ls [.int v])) := by
      intro r
      induction r with
      | zero =>
        intro i hi he cl
        exact ⟨33, _, 1, Or.inr rfl, Or.inl ⟨rfl, hs, fun j hj => he j (by omega)⟩, cl.trans (by
          refine XS.iloadN X0.here hexec rfl (hb hbytes d9) rfl ?_
          refine XS.aloadN X0.here hexec rfl (hb hbytes d10) rfl rfl ?_
          refine X0.alen hexec hA0 rfl rfl (hb hbytes d11) ?_
          refine XS.icmpYes X0.here hexec rfl (pc0 := 12) rfl (hb hbytes d12) rfl (ii_ge_t (nlt32 (by omega) (by omega))) (by decide) rfl ?_
          refine iconstV X0.here hexec rfl 1 (hb hbytes d32) (by decide) ?_
          exact Steps.refl _)⟩
      | succ r ih =>
        intro i hi he cl
        have c4 : Steps p.tables e below (s₁.setTop (entryFrame m #[.ref a, .ref b] 3)) (s₁.setTop (mkF m 21 #[.val (.ref a), .val (.ref b), .val (.int (Int32.ofNat i))] [.int (yv B i), .int (yv A i)])) := cl.trans (by
          refine XS.iloadN X0.here hexec rfl (hb hbytes d9) rfl ?_
          refine XS.aloadN X0.here hexec rfl (hb hbytes d10) rfl rfl ?_
          refine X0.alen hexec hA0 rfl rfl (hb hbytes d11) ?_
          refine XS.icmpNo X0.here hexec rfl (hb hbytes d12) rfl (ii_ge_f (lt32 (by omega) (by omega))) ?_
          refine XS.aloadN X0.here hexec rfl (hb hbytes d15) rfl rfl ?_
          refine XS.iloadN X0.here hexec rfl (hb hbytes d16) rfl ?_
          refine X0.aget hexec hA0 rfl (yv_get hA tA (i := i) (by omega)) rfl rfl (hb hbytes d17) ?_
          refine XS.aloadN X0.here hexec rfl (hb hbytes d18) rfl rfl ?_
          refine XS.iloadN X0.here hexec rfl (hb hbytes d19) rfl ?_
          refine X0.aget hexec hB0 rfl (yv_get hB tB (i := i) (by omega)) rfl rfl (hb hbytes d20) ?_
          exact Steps.refl _)
        by_cases hv : yv A i = yv B i
        · have c5 : Steps p.tables e below (s₁.setTop (entryFrame m #[.ref a, .ref b] 3)) (s₁.setTop (mkF m 9 #[.val (.ref a), .val (.ref b), .val (.int (Int32.ofNat i + 1))] [])) := c4.trans (by
            refine XS.icmpYes X0.here hexec rfl (pc0 := 21) rfl (hb hbytes d21) rfl (ii_eq_t hv) (by decide) rfl ?_
            refine iincV X0.here hexec rfl 1 (hb hbytes d26) (by decide) rfl rfl ?_
            refine XS.goto X0.here hexec rfl (pc0 := 29) rfl (hb hbytes d29) (by decide) rfl ?_
            exact Steps.refl _)
          rw [succ32] at c5
          exact ih (i + 1) (by omega) (fun j hj => by
            by_cases e : j = i
            · rw [e]; exact hv
            · exact he j (by omega)) c5
        · exact ⟨25, _, 0, Or.inl rfl, Or.inr ⟨rfl, fun q => hv (q.2 i (by omega))⟩, c4.trans (by
            refine XS.icmpNo X0.here hexec rfl (hb hbytes d21) rfl (ii_eq_f hv) ?_
            refine iconstV X0.here hexec rfl 0 (hb hbytes d24) (by decide) ?_
            exact Steps.refl _)⟩
    obtain ⟨pc, Ls, v, hpc, hv, cz⟩ := loop A.slots.size 0 (by omega) (fun j hj => absurd hj (Nat.not_lt_zero j)) c3
    have nv : narrow .boolean (.int v) = .int v := by rcases hv with ⟨rfl, -⟩ | ⟨rfl, -⟩ <;> rfl
    rcases hpc with rfl | rfl
    · exact ⟨s₁, some (.int v), _, _, _, X0, rfl, rfl, rfl, (fun h => by cases h), ⟨v, rfl, hh0, hv⟩, fun fs hl => cz.trans (X0.ireturnOut hexec hret nv (Or.inr (Or.inl rfl)) (hb hbytes d25) hl)⟩
    · exact ⟨s₁, some (.int v), _, _, _, X0, rfl, rfl, rfl, (fun h => by cases h), ⟨v, rfl, hh0, hv⟩, fun fs hl => cz.trans (X0.ireturnOut hexec hret nv (Or.inr (Or.inl rfl)) (hb hbytes d33) hl)⟩
  · have c3 : Steps p.tables e below (s₁.setTop (entryFrame m #[.ref a, .ref b] 3)) (s₁.setTop (mkF m 35 #[.val (.ref a), .val (.ref b), .unset] [.int 0])) := c2.trans (by
      refine XS.icmpYes X0.here hexec rfl (pc0 := 4) rfl (hb hbytes d4) rfl (ii_ne_t (ne32 a31 b31 hs)) (by decide) rfl ?_
      refine iconstV X0.here hexec rfl 0 (hb hbytes d34) (by decide) ?_
      exact Steps.refl _)
    exact ⟨s₁, some (.int 0), _, _, _, X0, rfl, rfl, rfl, (fun h => by cases h), ⟨0, rfl, hh0, Or.inr ⟨rfl, fun q => hs q.1⟩⟩, fun fs hl => c3.trans (X0.ireturnOut hexec hret rfl (Or.inr (Or.inl rfl)) (hb hbytes d35) hl)⟩
end LEq
theorem Cod.ty {cd : Int32} {n : Nat} {f : Nat → Int32} {V : Cell} (h : Cod cd n f V) : Typed .byte V := fun i v hv => by
  have hi : i < V.slots.size := (Array.getElem?_eq_some_iff.mp hv).1
  rcases h with ⟨-, k1, k2⟩ | ⟨-, k1, k2, -⟩
  · rw [(k2 i (by omega)).1] at hv; cases hv; exact fits_lo8 _
  · rcases Nat.mod_two_eq_zero_or_one i with e | e
    · obtain ⟨j, rfl⟩ : ∃ j, i = 2 * j := ⟨i / 2, by omega⟩
      rw [(k2 j (by omega)).1] at hv; cases hv; exact fits_lo8 _
    · obtain ⟨j, rfl⟩ : ∃ j, i = 2 * j + 1 := ⟨i / 2, by omega⟩
      rw [(k2 j (by omega)).2] at hv; cases hv; exact fits_lo8 _
/-- the same text -/
def SameT (n : Nat) (f : Nat → Int32) (k : Nat) (g : Nat → Int32) : Prop := n = k ∧ ∀ j, j < n → f j = g j
theorem lo8_inj {x y : Int32} (h0 : ¬ x < 0) (h1 : ¬ 255 < x) (k0 : ¬ y < 0) (k1 : ¬ 255 < y) (h : lo8 x = lo8 y) : x = y := by
  rw [← lo8_mask h0 h1, ← lo8_mask k0 k1, h]
/-- arrays coded by one coder are equal just where the texts are -/
theorem Cod.eqv {cd : Int32} {n k : Nat} {f g : Nat → Int32} {V V' : Cell} (h : Cod cd n f V) (h' : Cod cd k g V') (hf : ∀ j, j < n → ¬ f j < 0 ∧ ¬ 65535 < f j) (hg : ∀ j, j < k → ¬ g j < 0 ∧ ¬ 65535 < g j) : EqC V V' ↔ SameT n f k g := by
  have yvv : ∀ {W : Cell} {i : Nat} {x : Int32}, W.slots[i]? = some (.int x) → yv W i = x := fun q => by unfold yv; rw [q]
  rcases h with ⟨rfl, k1, k2⟩ | ⟨rfl, k1, k2, -⟩
  · rcases h' with ⟨-, m1, m2⟩ | ⟨e, -⟩
    · constructor
      · rintro ⟨e1, e2⟩
        refine ⟨by omega, fun j hj => ?_⟩
        have q := e2 j (by omega)
        rw [yvv (k2 j hj).1, yvv (m2 j (by omega)).1] at q
        exact lo8_inj (hf j hj).1 (k2 j hj).2 (hg j (by omega)).1 (m2 j (by omega)).2 q
      · rintro ⟨rfl, e2⟩
        refine ⟨by omega, fun j hj => ?_⟩
        rw [yvv (k2 j (by omega)).1, yvv (m2 j (by omega)).1, e2 j (by omega)]
    · exact absurd e (by decide)
  · rcases h' with ⟨e, -⟩ | ⟨-, m1, m2, -⟩
    · exact absurd e (by decide)
    · constructor
      · rintro ⟨e1, e2⟩
        refine ⟨by omega, fun j hj => ?_⟩
        have q1 := e2 (2 * j) (by omega)
        have q2 := e2 (2 * j + 1) (by omega)
        rw [yvv (k2 j hj).1, yvv (m2 j (by omega)).1] at q1
        rw [yvv (k2 j hj).2, yvv (m2 j (by omega)).2] at q2
        rw [← pair_says (hf j hj).1 (hf j hj).2, ← pair_says (hg j (by omega)).1 (hg j (by omega)).2, q1, q2]
      · rintro ⟨rfl, e2⟩
        refine ⟨by omega, fun i hi => ?_⟩
        rcases Nat.mod_two_eq_zero_or_one i with e | e
        · obtain ⟨j, rfl⟩ : ∃ j, i = 2 * j := ⟨i / 2, by omega⟩
          rw [yvv (k2 j (by omega)).1, yvv (m2 j (by omega)).1, e2 j (by omega)]
        · obtain ⟨j, rfl⟩ : ∃ j, i = 2 * j + 1 := ⟨i / 2, by omega⟩
          rw [yvv (k2 j (by omega)).2, yvv (m2 j (by omega)).2, e2 j (by omega)]
/-- two codings differ: so do the texts -/
theorem Cod.dif {cd cd' : Int32} {n k : Nat} {f g : Nat → Int32} {V V' : Cell} (h : Cod cd n f V) (h' : Cod cd' k g V') (hne : ¬ cd = cd') : ¬ SameT n f k g := by
  rintro ⟨rfl, e⟩
  rcases h with ⟨rfl, -, k2⟩ | ⟨rfl, -, -, j, hj, hw⟩
  · rcases h' with ⟨rfl, -⟩ | ⟨-, -, -, j, hj, hw⟩
    · exact hne rfl
    · exact (k2 j hj).2 (by rw [e j hj]; exact hw)
  · rcases h' with ⟨-, -, m2⟩ | ⟨rfl, -⟩
    · exact (m2 j hj).2 (by rw [← e j hj]; exact hw)
    · exact hne rfl
/-- an object of exactly C is an instance of C -/
theorem cinst {p : Program} {l : Launch} {e : Env} {R : Room} {s : State} {m : MethodId} {args : Array Value} {below : List Frame} {meth : Method} {c : Code} {T : State} {locs : List Loc} {cells slots : Nat} (X : Stand p l e R s m args below meth c T locs cells slots) (hexec : p.tables.exec = Jvm.exec) {own C : String} {index : Nat} (hown : s.vm.findClass own = some m.cls) (hlink : (Cond.classLink own index C).before args s = true) {a : Addr} (hE : Exact C a T)
    {g : JFrame} (hg : g.method = m) {rest : List Value} (hstack : g.stack = .ref a :: rest) (hdg : decode c.code g.pc = .ok (.instanceof index, 3)) :
    ∃ T', Stand p l e R s m args below meth c T' locs cells slots ∧ T'.heap = T.heap ∧ ∀ target, Steps p.tables e below (T'.setTop { g with pc := g.pc + 3, stack := .int 1 :: rest }) target → Steps p.tables e below (T.setTop g) target := by
  obtain ⟨cB, h1, D, h2, h3, h4⟩ := hE
  have h1' : s.vm.findClass C = some cB := by rw [← X.warmed.alike.findClass]; exact h1
  obtain ⟨vm', X', st⟩ := X.instanceofYes hexec hown hlink h2 h4 h1' (by rw [h3]; exact Jvm.Free.SB.assignable_self _ _) hg hstack hdg
  exact ⟨_, X', rfl, st⟩
theorem cself {p : Program} {l : Launch} {e : Env} {R : Room} {s : State} {m : MethodId} {args : Array Value} {below : List Frame} {meth : Method} {c : Code} {T : State} {locs : List Loc} {cells slots : Nat} (X : Stand p l e R s m args below meth c T locs cells slots) (hexec : p.tables.exec = Jvm.exec) {own C : String} {index : Nat} (hown : s.vm.findClass own = some m.cls) (hlink : (Cond.classLink own index C).before args s = true) {a : Addr} (hE : Exact C a T)
    {g : JFrame} (hg : g.method = m) {rest : List Value} (hstack : g.stack = .ref a :: rest) (hdg : decode c.code g.pc = .ok (.checkcast index, 3)) :
    ∃ T', Stand p l e R s m args below meth c T' locs cells slots ∧ T'.heap = T.heap ∧ ∀ target, Steps p.tables e below (T'.setTop { g with pc := g.pc + 3, stack := .ref a :: rest }) target → Steps p.tables e below (T.setTop g) target := by
  obtain ⟨cB, h1, D, h2, h3, h4⟩ := hE
  have h1' : s.vm.findClass C = some cB := by rw [← X.warmed.alike.findClass]; exact h1
  obtain ⟨vm', X', st⟩ := X.checkcastYes hexec hown hlink h2 h4 h1' (by rw [h3]; exact Jvm.Free.SB.assignable_self _ _) hg hstack hdg
  exact ⟨_, X', rfl, fun t h => st t (by rw [← hstack] at h; exact h)⟩
namespace SEq
def yN : MethodName := ⟨"java/lang/String", "equals", "(Ljava/lang/Object;)Z"⟩
abbrev yB : ByteArray := jdk_42_method_66_code
theorem d0 : decode yB 0 = .ok (.aload_n 0, 1) := by decide +kernel
theorem d1 : decode yB 1 = .ok (.aload_n 1, 1) := by decide +kernel
theorem d2 : decode yB 2 = .ok (.if_acmp (.ne) 5, 3) := by decide +kernel
theorem d5 : decode yB 5 = .ok (.iconst 1, 1) := by decide +kernel
theorem d6 : decode yB 6 = .ok (.ireturn, 1) := by decide +kernel
theorem d7 : decode yB 7 = .ok (.aload_n 1, 1) := by decide +kernel
theorem d8 : decode yB 8 = .ok (.instanceof 10, 3) := by decide +kernel
theorem d11 : decode yB 11 = .ok (.ifCond (.eq) 43, 3) := by decide +kernel
theorem d14 : decode yB 14 = .ok (.aload_n 1, 1) := by decide +kernel
theorem d15 : decode yB 15 = .ok (.checkcast 10, 3) := by decide +kernel
theorem d18 : decode yB 18 = .ok (.astore_n 2, 1) := by decide +kernel
theorem d19 : decode yB 19 = .ok (.getstatic 38, 3) := by decide +kernel
theorem d22 : decode yB 22 = .ok (.ifCond (.eq) 14, 3) := by decide +kernel
theorem d25 : decode yB 25 = .ok (.aload_n 0, 1) := by decide +kernel
theorem d26 : decode yB 26 = .ok (.getfield 15, 3) := by decide +kernel
theorem d29 : decode yB 29 = .ok (.aload_n 2, 1) := by decide +kernel
theorem d30 : decode yB 30 = .ok (.getfield 15, 3) := by decide +kernel
theorem d33 : decode yB 33 = .ok (.if_icmp (.ne) 21, 3) := by decide +kernel
theorem d36 : decode yB 36 = .ok (.aload_n 0, 1) := by decide +kernel
theorem d37 : decode yB 37 = .ok (.getfield 9, 3) := by decide +kernel
theorem d40 : decode yB 40 = .ok (.aload_n 2, 1) := by decide +kernel
theorem d41 : decode yB 41 = .ok (.getfield 9, 3) := by decide +kernel
theorem d44 : decode yB 44 = .ok (.invokestatic 541, 3) := by decide +kernel
theorem d47 : decode yB 47 = .ok (.ifCond (.eq) 7, 3) := by decide +kernel
theorem d50 : decode yB 50 = .ok (.iconst 1, 1) := by decide +kernel
theorem d51 : decode yB 51 = .ok (.goto 4, 3) := by decide +kernel
theorem d54 : decode yB 54 = .ok (.iconst 0, 1) := by decide +kernel
theorem d55 : decode yB 55 = .ok (.ireturn, 1) := by decide +kernel
def site : List Cond := [.classLink "java/lang/String" 10 "java/lang/String", .fieldLink "java/lang/String" 38 "java/lang/String" "COMPACT_STRINGS" "Z", .fieldLink "java/lang/String" 15 "java/lang/String" "coder" "B", .fieldLink "java/lang/String" 9 "java/lang/String" "value" "[B", LEq.tab] ++ staticW "java/lang/String" 541 LEq.yN
def tab : Cond := tabOf yN yB 3 (some .boolean) site
def P (x t : Addr) (V : Cell) (cd : Int32) (n : Nat) (f : Nat → Int32) (y t' : Addr) (V' : Cell) (cd' : Int32) (k : Nat) (g : Nat → Int32) (z : Int32) (args : Array Value) (s : State) : Prop := args = #[.ref x, .ref y] ∧ Txt x t V cd n f s ∧ Txt y t' V' cd' k g s ∧ StaticIs s "java/lang/String" "COMPACT_STRINGS" "Z" (.int z) ∧ ¬ z = 0
/-- equals(Object) of two Strings: whether the texts are the same -/
theorem law (l : Launch) (x t : Addr) (V : Cell) (cd : Int32) (n : Nat) (f : Nat → Int32) (y t' : Addr) (V' : Cell) (cd' : Int32) (k : Nat) (g : Nat → Int32) (z : Int32) : Law l yN 2 1 1 14 yB 3 (some .boolean) site (P x t V cd n f y t' V' cd' k g z) (Says01 (SameT n f k g)) [] 0 0 := by
  refine Law.of_walk (plainFor_of_name (by decide +kernel)) (by decide +kernel) (by decide +kernel) (by decide) (fun _ _ h => by rw [h.1]; rfl) (fun _ U U' hal hh h => ⟨h.1, h.2.1.mv hal hh, h.2.2.1.mv hal hh, h.2.2.2.1.there hal hh, h.2.2.2.2⟩) (fun r U U' V V' h1 hal h2 h => Says01.mv r U U' V V' h1 hal h2 h) ?_
  intro p e s m args below meth c s₁ X0 hexec hbytes hml hret hlk hnm hown hh0 W hP
  obtain ⟨rfl, hx, hy, s1, hz⟩ := hP
  have c1 : Steps p.tables e below (s₁.setTop (entryFrame m #[.ref x, .ref y] 3)) (s₁.setTop (mkF m 2 #[.val (.ref x), .val (.ref y), .unset] [.ref y, .ref x])) := Steps.trans (entry rfl) (by
    show Steps p.tables e below (s₁.setTop (mkF m 0 #[.val (.ref x), .val (.ref y), .unset] [])) _
    refine XS.aloadN X0.here hexec rfl (hb hbytes d0) rfl rfl ?_
    refine XS.aloadN X0.here hexec rfl (hb hbytes d1) rfl rfl ?_
    exact Steps.refl _)
  by_cases hxy : x = y
  · have c2 : Steps p.tables e below (s₁.setTop (entryFrame m #[.ref x, .ref y] 3)) (s₁.setTop (mkF m 6 #[.val (.ref x), .val (.ref y), .unset] [.int 1])) := c1.trans (by
      refine acmpNo X0.here hexec rfl (hb hbytes d2) rfl rfl rfl (by simp [acmp, hxy]) ?_
      refine iconstV X0.here hexec rfl 1 (hb hbytes d5) (by decide) ?_
      exact Steps.refl _)
    subst hxy
    have ec : cd = cd' := by
      obtain ⟨D, fd, a1, a2, a3⟩ := hx.2.2.1
      obtain ⟨D', fd', b1, b2, b3⟩ := hy.2.2.1
      cases a1.symm.trans b1
      obtain ⟨q1, q2, q3, q4⟩ := a2.1
      obtain ⟨r1, r2, r3, r4⟩ := b2.1
      cases q4.symm.trans r4
      cases a3.symm.trans b3; rfl
    have et : t = t' := by
      obtain ⟨D, fd, a1, a2, a3⟩ := hx.2.1
      obtain ⟨D', fd', b1, b2, b3⟩ := hy.2.1
      cases a1.symm.trans b1
      obtain ⟨q1, q2, q3, q4⟩ := a2.1
      obtain ⟨r1, r2, r3, r4⟩ := b2.1
      cases q4.symm.trans r4
      cases a3.symm.trans b3; rfl
    subst ec et
    have ev : V = V' := by cases hx.2.2.2.1.1.symm.trans hy.2.2.2.1.1; rfl
    subst ev
    have hs : SameT n f k g := (Cod.eqv hx.2.2.2.2.1 hy.2.2.2.2.1 hx.2.2.2.2.2 hy.2.2.2.2.2).mp ⟨rfl, fun _ _ => rfl⟩
    exact ⟨s₁, some (.int 1), _, _, _, X0, rfl, rfl, rfl, (fun h => by cases h), ⟨1, rfl, hh0, Or.inl ⟨rfl, hs⟩⟩, fun fs hl => c2.trans (X0.ireturnOut hexec hret rfl (Or.inr (Or.inl rfl)) (hb hbytes d6) hl)⟩
  · have c2 : Steps p.tables e below (s₁.setTop (entryFrame m #[.ref x, .ref y] 3)) (s₁.setTop (mkF m 8 #[.val (.ref x), .val (.ref y), .unset] [.ref y])) := c1.trans (by
      refine acmpYes X0.here hexec rfl (pc0 := 2) rfl (hb hbytes d2) rfl rfl rfl (by simp [acmp, hxy]) (by decide) rfl ?_
      refine XS.aloadN X0.here hexec rfl (hb hbytes d7) rfl rfl ?_
      exact Steps.refl _)
    obtain ⟨T3, X3, q3, st3⟩ := cinst X0 hexec hown (wk W (.classLink "java/lang/String" 10 "java/lang/String")) (hy.mv X0.warmed.alike hh0).1 (g := (mkF m 8 #[.val (.ref x), .val (.ref y), .unset] [.ref y])) rfl (rest := []) rfl (hb hbytes d8)
    have hh3 := q3.trans hh0
    have c4 : Steps p.tables e below (s₁.setTop (entryFrame m #[.ref x, .ref y] 3)) (T3.setTop (mkF m 15 #[.val (.ref x), .val (.ref y), .unset] [.ref y])) := (c2.trans (st3 _ (Steps.refl _))).trans (by
      refine XS.ifNo X3.here hexec rfl (hb hbytes d11) rfl (i0_eq_f (by decide)) ?_
      refine XS.aloadN X3.here hexec rfl (hb hbytes d14) rfl rfl ?_
      exact Steps.refl _)
    obtain ⟨T5, X5, q5, st5⟩ := cself X3 hexec hown (wk W (.classLink "java/lang/String" 10 "java/lang/String")) (hy.mv X3.warmed.alike hh3).1 (g := (mkF m 15 #[.val (.ref x), .val (.ref y), .unset] [.ref y])) rfl (rest := []) rfl (hb hbytes d15)
    have hh5 := q5.trans hh3
    have c6 : Steps p.tables e below (s₁.setTop (entryFrame m #[.ref x, .ref y] 3)) (T5.setTop (mkF m 19 #[.val (.ref x), .val (.ref y), .val (.ref y)] [])) := (c4.trans (st5 _ (Steps.refl _))).trans (by
      refine XS.astoreN X5.here hexec rfl (hb hbytes d18) rfl rfl rfl ?_
      exact Steps.refl _)
    obtain ⟨T7, X7, q7, st7⟩ := X5.sget hexec hown (wk W (.fieldLink "java/lang/String" 38 "java/lang/String" "COMPACT_STRINGS" "Z")) s1 (fun _ _ h => by rw [hh5]; exact h) (g := (mkF m 19 #[.val (.ref x), .val (.ref y), .val (.ref y)] [])) rfl (hb hbytes d19)
    have hh7 := q7.trans hh5
    have c8 : Steps p.tables e below (s₁.setTop (entryFrame m #[.ref x, .ref y] 3)) (T7.setTop (mkF m 26 #[.val (.ref x), .val (.ref y), .val (.ref y)] [.ref x])) := (c6.trans (st7 _ (Steps.refl _))).trans (by
      refine XS.ifNo X7.here hexec rfl (hb hbytes d22) rfl (i0_eq_f hz) ?_
      refine XS.aloadN X7.here hexec rfl (hb hbytes d25) rfl rfl ?_
      exact Steps.refl _)
    obtain ⟨T9, X9, q9, st9⟩ := X7.hget hexec hown (wk W (.fieldLink "java/lang/String" 15 "java/lang/String" "coder" "B")) (hx.mv X7.warmed.alike hh7).2.2.1 (g := (mkF m 26 #[.val (.ref x), .val (.ref y), .val (.ref y)] [.ref x])) rfl (rest := []) rfl (hb hbytes d26)
    have hh9 := q9.trans hh7
    have c10 : Steps p.tables e below (s₁.setTop (entryFrame m #[.ref x, .ref y] 3)) (T9.setTop (mkF m 30 #[.val (.ref x), .val (.ref y), .val (.ref y)] [.ref y, .int cd])) := (c8.trans (st9 _ (Steps.refl _))).trans (by
      refine XS.aloadN X9.here hexec rfl (hb hbytes d29) rfl rfl ?_
      exact Steps.refl _)
    obtain ⟨T11, X11, q11, st11⟩ := X9.hget hexec hown (wk W (.fieldLink "java/lang/String" 15 "java/lang/String" "coder" "B")) (hy.mv X9.warmed.alike hh9).2.2.1 (g := (mkF m 30 #[.val (.ref x), .val (.ref y), .val (.ref y)] [.ref y, .int cd])) rfl (rest := [.int cd]) rfl (hb hbytes d30)
    have hh11 := q11.trans hh9
    have c12 : Steps p.tables e below (s₁.setTop (entryFrame m #[.ref x, .ref y] 3)) (T11.setTop (mkF m 33 #[.val (.ref x), .val (.ref y), .val (.ref y)] [.int cd', .int cd])) := c10.trans (st11 _ (Steps.refl _))
    by_cases hcd : cd = cd'
    · subst hcd
      have c13 : Steps p.tables e below (s₁.setTop (entryFrame m #[.ref x, .ref y] 3)) (T11.setTop (mkF m 37 #[.val (.ref x), .val (.ref y), .val (.ref y)] [.ref x])) := c12.trans (by
        refine XS.icmpNo X11.here hexec rfl (hb hbytes d33) rfl (ii_ne_f rfl) ?_
        refine XS.aloadN X11.here hexec rfl (hb hbytes d36) rfl rfl ?_
        exact Steps.refl _)
      obtain ⟨T14, X14, q14, st14⟩ := X11.hget hexec hown (wk W (.fieldLink "java/lang/String" 9 "java/lang/String" "value" "[B")) (hx.mv X11.warmed.alike hh11).2.1 (g := (mkF m 37 #[.val (.ref x), .val (.ref y), .val (.ref y)] [.ref x])) rfl (rest := []) rfl (hb hbytes d37)
      have hh14 := q14.trans hh11
      have c15 : Steps p.tables e below (s₁.setTop (entryFrame m #[.ref x, .ref y] 3)) (T14.setTop (mkF m 41 #[.val (.ref x), .val (.ref y), .val (.ref y)] [.ref y, .ref t])) := (c13.trans (st14 _ (Steps.refl _))).trans (by
        refine XS.aloadN X14.here hexec rfl (hb hbytes d40) rfl rfl ?_
        exact Steps.refl _)
      obtain ⟨T16, X16, q16, st16⟩ := X14.hget hexec hown (wk W (.fieldLink "java/lang/String" 9 "java/lang/String" "value" "[B")) (hy.mv X14.warmed.alike hh14).2.1 (g := (mkF m 41 #[.val (.ref x), .val (.ref y), .val (.ref y)] [.ref y, .ref t])) rfl (rest := [.ref t]) rfl (hb hbytes d41)
      have hh16 := q16.trans hh14
      have c17 : Steps p.tables e below (s₁.setTop (entryFrame m #[.ref x, .ref y] 3)) (T16.setTop (mkF m 44 #[.val (.ref x), .val (.ref y), .val (.ref y)] [.ref t', .ref t])) := c15.trans (st16 _ (Steps.refl _))
      obtain ⟨v18, T18, X18, E18, g18⟩ := X16.callS hexec (LEq.law l t V t' V') hown (wks W (staticW "java/lang/String" 541 LEq.yN)) (wk W LEq.tab) (W := 0) (Nat.le_of_ble_eq_true rfl) (Nat.le_of_ble_eq_true rfl) (Nat.le_refl _) (Nat.le_refl _) (g := (mkF m 44 #[.val (.ref x), .val (.ref y), .val (.ref y)] [.ref t', .ref t])) rfl (by rw [hml]; rfl) c17 (argsL := [.ref t, .ref t']) (rest := []) rfl rfl (by show 2 * 0 + 0 ≤ _; decide) (hb hbytes d44) (⟨rfl, hx.2.2.2.1.mv X16.warmed.alike hh16, hx.2.2.2.2.1.ty, hy.2.2.2.1.mv X16.warmed.alike hh16, hy.2.2.2.2.1.ty⟩)
      obtain ⟨v, rfl, q18, hv⟩ := E18
      have iff := Cod.eqv hx.2.2.2.2.1 hy.2.2.2.2.1 hx.2.2.2.2.2 hy.2.2.2.2.2
      rcases hv with ⟨rfl, he⟩ | ⟨rfl, he⟩
      · have c19 : Steps p.tables e below (s₁.setTop (entryFrame m #[.ref x, .ref y] 3)) (T18.setTop (mkF m 55 #[.val (.ref x), .val (.ref y), .val (.ref y)] [.int 1])) := Steps.trans g18 (by
          refine XS.ifNo X18.here hexec rfl (hb hbytes d47) rfl (i0_eq_f (by decide)) ?_
          refine iconstV X18.here hexec rfl 1 (hb hbytes d50) (by decide) ?_
          refine XS.goto X18.here hexec rfl (pc0 := 51) rfl (hb hbytes d51) (by decide) rfl ?_
          exact Steps.refl _)
        exact ⟨T18, some (.int 1), _, _, _, X18, rfl, rfl, rfl, (fun h => by cases h), ⟨1, rfl, q18.trans hh16, Or.inl ⟨rfl, iff.mp he⟩⟩, fun fs hl => c19.trans (X18.ireturnOut hexec hret rfl (Or.inr (Or.inl rfl)) (hb hbytes d55) hl)⟩
      · have c19 : Steps p.tables e below (s₁.setTop (entryFrame m #[.ref x, .ref y] 3)) (T18.setTop (mkF m 55 #[.val (.ref x), .val (.ref y), .val (.ref y)] [.int 0])) := Steps.trans g18 (by
          refine XS.ifYes X18.here hexec rfl (pc0 := 47) rfl (hb hbytes d47) rfl (i0_eq_t rfl) (by decide) rfl ?_
          refine iconstV X18.here hexec rfl 0 (hb hbytes d54) (by decide) ?_
          exact Steps.refl _)
        exact ⟨T18, some (.int 0), _, _, _, X18, rfl, rfl, rfl, (fun h => by cases h), ⟨0, rfl, q18.trans hh16, Or.inr ⟨rfl, fun q => he (iff.mpr q)⟩⟩, fun fs hl => c19.trans (X18.ireturnOut hexec hret rfl (Or.inr (Or.inl rfl)) (hb hbytes d55) hl)⟩
    · have c13 : Steps p.tables e below (s₁.setTop (entryFrame m #[.ref x, .ref y] 3)) (T11.setTop (mkF m 55 #[.val (.ref x), .val (.ref y), .val (.ref y)] [.int 0])) := c12.trans (by
        refine XS.icmpYes X11.here hexec rfl (pc0 := 33) rfl (hb hbytes d33) rfl (ii_ne_t hcd) (by decide) rfl ?_
        refine iconstV X11.here hexec rfl 0 (hb hbytes d54) (by decide) ?_
        exact Steps.refl _)
      exact ⟨T11, some (.int 0), _, _, _, X11, rfl, rfl, rfl, (fun h => by cases h), ⟨0, rfl, hh11, Or.inr ⟨rfl, Cod.dif hx.2.2.2.2.1 hy.2.2.2.2.1 hcd⟩⟩, fun fs hl => c13.trans (X11.ireturnOut hexec hret rfl (Or.inr (Or.inl rfl)) (hb hbytes d55) hl)⟩
theorem pays {l : Launch} {R : Room} {p : Program} {e : Env} {below : List Frame} {s : State} {sargs : Array Value} {len W : Nat} (x t : Addr) (V : Cell) (cd : Int32) (n : Nat) (f : Nat → Int32) (y t' : Addr) (V' : Cell) (cd' : Int32) (k : Nat) (g : Nat → Int32) (z : Int32) (htab : tab.before sargs s = true) (hfr : 2 ≤ R.frames) (hlo : W + 28 ≤ R.locals) :
    Back l R p e below s sargs yN len W (fun A₁ a₁ => A₁.cells + 0 ≤ R.cells ∧ A₁.slots + 0 ≤ R.slots ∧ P x t V cd n f y t' V' cd' k g z a₁ A₁.U) (fun A₁ _ v₁ B₁ => Says01 (SameT n f k g) v₁ A₁.U B₁.U ∧ B₁.locs = A₁.locs ++ [] ∧ B₁.cells = A₁.cells + 0 ∧ B₁.slots = A₁.slots + 0) :=
  (law l x t V cd n f y t' V' cd' k g z).pays htab hfr (by omega)
end SEq
end StrChars
namespace StrChars.Road
open Jvm Sem ClassFile Op Lib Jvm.Stand Jvm.Free Jvm.Free.XT
open Jvm.Lib.Cold (StaticIs)
/-- the words of String.equals(Object) -/
abbrev wordsEq : List Jvm.Cond := [.code SEq.yN SEq.yB 3 (some .boolean), .initialized ST, .classLink ST 10 ST, .fieldLink ST 38 ST "COMPACT_STRINGS" "Z", .fieldLink ST 15 ST "coder" "B", .fieldLink ST 9 ST "value" "[B", .methodLink ST 541 LEq.yN, .static LEq.yN, .code LEq.yN LEq.yB 3 (some .boolean), .initialized "java/lang/StringLatin1"]
theorem tabEq_of {a : Array Value} {s : State} (h : ∀ w ∈ wordsEq, w.before a s = true) : SEq.tab.before a s = true := by
  have hl : LEq.tab.before a s = true := unparts (wk h (.code LEq.yN LEq.yB 3 (some .boolean))) (wks h (.initialized LEq.yN.cls :: LEq.site))
  have q := consq hl h
  exact unparts (wk q (.code SEq.yN SEq.yB 3 (some .boolean))) (wks q (.initialized SEq.yN.cls :: SEq.site))
theorem movedEq {Z s : State} {a0 args : Array Value} (hZ : Z.Warmed39 s.vm) (hw : ∀ d ∈ wordsEq, d.before a0 Z = true) : ∀ d ∈ wordsEq, d.before args s = true := fun d hd => by
  have t : ∀ d ∈ wordsEq, (d.onTables && d.keepsFace) = true := by decide +kernel
  exact RoadKit.mv hZ (hw d hd) (t d hd)
/-- the road's facts of a String, as the laws ask it -/
theorem txt_of {Z U : State} {a0 : Array Value} {kI : Nat} (wi : (Jvm.Cond.instantiable ST kI).before a0 Z = true) (al : Z.vm.Alike U.vm) {x t : Addr} {kb : ClassId} {cs : List Int32} {cd N2 : Int32} {vs : List Value} (E : RoadKit.Exa Z U.heap x ST) (V : RoadKit.Fld Z U.heap x ST "value" "[B" (.ref t)) (C : RoadKit.Fld Z U.heap x ST "coder" "B" (.int cd)) (K : RoadKit.Arv Z U.heap t kb .byte N2 vs (.int 0)) (hc : CodA cs cd N2 vs) (hb : ∀ c ∈ cs, ¬ c < 0 ∧ ¬ (65535 : Int32) < c) (l2 : cs.length ≤ 4000) :
    ∃ A, Txt x t A cd cs.length (fun j => cs.getD j 0) U := by
  obtain ⟨A, K1, K2, K3, K4, K5, K6⟩ := K
  have hcod := hc.cod (by omega) K3 K5
  obtain ⟨D, fV, fC, hB, F1, F2, g1, g2, -, -⟩ := strObj wi al E V C
  exact ⟨A, ⟨_, hB.2.2.1, D, hB.1, rfl, by cases q : D.vm <;> first | rfl | exact absurd q (hB.2.1.2 _)⟩, Has.of hB F1 g1, Has.of hB F2 g2, ⟨K1.1, State.isArrayOf_alike al K1.2.1, K1.2.2, by rcases hcod with ⟨-, q, -⟩ | ⟨-, q, -⟩ <;> omega⟩, hcod, fun j hj => by
    have e : cs.getD j 0 = cs[j] := by simp [List.getD_eq_getElem?_getD, hj]
    show ¬ cs.getD j 0 < 0 ∧ ¬ 65535 < cs.getD j 0
    rw [e]; exact hb _ (List.getElem_mem _)⟩
theorem same_list (cs ds : List Int32) : SameT cs.length (fun j => cs.getD j 0) ds.length (fun j => ds.getD j 0) ↔ cs = ds := by
  constructor
  · rintro ⟨e, q⟩
    refine List.ext_getElem e fun j h1 h2 => ?_
    have := q j h1
    simpa [List.getD_eq_getElem?_getD, h1, h2] using this
  · rintro rfl
    exact ⟨rfl, fun _ _ => rfl⟩
/-- **equals(Object) OF TWO SUCH STRINGS**: 1 just where the chars are the same -/
theorem eqW {p : Program} {l : Launch} {e : Env} {R : Room} {s : State} {args : Array Value} {below : List Frame} {len W : Nat} {Z : State} {a0 : Array Value} {h : Heap} (hZ : Z.Warmed39 s.vm) (hw : ∀ d ∈ wordsEq, d.before a0 Z = true) {kI : Nat} (wi : (Jvm.Cond.instantiable ST kI).before a0 Z = true)
    {x t : Addr} {kb : ClassId} {cs : List Int32} {cd N2 : Int32} {vs : List Value} (E : RoadKit.Exa Z h x ST) (V : RoadKit.Fld Z h x ST "value" "[B" (.ref t)) (C : RoadKit.Fld Z h x ST "coder" "B" (.int cd)) (K : RoadKit.Arv Z h t kb .byte N2 vs (.int 0)) (hc : CodA cs cd N2 vs) (hb : ∀ c ∈ cs, ¬ c < 0 ∧ ¬ (65535 : Int32) < c) (l2 : cs.length ≤ 4000)
    {y t' : Addr} {kb' : ClassId} {ds : List Int32} {cd' N2' : Int32} {vs' : List Value} (E' : RoadKit.Exa Z h y ST) (V' : RoadKit.Fld Z h y ST "value" "[B" (.ref t')) (C' : RoadKit.Fld Z h y ST "coder" "B" (.int cd')) (K' : RoadKit.Arv Z h t' kb' .byte N2' vs' (.int 0)) (hc' : CodA ds cd' N2' vs') (hb' : ∀ c ∈ ds, ¬ c < 0 ∧ ¬ (65535 : Int32) < c) (l2' : ds.length ≤ 4000)
    {z : Int32} (S : RoadKit.Sta Z h ST "COMPACT_STRINGS" "Z" (.int z)) (hz : ¬ z = 0) (hfr : 2 ≤ R.frames) (hlo : W + 28 ≤ R.locals) :
    Back l R p e below s args (⟨"java/lang/String", "equals", "(Ljava/lang/Object;)Z"⟩ : MethodName) len W (fun P a => a = #[.ref x, .ref y] ∧ P.U.heap = h ∧ P.cells + 0 ≤ R.cells ∧ P.slots + 0 ≤ R.slots)
      (fun P _ v B => ∃ L, (((v = some (.int 1) ∧ cs = ds) ∨ (v = some (.int 0) ∧ ¬ cs = ds)) ∧ L = [] ∧ B.U.heap = h) ∧ B.locs = P.locs ++ L ∧ B.cells = P.cells + 0 ∧ B.slots = P.slots + 0) := by
  intro m meth c P g ig mk a X hg hsize hdg hW hn hp'
  obtain ⟨rfl, rfl, r1, r2⟩ := hp'
  have al : Z.vm.Alike P.U.vm := hZ.alike.trans X.warmed.alike
  obtain ⟨A, hx⟩ := txt_of wi al E V C K hc hb l2
  obtain ⟨A', hy⟩ := txt_of wi al E' V' C' K' hc' hb' l2'
  obtain ⟨v, B, X', ⟨⟨w, hv, hh, hq⟩, hl, hk, hs⟩, st⟩ := SEq.pays x t A cd cs.length (fun j => cs.getD j 0) y t' A' cd' ds.length (fun j => ds.getD j 0) z (tabEq_of (movedEq hZ hw)) hfr hlo m meth c P g ig mk _ X hg hsize hdg hW hn ⟨r1, r2, rfl, hx, hy, sta_is al S, hz⟩
  refine ⟨v, B, X', ⟨[], ⟨?_, rfl, hh⟩, hl, hk, hs⟩, st⟩
  rcases hq with ⟨rfl, q⟩ | ⟨rfl, q⟩
  · exact Or.inl ⟨hv, (same_list cs ds).mp q⟩
  · exact Or.inr ⟨hv, fun e => q ((same_list cs ds).mpr e)⟩
end StrChars.Road
namespace StrChars.Road
open Jvm Sem ClassFile Op Lib Jvm.Stand Jvm.Free Jvm.Free.XT
open Jvm.Lib.Cold (StaticIs)
/-- what backV says of its String, as the contracts of this text ask it: cs's low bytes, coder 0 -/
theorem codOf {cs : List Int32} {n : Nat} (hn : cs.length = n) (hb : ∀ c ∈ cs, ¬ 255 < c) : CodA cs 0 (Int32.ofNat n) ((cs.map lo8).map Value.int) := Or.inl ⟨rfl, by rw [hn], by simp [List.map_map, Function.comp_def], hb⟩
end StrChars.Road
end Jvm.Pilot.@@N@@
namespace Jvm.Pilot.@@N@@
namespace GK
open Jvm Jvm.ClassFile Sem Op Lib Jvm.Free Jvm.Stand Jvm.LawKit Jvm.RoadKit Bundle
section Strs
variable {md : Md} {l : Launch} {Z : State} {n0 : Nat} {R : Room} {h h' : Heap} {sf : List Addr} {a0 : Array Value} {x b : Addr} {cs ds : List Int32}
abbrev ST : String := "java/lang/String"
def Lat (cs : List Int32) : Prop := ∀ c ∈ cs, ¬ c < 0 ∧ ¬ (255 : Int32) < c
/-- x is a Latin-1 String of these chars -/
def Str (Z : State) (h : Heap) (x : Addr) (cs : List Int32) : Prop := ∃ t : Addr, Exa Z h x ST ∧ Fld Z h x ST "coder" "B" (.int 0) ∧ Fld Z h x ST "value" "[B" (.ref t) ∧ Ary Z h t .byte ((cs.map fun c => c.toInt8.toInt32).map Value.int) ∧ Lat cs
theorem Str.ext (S : Str Z h x cs) (E : Ext h h') : Str Z h' x cs := by obtain ⟨t, s1, s2, s3, s4, s5⟩ := S; exact ⟨t, s1.ext E, s2.ext E, s3.ext E, s4.ext E, s5⟩
theorem Str.exa (S : Str Z h x cs) : Exa Z h x ST := by obtain ⟨t, s1, -⟩ := S; exact s1
theorem Str.lt (S : Str Z h x cs) : x < h.size := S.exa.lt
theorem Str.keepO {a : Addr} {C : String} {k : Nat} (S : Str Z h x cs) (E : Exa Z h a C) (hn : C ≠ ST) (wi : (Jvm.Cond.instantiable C k).before a0 Z = true) (K : Keep h h' [a]) : Str Z h' x cs := by
  obtain ⟨t, s1, s2, s3, s4, s5⟩ := S
  have n1 : x ≠ a := Ne.symm (ne_exa E s1 hn)
  have n2 : t ≠ a := by obtain ⟨c, A, -⟩ := s4; exact Ne.symm (ne_arr E wi A)
  exact ⟨t, s1.keep K, s2.keep K (ninS n1 nin0), s3.keep K (ninS n1 nin0), Ary.keep K s4 (ninS n2 nin0), s5⟩
theorem strNew {W : Nat} {v0 c0 : Value} {z : Int32} (hws : ∀ d ∈ StrChars.Road.words, d.before a0 Z = true) (wi : (Jvm.Cond.instantiable ST 4).before a0 Z = true) (hx0 : n0 ≤ x) (o : Old Z n0 h) (E : Exa Z h x ST) (V : Fld Z h x ST "value" "[B" v0) (C : Fld Z h x ST "coder" "B" c0) (K : Ary Z h b .char (cs.map Value.int))
    (S : Sta Z Z.heap ST "COMPACT_STRINGS" "Z" (.int z)) (hz : ¬ z = 0) (n : Nat) (hn : cs.length = n) (l0 : 0 < n) (l2 : n ≤ 4000) (hp : Lat cs) (hfr : 4 ≤ R.frames) (hlo : W + 65 ≤ R.locals) (hsf : x ∈ sf) :
    Call md l Z n0 R ⟨"java/lang/String", "<init>", "([C)V"⟩ 3 W #[.ref x, .ref b] h sf 1 n (fun v h' _ => v = none ∧ Keep h h' [x] ∧ Str Z h' x cs) := by
  subst hn
  obtain ⟨kC, K'⟩ := K.arv (.int 0)
  rw [List.length_map] at K'
  refine call_of_back [x] (QB := StrChars.Road.QV Z x (Int32.ofNat cs.length) (cs.map fun c => c.toInt8.toInt32) h n0) (fun p e below s sargs hZ => StrChars.Road.backV hZ hws wi hx0 (o.1 ▸ o.2.1) E V C K' (S.ext o.2) hz rfl rfl l0 l2 hp rfl hfr hlo) ?_ (sub1 hsf) (fun y hy => by cases List.mem_singleton.mp hy; exact hx0)
  rintro v h' L ⟨rfl, q2, q3, q4, q5, t, kb, -, -, -, q9, q10⟩
  refine ⟨q2, q3, rfl, q3, t, q4, q5, q9, Ary.ofArv q10 ?_ (by simp; omega), hp⟩
  rw [(clamp_of (ofNat_toInt (by omega))).2]; simp
theorem toInt_lt {x y : Int32} : x < y ↔ x.toInt < y.toInt := Int32.lt_iff_toInt_lt
theorem lat_iff {c : Int32} : (¬ c < 0 ∧ ¬ (255 : Int32) < c) ↔ (0 ≤ c.toInt ∧ c.toInt ≤ 255) := by
  rw [toInt_lt, toInt_lt]
  have e1 : (0 : Int32).toInt = 0 := rfl
  have e2 : (255 : Int32).toInt = 255 := rfl
  omega
theorem chr_id {c : Int32} (q : 0 ≤ c.toInt ∧ c.toInt ≤ 65535) : chr c = c := Int32.toInt_inj.mp (by have := c_i2c c; show (c.toUInt32.toUInt16.toUInt32.toInt32).toInt = c.toInt; omega)
theorem chr_rng (x : Int32) : 0 ≤ (chr x).toInt ∧ (chr x).toInt ≤ 65535 := by have := c_i2c x; show 0 ≤ (x.toUInt32.toUInt16.toUInt32.toInt32).toInt ∧ (x.toUInt32.toUInt16.toUInt32.toInt32).toInt ≤ 65535; omega
theorem and255 (x : Int32) : 0 ≤ (x &&& (255 : Int32)).toInt ∧ (x &&& (255 : Int32)).toInt ≤ 255 := c_and x 255 (by decide)
theorem chr255 (x : Int32) : ¬ chr (x &&& (255 : Int32)) < 0 ∧ ¬ (255 : Int32) < chr (x &&& (255 : Int32)) := by
  have q := and255 x
  rw [chr_id (by omega)]; exact lat_iff.mpr q
theorem nar_chr (c : Int32) : nar .char c = chr c := rfl
theorem nar_c {c : Int32} (q : ¬ c < 0 ∧ ¬ (255 : Int32) < c) : nar .char c = c := by
  have := lat_iff.mp q
  rw [nar_chr, chr_id (by omega)]
theorem i8_idem (x : Int32) : x.toInt8.toInt32.toInt8.toInt32 = x.toInt8.toInt32 := Int32.toInt_inj.mp (by have h1 := c_i2b x; have h2 := c_i2b (x.toInt8.toInt32); omega)
theorem latN : Lat [] := fun c hc => nomatch hc
theorem latC {c : Int32} {cs : List Int32} (q : ¬ c < 0 ∧ ¬ (255 : Int32) < c) (r : Lat cs) : Lat (c :: cs) := fun y hy => (List.mem_cons.mp hy).elim (fun u => u ▸ q) (r y)
theorem lat1 {c : Int32} (q : ¬ c < 0 ∧ ¬ (255 : Int32) < c) : Lat [c] := latC q latN
theorem lat2 {c d : Int32} (q : ¬ c < 0 ∧ ¬ (255 : Int32) < c) (r : ¬ d < 0 ∧ ¬ (255 : Int32) < d) : Lat [c, d] := latC q (lat1 r)
end Strs
end GK
end Jvm.Pilot.@@N@@
namespace Jvm.Pilot.@@N@@
namespace GK
open Jvm Jvm.ClassFile Sem Op Lib Jvm.Free Jvm.Stand Jvm.LawKit Jvm.RoadKit Bundle
section StrsE
variable {md : Md} {l : Launch} {Z : State} {n0 : Nat} {R : Room} {h h' : Heap} {sf : List Addr} {a0 : Array Value} {x y : Addr} {cs ds : List Int32}
theorem Lat.up (q : Lat cs) : ∀ c ∈ cs, ¬ c < 0 ∧ ¬ (65535 : Int32) < c := fun c hc => by
  have := lat_iff.mp (q c hc)
  refine ⟨(q c hc).1, fun z => ?_⟩
  rw [toInt_lt] at z
  have e1 : (65535 : Int32).toInt = 65535 := rfl
  omega
theorem strEq {W : Nat} {z : Int32} (heq : ∀ d ∈ StrChars.Road.wordsEq, d.before a0 Z = true) (wi : (Jvm.Cond.instantiable ST 4).before a0 Z = true) (S1 : Str Z h x cs) (S2 : Str Z h y ds) (l1 : cs.length ≤ 4000) (l2 : ds.length ≤ 4000) (o : Old Z n0 h) (S : Sta Z Z.heap ST "COMPACT_STRINGS" "Z" (.int z)) (hz : ¬ z = 0) (hfr : 2 ≤ R.frames) (hlo : W + 28 ≤ R.locals) :
    Call md l Z n0 R ⟨"java/lang/String", "equals", "(Ljava/lang/Object;)Z"⟩ 3 W #[.ref x, .ref y] h sf 0 0 (fun v h' _ => h = h' ∧ ((v = some (.int 1) ∧ cs = ds) ∨ (v = some (.int 0) ∧ ¬ cs = ds))) := by
  obtain ⟨t, E, C, V, A, q⟩ := S1
  obtain ⟨t', E', C', V', A', q'⟩ := S2
  obtain ⟨k, K⟩ := A.arv (.int 0)
  obtain ⟨k', K'⟩ := A'.arv (.int 0)
  rw [List.length_map, List.length_map] at K K'
  refine call_of_back [] (QB := fun v h' L => (((v = some (.int 1) ∧ cs = ds) ∨ (v = some (.int 0) ∧ ¬ cs = ds)) ∧ L = [] ∧ h' = h)) (fun p e below s sargs hZ => StrChars.Road.eqW hZ heq wi E V C K (StrChars.Road.codOf rfl fun c hc => (q c hc).2) q.up l1 E' V' C' K' (StrChars.Road.codOf rfl fun c hc => (q' c hc).2) q'.up l2 (S.ext o.2) hz hfr hlo) ?_ (fun _ q => nomatch q) (fun _ q => nomatch q)
  rintro v h' L ⟨q1, rfl, rfl⟩
  exact ⟨Fr.nil n0, Keep.refl _ _, rfl, q1⟩
end StrsE
end GK
end Jvm.Pilot.@@N@@
namespace Jvm.Pilot.@@N@@
open Jvm Jvm.ClassFile Sem Op Lib Jvm.Free Jvm.Stand Jvm.LawKit Jvm.RoadKit Bundle Jvm.Pilot.@@N@@.Jvm.D Jvm.Pilot.@@N@@.GK
abbrev HW (a0 : Array Value) (Z : State) : Prop := ∀ d ∈ tables_1, d.before a0 Z = true
theorem w0 {a0 : Array Value} {Z : State} (hw : HW a0 Z) : (Jvm.Cond.constant "com/example/avain/avain/io/TokenEqualsPinLaw" (7 : Nat) (2147483647 : Int32)).before a0 Z = true := hw _ (List.mem_of_getElem? (i := 0) rfl)
theorem w1 {a0 : Array Value} {Z : State} (hw : HW a0 Z) : (Jvm.Cond.classLink "com/example/avain/avain/io/TokenEqualsPinLaw" (8 : Nat) "com/example/avain/avain/io/Token").before a0 Z = true := hw _ (List.mem_of_getElem? (i := 1) rfl)
theorem w2 {a0 : Array Value} {Z : State} (hw : HW a0 Z) : (Jvm.Cond.instantiable "com/example/avain/avain/io/Token" (4 : Nat)).before a0 Z = true := hw _ (List.mem_of_getElem? (i := 2) rfl)
theorem w3 {a0 : Array Value} {Z : State} (hw : HW a0 Z) : (Jvm.Cond.initialized "com/example/avain/avain/io/Token").before a0 Z = true := hw _ (List.mem_of_getElem? (i := 3) rfl)
theorem w4 {a0 : Array Value} {Z : State} (hw : HW a0 Z) : (Jvm.Cond.methodLink "com/example/avain/avain/io/TokenEqualsPinLaw" (10 : Nat) ({ cls := "com/example/avain/avain/io/TokenEqualsPinLaw", name := "kind", desc := "(I)Lcom/example/avain/avain/io/TokenKind;" } : Jvm.MethodName)).before a0 Z = true := hw _ (List.mem_of_getElem? (i := 4) rfl)
theorem w5 {a0 : Array Value} {Z : State} (hw : HW a0 Z) : (Jvm.Cond.static ({ cls := "com/example/avain/avain/io/TokenEqualsPinLaw", name := "kind", desc := "(I)Lcom/example/avain/avain/io/TokenKind;" } : Jvm.MethodName)).before a0 Z = true := hw _ (List.mem_of_getElem? (i := 5) rfl)
theorem w6 {a0 : Array Value} {Z : State} (hw : HW a0 Z) : (Jvm.Cond.initialized "com/example/avain/avain/io/TokenEqualsPinLaw").before a0 Z = true := hw _ (List.mem_of_getElem? (i := 6) rfl)
theorem w7 {a0 : Array Value} {Z : State} (hw : HW a0 Z) : (Jvm.Cond.code ({ cls := "com/example/avain/avain/io/TokenEqualsPinLaw", name := "kind", desc := "(I)Lcom/example/avain/avain/io/TokenKind;" } : Jvm.MethodName) method_4_code (1 : Nat) (Option.some (Jvm.ClassFile.FieldType.object "com/example/avain/avain/io/TokenKind"))).before a0 Z = true := hw _ (List.mem_of_getElem? (i := 7) rfl)
theorem w8 {a0 : Array Value} {Z : State} (hw : HW a0 Z) : (Jvm.Cond.fieldLink "com/example/avain/avain/io/TokenEqualsPinLaw" (32 : Nat) "com/example/avain/avain/io/TokenKind" "IDENTIFIER" "Lcom/example/avain/avain/io/TokenKind;").before a0 Z = true := hw _ (List.mem_of_getElem? (i := 8) rfl)
theorem w9 {a0 : Array Value} {Z : State} (hw : HW a0 Z) : (Jvm.Cond.initialized "com/example/avain/avain/io/TokenKind").before a0 Z = true := hw _ (List.mem_of_getElem? (i := 9) rfl)
theorem w10 {a0 : Array Value} {Z : State} (hw : HW a0 Z) : (Jvm.Cond.laysStatic "com/example/avain/avain/io/TokenKind" "IDENTIFIER" "Lcom/example/avain/avain/io/TokenKind;").before a0 Z = true := hw _ (List.mem_of_getElem? (i := 10) rfl)
theorem w11 {a0 : Array Value} {Z : State} (hw : HW a0 Z) : (Jvm.Cond.methodLink "com/example/avain/avain/io/TokenEqualsPinLaw" (16 : Nat) ({ cls := "com/example/avain/avain/io/TokenEqualsPinLaw", name := "str", desc := "(ICC)Ljava/lang/String;" } : Jvm.MethodName)).before a0 Z = true := hw _ (List.mem_of_getElem? (i := 11) rfl)
theorem w12 {a0 : Array Value} {Z : State} (hw : HW a0 Z) : (Jvm.Cond.static ({ cls := "com/example/avain/avain/io/TokenEqualsPinLaw", name := "str", desc := "(ICC)Ljava/lang/String;" } : Jvm.MethodName)).before a0 Z = true := hw _ (List.mem_of_getElem? (i := 12) rfl)
theorem w13 {a0 : Array Value} {Z : State} (hw : HW a0 Z) : (Jvm.Cond.code ({ cls := "com/example/avain/avain/io/TokenEqualsPinLaw", name := "str", desc := "(ICC)Ljava/lang/String;" } : Jvm.MethodName) method_3_code (4 : Nat) (Option.some (Jvm.ClassFile.FieldType.object "java/lang/String"))).before a0 Z = true := hw _ (List.mem_of_getElem? (i := 13) rfl)
theorem w14 {a0 : Array Value} {Z : State} (hw : HW a0 Z) : (Jvm.Cond.arrayClass Jvm.ClassFile.FieldType.char).before a0 Z = true := hw _ (List.mem_of_getElem? (i := 14) rfl)
theorem w15 {a0 : Array Value} {Z : State} (hw : HW a0 Z) : (Jvm.Cond.classLink "com/example/avain/avain/io/TokenEqualsPinLaw" (27 : Nat) "java/lang/String").before a0 Z = true := hw _ (List.mem_of_getElem? (i := 15) rfl)
theorem w16 {a0 : Array Value} {Z : State} (hw : HW a0 Z) : (Jvm.Cond.instantiable "java/lang/String" (4 : Nat)).before a0 Z = true := hw _ (List.mem_of_getElem? (i := 16) rfl)
theorem w17 {a0 : Array Value} {Z : State} (hw : HW a0 Z) : (Jvm.Cond.initialized "java/lang/String").before a0 Z = true := hw _ (List.mem_of_getElem? (i := 17) rfl)
theorem w18 {a0 : Array Value} {Z : State} (hw : HW a0 Z) : (Jvm.Cond.methodLink "com/example/avain/avain/io/TokenEqualsPinLaw" (29 : Nat) ({ cls := "java/lang/String", name := "<init>", desc := "([C)V" } : Jvm.MethodName)).before a0 Z = true := hw _ (List.mem_of_getElem? (i := 18) rfl)
theorem w19 {a0 : Array Value} {Z : State} (hw : HW a0 Z) : (Jvm.Cond.instanceMethod ({ cls := "java/lang/String", name := "<init>", desc := "([C)V" } : Jvm.MethodName)).before a0 Z = true := hw _ (List.mem_of_getElem? (i := 19) rfl)
theorem w20 {a0 : Array Value} {Z : State} (hw : HW a0 Z) : (Jvm.Cond.code ({ cls := "java/lang/String", name := "<init>", desc := "([C)V" } : Jvm.MethodName) jdk_42_method_3_code (2 : Nat) (Option.none : Option Jvm.ClassFile.FieldType)).before a0 Z = true := hw _ (List.mem_of_getElem? (i := 20) rfl)
theorem w21 {a0 : Array Value} {Z : State} (hw : HW a0 Z) : (Jvm.Cond.methodLink "java/lang/String" (27 : Nat) ({ cls := "java/lang/String", name := "<init>", desc := "([CIILjava/lang/Void;)V" } : Jvm.MethodName)).before a0 Z = true := hw _ (List.mem_of_getElem? (i := 21) rfl)
theorem w22 {a0 : Array Value} {Z : State} (hw : HW a0 Z) : (Jvm.Cond.instanceMethod ({ cls := "java/lang/String", name := "<init>", desc := "([CIILjava/lang/Void;)V" } : Jvm.MethodName)).before a0 Z = true := hw _ (List.mem_of_getElem? (i := 22) rfl)
theorem w24 {a0 : Array Value} {Z : State} (hw : HW a0 Z) : (Jvm.Cond.code ({ cls := "java/lang/String", name := "<init>", desc := "([CIILjava/lang/Void;)V" } : Jvm.MethodName) jdk_42_method_149_code (6 : Nat) (Option.none : Option Jvm.ClassFile.FieldType)).before a0 Z = true := hw _ (List.mem_of_getElem? (i := 24) rfl)
theorem w25 {a0 : Array Value} {Z : State} (hw : HW a0 Z) : (Jvm.Cond.methodLink "java/lang/String" (1 : Nat) ({ cls := "java/lang/Object", name := "<init>", desc := "()V" } : Jvm.MethodName)).before a0 Z = true := hw _ (List.mem_of_getElem? (i := 25) rfl)
theorem w26 {a0 : Array Value} {Z : State} (hw : HW a0 Z) : (Jvm.Cond.instanceMethod ({ cls := "java/lang/Object", name := "<init>", desc := "()V" } : Jvm.MethodName)).before a0 Z = true := hw _ (List.mem_of_getElem? (i := 26) rfl)
theorem w27 {a0 : Array Value} {Z : State} (hw : HW a0 Z) : (Jvm.Cond.code ({ cls := "java/lang/Object", name := "<init>", desc := "()V" } : Jvm.MethodName) object_method_1_code (1 : Nat) (Option.none : Option Jvm.ClassFile.FieldType)).before a0 Z = true := hw _ (List.mem_of_getElem? (i := 27) rfl)
theorem w28 {a0 : Array Value} {Z : State} (hw : HW a0 Z) : (Jvm.Cond.stringLink "java/lang/String" (7 : Nat) "").before a0 Z = true := hw _ (List.mem_of_getElem? (i := 28) rfl)
theorem w29 {a0 : Array Value} {Z : State} (hw : HW a0 Z) : (Jvm.Cond.arrayClass Jvm.ClassFile.FieldType.byte).before a0 Z = true := hw _ (List.mem_of_getElem? (i := 29) rfl)
theorem w30 {a0 : Array Value} {Z : State} (hw : HW a0 Z) : (Jvm.Cond.laysFinal "java/lang/String" "java/lang/String" "value" "[B").before a0 Z = true := hw _ (List.mem_of_getElem? (i := 30) rfl)
theorem w31 {a0 : Array Value} {Z : State} (hw : HW a0 Z) : (Jvm.Cond.laysFinal "java/lang/String" "java/lang/String" "coder" "B").before a0 Z = true := hw _ (List.mem_of_getElem? (i := 31) rfl)
theorem w34 {a0 : Array Value} {Z : State} (hw : HW a0 Z) : (Jvm.Cond.fieldLink "java/lang/String" (9 : Nat) "java/lang/String" "value" "[B").before a0 Z = true := hw _ (List.mem_of_getElem? (i := 34) rfl)
theorem w35 {a0 : Array Value} {Z : State} (hw : HW a0 Z) : (Jvm.Cond.fieldLink "java/lang/String" (15 : Nat) "java/lang/String" "coder" "B").before a0 Z = true := hw _ (List.mem_of_getElem? (i := 35) rfl)
theorem w36 {a0 : Array Value} {Z : State} (hw : HW a0 Z) : (Jvm.Cond.methodLink "com/example/avain/avain/io/TokenEqualsPinLaw" (20 : Nat) ({ cls := "com/example/avain/avain/io/Token", name := "<init>", desc := "(Lcom/example/avain/avain/io/TokenKind;Ljava/lang/String;II)V" } : Jvm.MethodName)).before a0 Z = true := hw _ (List.mem_of_getElem? (i := 36) rfl)
theorem w37 {a0 : Array Value} {Z : State} (hw : HW a0 Z) : (Jvm.Cond.instanceMethod ({ cls := "com/example/avain/avain/io/Token", name := "<init>", desc := "(Lcom/example/avain/avain/io/TokenKind;Ljava/lang/String;II)V" } : Jvm.MethodName)).before a0 Z = true := hw _ (List.mem_of_getElem? (i := 37) rfl)
theorem w38 {a0 : Array Value} {Z : State} (hw : HW a0 Z) : (Jvm.Cond.code ({ cls := "com/example/avain/avain/io/Token", name := "<init>", desc := "(Lcom/example/avain/avain/io/TokenKind;Ljava/lang/String;II)V" } : Jvm.MethodName) prog_39_method_1_code (5 : Nat) (Option.none : Option Jvm.ClassFile.FieldType)).before a0 Z = true := hw _ (List.mem_of_getElem? (i := 38) rfl)
theorem w39 {a0 : Array Value} {Z : State} (hw : HW a0 Z) : (Jvm.Cond.methodLink "com/example/avain/avain/io/Token" (1 : Nat) ({ cls := "java/lang/Object", name := "<init>", desc := "()V" } : Jvm.MethodName)).before a0 Z = true := hw _ (List.mem_of_getElem? (i := 39) rfl)
theorem w40 {a0 : Array Value} {Z : State} (hw : HW a0 Z) : (Jvm.Cond.stringLink "com/example/avain/avain/io/Token" (7 : Nat) "kind").before a0 Z = true := hw _ (List.mem_of_getElem? (i := 40) rfl)
theorem w41 {a0 : Array Value} {Z : State} (hw : HW a0 Z) : (Jvm.Cond.methodLink "com/example/avain/avain/io/Token" (9 : Nat) ({ cls := "java/util/Objects", name := "requireNonNull", desc := "(Ljava/lang/Object;Ljava/lang/String;)Ljava/lang/Object;" } : Jvm.MethodName)).before a0 Z = true := hw _ (List.mem_of_getElem? (i := 41) rfl)
theorem w42 {a0 : Array Value} {Z : State} (hw : HW a0 Z) : (Jvm.Cond.static ({ cls := "java/util/Objects", name := "requireNonNull", desc := "(Ljava/lang/Object;Ljava/lang/String;)Ljava/lang/Object;" } : Jvm.MethodName)).before a0 Z = true := hw _ (List.mem_of_getElem? (i := 42) rfl)
theorem w43 {a0 : Array Value} {Z : State} (hw : HW a0 Z) : (Jvm.Cond.initialized "java/util/Objects").before a0 Z = true := hw _ (List.mem_of_getElem? (i := 43) rfl)
theorem w44 {a0 : Array Value} {Z : State} (hw : HW a0 Z) : (Jvm.Cond.code ({ cls := "java/util/Objects", name := "requireNonNull", desc := "(Ljava/lang/Object;Ljava/lang/String;)Ljava/lang/Object;" } : Jvm.MethodName) jdk_31_method_11_code (2 : Nat) (Option.some (Jvm.ClassFile.FieldType.object "java/lang/Object"))).before a0 Z = true := hw _ (List.mem_of_getElem? (i := 44) rfl)
theorem w45 {a0 : Array Value} {Z : State} (hw : HW a0 Z) : (Jvm.Cond.classLink "com/example/avain/avain/io/Token" (15 : Nat) "com/example/avain/avain/io/TokenKind").before a0 Z = true := hw _ (List.mem_of_getElem? (i := 45) rfl)
theorem w47 {a0 : Array Value} {Z : State} (hw : HW a0 Z) : (Jvm.Cond.fieldLink "com/example/avain/avain/io/Token" (17 : Nat) "com/example/avain/avain/io/Token" "kind" "Lcom/example/avain/avain/io/TokenKind;").before a0 Z = true := hw _ (List.mem_of_getElem? (i := 47) rfl)
theorem w48 {a0 : Array Value} {Z : State} (hw : HW a0 Z) : (Jvm.Cond.laysFinal "com/example/avain/avain/io/Token" "com/example/avain/avain/io/Token" "kind" "Lcom/example/avain/avain/io/TokenKind;").before a0 Z = true := hw _ (List.mem_of_getElem? (i := 48) rfl)
theorem w49 {a0 : Array Value} {Z : State} (hw : HW a0 Z) : (Jvm.Cond.stringLink "com/example/avain/avain/io/Token" (22 : Nat) "text").before a0 Z = true := hw _ (List.mem_of_getElem? (i := 49) rfl)
theorem w50 {a0 : Array Value} {Z : State} (hw : HW a0 Z) : (Jvm.Cond.classLink "com/example/avain/avain/io/Token" (24 : Nat) "java/lang/String").before a0 Z = true := hw _ (List.mem_of_getElem? (i := 50) rfl)
theorem w51 {a0 : Array Value} {Z : State} (hw : HW a0 Z) : (Jvm.Cond.fieldLink "com/example/avain/avain/io/Token" (26 : Nat) "com/example/avain/avain/io/Token" "text" "Ljava/lang/String;").before a0 Z = true := hw _ (List.mem_of_getElem? (i := 51) rfl)
theorem w52 {a0 : Array Value} {Z : State} (hw : HW a0 Z) : (Jvm.Cond.laysFinal "com/example/avain/avain/io/Token" "com/example/avain/avain/io/Token" "text" "Ljava/lang/String;").before a0 Z = true := hw _ (List.mem_of_getElem? (i := 52) rfl)
theorem w53 {a0 : Array Value} {Z : State} (hw : HW a0 Z) : (Jvm.Cond.fieldLink "com/example/avain/avain/io/Token" (29 : Nat) "com/example/avain/avain/io/Token" "line" "I").before a0 Z = true := hw _ (List.mem_of_getElem? (i := 53) rfl)
theorem w54 {a0 : Array Value} {Z : State} (hw : HW a0 Z) : (Jvm.Cond.laysFinal "com/example/avain/avain/io/Token" "com/example/avain/avain/io/Token" "line" "I").before a0 Z = true := hw _ (List.mem_of_getElem? (i := 54) rfl)
theorem w55 {a0 : Array Value} {Z : State} (hw : HW a0 Z) : (Jvm.Cond.fieldLink "com/example/avain/avain/io/Token" (33 : Nat) "com/example/avain/avain/io/Token" "column" "I").before a0 Z = true := hw _ (List.mem_of_getElem? (i := 55) rfl)
theorem w56 {a0 : Array Value} {Z : State} (hw : HW a0 Z) : (Jvm.Cond.laysFinal "com/example/avain/avain/io/Token" "com/example/avain/avain/io/Token" "column" "I").before a0 Z = true := hw _ (List.mem_of_getElem? (i := 56) rfl)
theorem w57 {a0 : Array Value} {Z : State} (hw : HW a0 Z) : (Jvm.Cond.methodLink "com/example/avain/avain/io/TokenEqualsPinLaw" (23 : Nat) ({ cls := "com/example/avain/avain/io/Token", name := "equals", desc := "(Ljava/lang/Object;)Z" } : Jvm.MethodName)).before a0 Z = true := hw _ (List.mem_of_getElem? (i := 57) rfl)
theorem w58 {a0 : Array Value} {Z : State} (hw : HW a0 Z) : (Jvm.Cond.declares ({ cls := "com/example/avain/avain/io/Token", name := "equals", desc := "(Ljava/lang/Object;)Z" } : Jvm.MethodName)).before a0 Z = true := hw _ (List.mem_of_getElem? (i := 58) rfl)
theorem w59 {a0 : Array Value} {Z : State} (hw : HW a0 Z) : (Jvm.Cond.instanceMethod ({ cls := "com/example/avain/avain/io/Token", name := "equals", desc := "(Ljava/lang/Object;)Z" } : Jvm.MethodName)).before a0 Z = true := hw _ (List.mem_of_getElem? (i := 59) rfl)
theorem w60 {a0 : Array Value} {Z : State} (hw : HW a0 Z) : (Jvm.Cond.selects "com/example/avain/avain/io/Token" ({ cls := "com/example/avain/avain/io/Token", name := "equals", desc := "(Ljava/lang/Object;)Z" } : Jvm.MethodName) ({ cls := "com/example/avain/avain/io/Token", name := "equals", desc := "(Ljava/lang/Object;)Z" } : Jvm.MethodName)).before a0 Z = true := hw _ (List.mem_of_getElem? (i := 60) rfl)
theorem w61 {a0 : Array Value} {Z : State} (hw : HW a0 Z) : (Jvm.Cond.code ({ cls := "com/example/avain/avain/io/Token", name := "equals", desc := "(Ljava/lang/Object;)Z" } : Jvm.MethodName) prog_39_method_6_code (3 : Nat) (Option.some Jvm.ClassFile.FieldType.boolean)).before a0 Z = true := hw _ (List.mem_of_getElem? (i := 61) rfl)
theorem w62 {a0 : Array Value} {Z : State} (hw : HW a0 Z) : (Jvm.Cond.classLink "com/example/avain/avain/io/Token" (18 : Nat) "com/example/avain/avain/io/Token").before a0 Z = true := hw _ (List.mem_of_getElem? (i := 62) rfl)
theorem w64 {a0 : Array Value} {Z : State} (hw : HW a0 Z) : (Jvm.Cond.methodLink "com/example/avain/avain/io/Token" (36 : Nat) ({ cls := "java/lang/String", name := "equals", desc := "(Ljava/lang/Object;)Z" } : Jvm.MethodName)).before a0 Z = true := hw _ (List.mem_of_getElem? (i := 64) rfl)
theorem w65 {a0 : Array Value} {Z : State} (hw : HW a0 Z) : (Jvm.Cond.declares ({ cls := "java/lang/String", name := "equals", desc := "(Ljava/lang/Object;)Z" } : Jvm.MethodName)).before a0 Z = true := hw _ (List.mem_of_getElem? (i := 65) rfl)
theorem w66 {a0 : Array Value} {Z : State} (hw : HW a0 Z) : (Jvm.Cond.instanceMethod ({ cls := "java/lang/String", name := "equals", desc := "(Ljava/lang/Object;)Z" } : Jvm.MethodName)).before a0 Z = true := hw _ (List.mem_of_getElem? (i := 66) rfl)
theorem w67 {a0 : Array Value} {Z : State} (hw : HW a0 Z) : (Jvm.Cond.selects "java/lang/String" ({ cls := "java/lang/String", name := "equals", desc := "(Ljava/lang/Object;)Z" } : Jvm.MethodName) ({ cls := "java/lang/String", name := "equals", desc := "(Ljava/lang/Object;)Z" } : Jvm.MethodName)).before a0 Z = true := hw _ (List.mem_of_getElem? (i := 67) rfl)
theorem w75 {a0 : Array Value} {Z : State} (hw : HW a0 Z) : (Jvm.Cond.fieldLink "com/example/avain/avain/io/TokenEqualsPinLaw" (47 : Nat) "com/example/avain/avain/io/TokenKind" "LEFT_PAREN" "Lcom/example/avain/avain/io/TokenKind;").before a0 Z = true := hw _ (List.mem_of_getElem? (i := 75) rfl)
theorem w76 {a0 : Array Value} {Z : State} (hw : HW a0 Z) : (Jvm.Cond.laysStatic "com/example/avain/avain/io/TokenKind" "LEFT_PAREN" "Lcom/example/avain/avain/io/TokenKind;").before a0 Z = true := hw _ (List.mem_of_getElem? (i := 76) rfl)
theorem w87 {a0 : Array Value} {Z : State} (hw : HW a0 Z) : (Jvm.Cond.fieldLink "com/example/avain/avain/io/TokenEqualsPinLaw" (44 : Nat) "com/example/avain/avain/io/TokenKind" "COMMA" "Lcom/example/avain/avain/io/TokenKind;").before a0 Z = true := hw _ (List.mem_of_getElem? (i := 87) rfl)
theorem w88 {a0 : Array Value} {Z : State} (hw : HW a0 Z) : (Jvm.Cond.laysStatic "com/example/avain/avain/io/TokenKind" "COMMA" "Lcom/example/avain/avain/io/TokenKind;").before a0 Z = true := hw _ (List.mem_of_getElem? (i := 88) rfl)
theorem w89 {a0 : Array Value} {Z : State} (hw : HW a0 Z) : (Jvm.Cond.superclass "java/lang/String" "java/lang/Object").before a0 Z = true := hw _ (List.mem_of_getElem? (i := 89) rfl)
theorem w90 {a0 : Array Value} {Z : State} (hw : HW a0 Z) : (Jvm.Cond.noSuperclass "java/lang/Object").before a0 Z = true := hw _ (List.mem_of_getElem? (i := 90) rfl)
theorem w91 {a0 : Array Value} {Z : State} (hw : HW a0 Z) : (Jvm.Cond.fieldLink "com/example/avain/avain/io/TokenEqualsPinLaw" (74 : Nat) "com/example/avain/avain/io/TokenKind" "SECURE_ARROW" "Lcom/example/avain/avain/io/TokenKind;").before a0 Z = true := hw _ (List.mem_of_getElem? (i := 91) rfl)
theorem w92 {a0 : Array Value} {Z : State} (hw : HW a0 Z) : (Jvm.Cond.laysStatic "com/example/avain/avain/io/TokenKind" "SECURE_ARROW" "Lcom/example/avain/avain/io/TokenKind;").before a0 Z = true := hw _ (List.mem_of_getElem? (i := 92) rfl)
theorem w93 {a0 : Array Value} {Z : State} (hw : HW a0 Z) : (Jvm.Cond.fieldLink "com/example/avain/avain/io/TokenEqualsPinLaw" (50 : Nat) "com/example/avain/avain/io/TokenKind" "RIGHT_PAREN" "Lcom/example/avain/avain/io/TokenKind;").before a0 Z = true := hw _ (List.mem_of_getElem? (i := 93) rfl)
theorem w94 {a0 : Array Value} {Z : State} (hw : HW a0 Z) : (Jvm.Cond.laysStatic "com/example/avain/avain/io/TokenKind" "RIGHT_PAREN" "Lcom/example/avain/avain/io/TokenKind;").before a0 Z = true := hw _ (List.mem_of_getElem? (i := 94) rfl)
theorem w95 {a0 : Array Value} {Z : State} (hw : HW a0 Z) : (Jvm.Cond.fieldLink "com/example/avain/avain/io/TokenEqualsPinLaw" (68 : Nat) "com/example/avain/avain/io/TokenKind" "AUTHENTIC_ARROW" "Lcom/example/avain/avain/io/TokenKind;").before a0 Z = true := hw _ (List.mem_of_getElem? (i := 95) rfl)
theorem w96 {a0 : Array Value} {Z : State} (hw : HW a0 Z) : (Jvm.Cond.laysStatic "com/example/avain/avain/io/TokenKind" "AUTHENTIC_ARROW" "Lcom/example/avain/avain/io/TokenKind;").before a0 Z = true := hw _ (List.mem_of_getElem? (i := 96) rfl)
theorem w97 {a0 : Array Value} {Z : State} (hw : HW a0 Z) : (Jvm.Cond.fieldLink "com/example/avain/avain/io/TokenEqualsPinLaw" (71 : Nat) "com/example/avain/avain/io/TokenKind" "CONFIDENTIAL_ARROW" "Lcom/example/avain/avain/io/TokenKind;").before a0 Z = true := hw _ (List.mem_of_getElem? (i := 97) rfl)
theorem w98 {a0 : Array Value} {Z : State} (hw : HW a0 Z) : (Jvm.Cond.laysStatic "com/example/avain/avain/io/TokenKind" "CONFIDENTIAL_ARROW" "Lcom/example/avain/avain/io/TokenKind;").before a0 Z = true := hw _ (List.mem_of_getElem? (i := 98) rfl)
theorem w99 {a0 : Array Value} {Z : State} (hw : HW a0 Z) : (Jvm.Cond.fieldLink "com/example/avain/avain/io/TokenEqualsPinLaw" (62 : Nat) "com/example/avain/avain/io/TokenKind" "RIGHT_SEAL" "Lcom/example/avain/avain/io/TokenKind;").before a0 Z = true := hw _ (List.mem_of_getElem? (i := 99) rfl)
theorem w100 {a0 : Array Value} {Z : State} (hw : HW a0 Z) : (Jvm.Cond.laysStatic "com/example/avain/avain/io/TokenKind" "RIGHT_SEAL" "Lcom/example/avain/avain/io/TokenKind;").before a0 Z = true := hw _ (List.mem_of_getElem? (i := 100) rfl)
theorem w101 {a0 : Array Value} {Z : State} (hw : HW a0 Z) : (Jvm.Cond.fieldLink "com/example/avain/avain/io/TokenEqualsPinLaw" (65 : Nat) "com/example/avain/avain/io/TokenKind" "ARROW" "Lcom/example/avain/avain/io/TokenKind;").before a0 Z = true := hw _ (List.mem_of_getElem? (i := 101) rfl)
theorem w102 {a0 : Array Value} {Z : State} (hw : HW a0 Z) : (Jvm.Cond.laysStatic "com/example/avain/avain/io/TokenKind" "ARROW" "Lcom/example/avain/avain/io/TokenKind;").before a0 Z = true := hw _ (List.mem_of_getElem? (i := 102) rfl)
theorem w103 {a0 : Array Value} {Z : State} (hw : HW a0 Z) : (Jvm.Cond.fieldLink "com/example/avain/avain/io/TokenEqualsPinLaw" (56 : Nat) "com/example/avain/avain/io/TokenKind" "RIGHT_BRACE" "Lcom/example/avain/avain/io/TokenKind;").before a0 Z = true := hw _ (List.mem_of_getElem? (i := 103) rfl)
theorem w104 {a0 : Array Value} {Z : State} (hw : HW a0 Z) : (Jvm.Cond.laysStatic "com/example/avain/avain/io/TokenKind" "RIGHT_BRACE" "Lcom/example/avain/avain/io/TokenKind;").before a0 Z = true := hw _ (List.mem_of_getElem? (i := 104) rfl)
theorem w105 {a0 : Array Value} {Z : State} (hw : HW a0 Z) : (Jvm.Cond.fieldLink "com/example/avain/avain/io/TokenEqualsPinLaw" (41 : Nat) "com/example/avain/avain/io/TokenKind" "SEMICOLON" "Lcom/example/avain/avain/io/TokenKind;").before a0 Z = true := hw _ (List.mem_of_getElem? (i := 105) rfl)
theorem w106 {a0 : Array Value} {Z : State} (hw : HW a0 Z) : (Jvm.Cond.laysStatic "com/example/avain/avain/io/TokenKind" "SEMICOLON" "Lcom/example/avain/avain/io/TokenKind;").before a0 Z = true := hw _ (List.mem_of_getElem? (i := 106) rfl)
theorem w107 {a0 : Array Value} {Z : State} (hw : HW a0 Z) : (Jvm.Cond.fieldLink "com/example/avain/avain/io/TokenEqualsPinLaw" (77 : Nat) "com/example/avain/avain/io/TokenKind" "END" "Lcom/example/avain/avain/io/TokenKind;").before a0 Z = true := hw _ (List.mem_of_getElem? (i := 107) rfl)
theorem w108 {a0 : Array Value} {Z : State} (hw : HW a0 Z) : (Jvm.Cond.laysStatic "com/example/avain/avain/io/TokenKind" "END" "Lcom/example/avain/avain/io/TokenKind;").before a0 Z = true := hw _ (List.mem_of_getElem? (i := 108) rfl)
theorem w109 {a0 : Array Value} {Z : State} (hw : HW a0 Z) : (Jvm.Cond.fieldLink "com/example/avain/avain/io/TokenEqualsPinLaw" (38 : Nat) "com/example/avain/avain/io/TokenKind" "COLON" "Lcom/example/avain/avain/io/TokenKind;").before a0 Z = true := hw _ (List.mem_of_getElem? (i := 109) rfl)
theorem w110 {a0 : Array Value} {Z : State} (hw : HW a0 Z) : (Jvm.Cond.laysStatic "com/example/avain/avain/io/TokenKind" "COLON" "Lcom/example/avain/avain/io/TokenKind;").before a0 Z = true := hw _ (List.mem_of_getElem? (i := 110) rfl)
theorem w111 {a0 : Array Value} {Z : State} (hw : HW a0 Z) : (Jvm.Cond.fieldLink "com/example/avain/avain/io/TokenEqualsPinLaw" (53 : Nat) "com/example/avain/avain/io/TokenKind" "LEFT_BRACE" "Lcom/example/avain/avain/io/TokenKind;").before a0 Z = true := hw _ (List.mem_of_getElem? (i := 111) rfl)
theorem w112 {a0 : Array Value} {Z : State} (hw : HW a0 Z) : (Jvm.Cond.laysStatic "com/example/avain/avain/io/TokenKind" "LEFT_BRACE" "Lcom/example/avain/avain/io/TokenKind;").before a0 Z = true := hw _ (List.mem_of_getElem? (i := 112) rfl)
theorem w113 {a0 : Array Value} {Z : State} (hw : HW a0 Z) : (Jvm.Cond.fieldLink "com/example/avain/avain/io/TokenEqualsPinLaw" (59 : Nat) "com/example/avain/avain/io/TokenKind" "LEFT_SEAL" "Lcom/example/avain/avain/io/TokenKind;").before a0 Z = true := hw _ (List.mem_of_getElem? (i := 113) rfl)
theorem w114 {a0 : Array Value} {Z : State} (hw : HW a0 Z) : (Jvm.Cond.laysStatic "com/example/avain/avain/io/TokenKind" "LEFT_SEAL" "Lcom/example/avain/avain/io/TokenKind;").before a0 Z = true := hw _ (List.mem_of_getElem? (i := 114) rfl)
theorem d1_0 : decode method_4_code 0 = .ok (.iload_n 0, 1) := by decide +kernel
theorem d1_1 : decode method_4_code 1 = .ok (.ifCond .ne 7, 3) := by decide +kernel
theorem d1_4 : decode method_4_code 4 = .ok (.getstatic 32, 3) := by decide +kernel
theorem d1_7 : decode method_4_code 7 = .ok (.areturn, 1) := by decide +kernel
theorem d1_8 : decode method_4_code 8 = .ok (.iload_n 0, 1) := by decide +kernel
theorem d1_9 : decode method_4_code 9 = .ok (.iconst 1, 1) := by decide +kernel
theorem d1_10 : decode method_4_code 10 = .ok (.if_icmp .ne 7, 3) := by decide +kernel
theorem d1_13 : decode method_4_code 13 = .ok (.getstatic 38, 3) := by decide +kernel
theorem d1_16 : decode method_4_code 16 = .ok (.areturn, 1) := by decide +kernel
theorem d1_17 : decode method_4_code 17 = .ok (.iload_n 0, 1) := by decide +kernel
theorem d1_18 : decode method_4_code 18 = .ok (.iconst 2, 1) := by decide +kernel
theorem d1_19 : decode method_4_code 19 = .ok (.if_icmp .ne 7, 3) := by decide +kernel
theorem d1_22 : decode method_4_code 22 = .ok (.getstatic 41, 3) := by decide +kernel
theorem d1_25 : decode method_4_code 25 = .ok (.areturn, 1) := by decide +kernel
theorem d1_26 : decode method_4_code 26 = .ok (.iload_n 0, 1) := by decide +kernel
theorem d1_27 : decode method_4_code 27 = .ok (.iconst 3, 1) := by decide +kernel
theorem d1_28 : decode method_4_code 28 = .ok (.if_icmp .ne 7, 3) := by decide +kernel
theorem d1_31 : decode method_4_code 31 = .ok (.getstatic 44, 3) := by decide +kernel
theorem d1_34 : decode method_4_code 34 = .ok (.areturn, 1) := by decide +kernel
theorem d1_35 : decode method_4_code 35 = .ok (.iload_n 0, 1) := by decide +kernel
theorem d1_36 : decode method_4_code 36 = .ok (.iconst 4, 1) := by decide +kernel
theorem d1_37 : decode method_4_code 37 = .ok (.if_icmp .ne 7, 3) := by decide +kernel
theorem d1_40 : decode method_4_code 40 = .ok (.getstatic 47, 3) := by decide +kernel
theorem d1_43 : decode method_4_code 43 = .ok (.areturn, 1) := by decide +kernel
theorem d1_44 : decode method_4_code 44 = .ok (.iload_n 0, 1) := by decide +kernel
theorem d1_45 : decode method_4_code 45 = .ok (.iconst 5, 1) := by decide +kernel
theorem d1_46 : decode method_4_code 46 = .ok (.if_icmp .ne 7, 3) := by decide +kernel
theorem d1_49 : decode method_4_code 49 = .ok (.getstatic 50, 3) := by decide +kernel
theorem d1_52 : decode method_4_code 52 = .ok (.areturn, 1) := by decide +kernel
theorem d1_53 : decode method_4_code 53 = .ok (.iload_n 0, 1) := by decide +kernel
theorem d1_54 : decode method_4_code 54 = .ok (.bipush 6, 2) := by decide +kernel
theorem d1_56 : decode method_4_code 56 = .ok (.if_icmp .ne 7, 3) := by decide +kernel
theorem d1_59 : decode method_4_code 59 = .ok (.getstatic 53, 3) := by decide +kernel
theorem d1_62 : decode method_4_code 62 = .ok (.areturn, 1) := by decide +kernel
theorem d1_63 : decode method_4_code 63 = .ok (.iload_n 0, 1) := by decide +kernel
theorem d1_64 : decode method_4_code 64 = .ok (.bipush 7, 2) := by decide +kernel
theorem d1_66 : decode method_4_code 66 = .ok (.if_icmp .ne 7, 3) := by decide +kernel
theorem d1_69 : decode method_4_code 69 = .ok (.getstatic 56, 3) := by decide +kernel
theorem d1_72 : decode method_4_code 72 = .ok (.areturn, 1) := by decide +kernel
theorem d1_73 : decode method_4_code 73 = .ok (.iload_n 0, 1) := by decide +kernel
theorem d1_74 : decode method_4_code 74 = .ok (.bipush 8, 2) := by decide +kernel
theorem d1_76 : decode method_4_code 76 = .ok (.if_icmp .ne 7, 3) := by decide +kernel
theorem d1_79 : decode method_4_code 79 = .ok (.getstatic 59, 3) := by decide +kernel
theorem d1_82 : decode method_4_code 82 = .ok (.areturn, 1) := by decide +kernel
theorem d1_83 : decode method_4_code 83 = .ok (.iload_n 0, 1) := by decide +kernel
theorem d1_84 : decode method_4_code 84 = .ok (.bipush 9, 2) := by decide +kernel
theorem d1_86 : decode method_4_code 86 = .ok (.if_icmp .ne 7, 3) := by decide +kernel
theorem d1_89 : decode method_4_code 89 = .ok (.getstatic 62, 3) := by decide +kernel
theorem d1_92 : decode method_4_code 92 = .ok (.areturn, 1) := by decide +kernel
theorem d1_93 : decode method_4_code 93 = .ok (.iload_n 0, 1) := by decide +kernel
theorem d1_94 : decode method_4_code 94 = .ok (.bipush 10, 2) := by decide +kernel
theorem d1_96 : decode method_4_code 96 = .ok (.if_icmp .ne 7, 3) := by decide +kernel
theorem d1_99 : decode method_4_code 99 = .ok (.getstatic 65, 3) := by decide +kernel
theorem d1_102 : decode method_4_code 102 = .ok (.areturn, 1) := by decide +kernel
theorem d1_103 : decode method_4_code 103 = .ok (.iload_n 0, 1) := by decide +kernel
theorem d1_104 : decode method_4_code 104 = .ok (.bipush 11, 2) := by decide +kernel
theorem d1_106 : decode method_4_code 106 = .ok (.if_icmp .ne 7, 3) := by decide +kernel
theorem d1_109 : decode method_4_code 109 = .ok (.getstatic 68, 3) := by decide +kernel
theorem d1_112 : decode method_4_code 112 = .ok (.areturn, 1) := by decide +kernel
theorem d1_113 : decode method_4_code 113 = .ok (.iload_n 0, 1) := by decide +kernel
theorem d1_114 : decode method_4_code 114 = .ok (.bipush 12, 2) := by decide +kernel
theorem d1_116 : decode method_4_code 116 = .ok (.if_icmp .ne 7, 3) := by decide +kernel
theorem d1_119 : decode method_4_code 119 = .ok (.getstatic 71, 3) := by decide +kernel
theorem d1_122 : decode method_4_code 122 = .ok (.areturn, 1) := by decide +kernel
theorem d1_123 : decode method_4_code 123 = .ok (.iload_n 0, 1) := by decide +kernel
theorem d1_124 : decode method_4_code 124 = .ok (.bipush 13, 2) := by decide +kernel
theorem d1_126 : decode method_4_code 126 = .ok (.if_icmp .ne 7, 3) := by decide +kernel
theorem d1_129 : decode method_4_code 129 = .ok (.getstatic 74, 3) := by decide +kernel
theorem d1_132 : decode method_4_code 132 = .ok (.areturn, 1) := by decide +kernel
theorem d1_133 : decode method_4_code 133 = .ok (.getstatic 77, 3) := by decide +kernel
theorem d1_136 : decode method_4_code 136 = .ok (.areturn, 1) := by decide +kernel
theorem d2_0 : decode method_3_code 0 = .ok (.iload_n 0, 1) := by decide +kernel
theorem d2_1 : decode method_3_code 1 = .ok (.ifCond .ne 10, 3) := by decide +kernel
theorem d2_4 : decode method_3_code 4 = .ok (.iconst 0, 1) := by decide +kernel
theorem d2_5 : decode method_3_code 5 = .ok (.newarray .char, 2) := by decide +kernel
theorem d2_7 : decode method_3_code 7 = .ok (.astore_n 3, 1) := by decide +kernel
theorem d2_8 : decode method_3_code 8 = .ok (.goto 31, 3) := by decide +kernel
theorem d2_11 : decode method_3_code 11 = .ok (.iload_n 0, 1) := by decide +kernel
theorem d2_12 : decode method_3_code 12 = .ok (.iconst 1, 1) := by decide +kernel
theorem d2_13 : decode method_3_code 13 = .ok (.if_icmp .ne 14, 3) := by decide +kernel
theorem d2_16 : decode method_3_code 16 = .ok (.iconst 1, 1) := by decide +kernel
theorem d2_17 : decode method_3_code 17 = .ok (.newarray .char, 2) := by decide +kernel
theorem d2_19 : decode method_3_code 19 = .ok (.dup, 1) := by decide +kernel
theorem d2_20 : decode method_3_code 20 = .ok (.iconst 0, 1) := by decide +kernel
theorem d2_21 : decode method_3_code 21 = .ok (.iload_n 1, 1) := by decide +kernel
theorem d2_22 : decode method_3_code 22 = .ok (.castore, 1) := by decide +kernel
theorem d2_23 : decode method_3_code 23 = .ok (.astore_n 3, 1) := by decide +kernel
theorem d2_24 : decode method_3_code 24 = .ok (.goto 15, 3) := by decide +kernel
theorem d2_27 : decode method_3_code 27 = .ok (.iconst 2, 1) := by decide +kernel
theorem d2_28 : decode method_3_code 28 = .ok (.newarray .char, 2) := by decide +kernel
theorem d2_30 : decode method_3_code 30 = .ok (.dup, 1) := by decide +kernel
theorem d2_31 : decode method_3_code 31 = .ok (.iconst 0, 1) := by decide +kernel
theorem d2_32 : decode method_3_code 32 = .ok (.iload_n 1, 1) := by decide +kernel
theorem d2_33 : decode method_3_code 33 = .ok (.castore, 1) := by decide +kernel
theorem d2_34 : decode method_3_code 34 = .ok (.dup, 1) := by decide +kernel
theorem d2_35 : decode method_3_code 35 = .ok (.iconst 1, 1) := by decide +kernel
theorem d2_36 : decode method_3_code 36 = .ok (.iload_n 2, 1) := by decide +kernel
theorem d2_37 : decode method_3_code 37 = .ok (.castore, 1) := by decide +kernel
theorem d2_38 : decode method_3_code 38 = .ok (.astore_n 3, 1) := by decide +kernel
theorem d2_39 : decode method_3_code 39 = .ok (.new 27, 3) := by decide +kernel
theorem d2_42 : decode method_3_code 42 = .ok (.dup, 1) := by decide +kernel
theorem d2_43 : decode method_3_code 43 = .ok (.aload_n 3, 1) := by decide +kernel
theorem d2_44 : decode method_3_code 44 = .ok (.invokespecial 29, 3) := by decide +kernel
theorem d2_47 : decode method_3_code 47 = .ok (.areturn, 1) := by decide +kernel
theorem d3_0 : decode jdk_42_method_3_code 0 = .ok (.aload_n 0, 1) := by decide +kernel
theorem d3_1 : decode jdk_42_method_3_code 1 = .ok (.aload_n 1, 1) := by decide +kernel
theorem d3_2 : decode jdk_42_method_3_code 2 = .ok (.iconst 0, 1) := by decide +kernel
theorem d3_3 : decode jdk_42_method_3_code 3 = .ok (.aload_n 1, 1) := by decide +kernel
theorem d3_4 : decode jdk_42_method_3_code 4 = .ok (.arraylength, 1) := by decide +kernel
theorem d3_5 : decode jdk_42_method_3_code 5 = .ok (.aconst_null, 1) := by decide +kernel
theorem d3_6 : decode jdk_42_method_3_code 6 = .ok (.invokespecial 27, 3) := by decide +kernel
theorem d3_9 : decode jdk_42_method_3_code 9 = .ok (.return_, 1) := by decide +kernel
theorem d4_0 : decode jdk_42_method_149_code 0 = .ok (.aload_n 0, 1) := by decide +kernel
theorem d4_1 : decode jdk_42_method_149_code 1 = .ok (.invokespecial 1, 3) := by decide +kernel
theorem d4_4 : decode jdk_42_method_149_code 4 = .ok (.iload_n 3, 1) := by decide +kernel
theorem d4_5 : decode jdk_42_method_149_code 5 = .ok (.ifCond .ne 22, 3) := by decide +kernel
theorem d4_8 : decode jdk_42_method_149_code 8 = .ok (.aload_n 0, 1) := by decide +kernel
theorem d4_9 : decode jdk_42_method_149_code 9 = .ok (.ldc 7, 2) := by decide +kernel
theorem d4_11 : decode jdk_42_method_149_code 11 = .ok (.getfield 9, 3) := by decide +kernel
theorem d4_14 : decode jdk_42_method_149_code 14 = .ok (.putfield 9, 3) := by decide +kernel
theorem d4_17 : decode jdk_42_method_149_code 17 = .ok (.aload_n 0, 1) := by decide +kernel
theorem d4_18 : decode jdk_42_method_149_code 18 = .ok (.ldc 7, 2) := by decide +kernel
theorem d4_20 : decode jdk_42_method_149_code 20 = .ok (.getfield 15, 3) := by decide +kernel
theorem d4_23 : decode jdk_42_method_149_code 23 = .ok (.putfield 15, 3) := by decide +kernel
theorem d4_26 : decode jdk_42_method_149_code 26 = .ok (.return_, 1) := by decide +kernel
theorem d6_0 : decode prog_39_method_1_code 0 = .ok (.aload_n 0, 1) := by decide +kernel
theorem d6_1 : decode prog_39_method_1_code 1 = .ok (.invokespecial 1, 3) := by decide +kernel
theorem d6_4 : decode prog_39_method_1_code 4 = .ok (.aload_n 0, 1) := by decide +kernel
theorem d6_5 : decode prog_39_method_1_code 5 = .ok (.aload_n 1, 1) := by decide +kernel
theorem d6_6 : decode prog_39_method_1_code 6 = .ok (.ldc 7, 2) := by decide +kernel
theorem d6_8 : decode prog_39_method_1_code 8 = .ok (.invokestatic 9, 3) := by decide +kernel
theorem d6_11 : decode prog_39_method_1_code 11 = .ok (.checkcast 15, 3) := by decide +kernel
theorem d6_14 : decode prog_39_method_1_code 14 = .ok (.putfield 17, 3) := by decide +kernel
theorem d6_17 : decode prog_39_method_1_code 17 = .ok (.aload_n 0, 1) := by decide +kernel
theorem d6_18 : decode prog_39_method_1_code 18 = .ok (.aload_n 2, 1) := by decide +kernel
theorem d6_19 : decode prog_39_method_1_code 19 = .ok (.ldc 22, 2) := by decide +kernel
theorem d6_21 : decode prog_39_method_1_code 21 = .ok (.invokestatic 9, 3) := by decide +kernel
theorem d6_24 : decode prog_39_method_1_code 24 = .ok (.checkcast 24, 3) := by decide +kernel
theorem d6_27 : decode prog_39_method_1_code 27 = .ok (.putfield 26, 3) := by decide +kernel
theorem d6_30 : decode prog_39_method_1_code 30 = .ok (.aload_n 0, 1) := by decide +kernel
theorem d6_31 : decode prog_39_method_1_code 31 = .ok (.iload_n 3, 1) := by decide +kernel
theorem d6_32 : decode prog_39_method_1_code 32 = .ok (.putfield 29, 3) := by decide +kernel
theorem d6_35 : decode prog_39_method_1_code 35 = .ok (.aload_n 0, 1) := by decide +kernel
theorem d6_36 : decode prog_39_method_1_code 36 = .ok (.iload 4, 2) := by decide +kernel
theorem d6_38 : decode prog_39_method_1_code 38 = .ok (.putfield 33, 3) := by decide +kernel
theorem d6_41 : decode prog_39_method_1_code 41 = .ok (.return_, 1) := by decide +kernel
theorem d7_0 : decode jdk_31_method_11_code 0 = .ok (.aload_n 0, 1) := by decide +kernel
theorem d7_1 : decode jdk_31_method_11_code 1 = .ok (.ifnonnull 12, 3) := by decide +kernel
theorem d7_13 : decode jdk_31_method_11_code 13 = .ok (.aload_n 0, 1) := by decide +kernel
theorem d7_14 : decode jdk_31_method_11_code 14 = .ok (.areturn, 1) := by decide +kernel
theorem d8_0 : decode prog_39_method_6_code 0 = .ok (.aload_n 1, 1) := by decide +kernel
theorem d8_1 : decode prog_39_method_6_code 1 = .ok (.instanceof 18, 3) := by decide +kernel
theorem d8_4 : decode prog_39_method_6_code 4 = .ok (.ifCond .ne 5, 3) := by decide +kernel
theorem d8_7 : decode prog_39_method_6_code 7 = .ok (.iconst 0, 1) := by decide +kernel
theorem d8_8 : decode prog_39_method_6_code 8 = .ok (.ireturn, 1) := by decide +kernel
theorem d8_9 : decode prog_39_method_6_code 9 = .ok (.aload_n 1, 1) := by decide +kernel
theorem d8_10 : decode prog_39_method_6_code 10 = .ok (.checkcast 18, 3) := by decide +kernel
theorem d8_13 : decode prog_39_method_6_code 13 = .ok (.astore_n 2, 1) := by decide +kernel
theorem d8_14 : decode prog_39_method_6_code 14 = .ok (.aload_n 0, 1) := by decide +kernel
theorem d8_15 : decode prog_39_method_6_code 15 = .ok (.getfield 17, 3) := by decide +kernel
theorem d8_18 : decode prog_39_method_6_code 18 = .ok (.aload_n 2, 1) := by decide +kernel
theorem d8_19 : decode prog_39_method_6_code 19 = .ok (.getfield 17, 3) := by decide +kernel
theorem d8_22 : decode prog_39_method_6_code 22 = .ok (.if_acmp .ne 43, 3) := by decide +kernel
theorem d8_25 : decode prog_39_method_6_code 25 = .ok (.aload_n 0, 1) := by decide +kernel
theorem d8_26 : decode prog_39_method_6_code 26 = .ok (.getfield 26, 3) := by decide +kernel
theorem d8_29 : decode prog_39_method_6_code 29 = .ok (.aload_n 2, 1) := by decide +kernel
theorem d8_30 : decode prog_39_method_6_code 30 = .ok (.getfield 26, 3) := by decide +kernel
theorem d8_33 : decode prog_39_method_6_code 33 = .ok (.invokevirtual 36, 3) := by decide +kernel
theorem d8_36 : decode prog_39_method_6_code 36 = .ok (.ifCond .eq 29, 3) := by decide +kernel
theorem d8_39 : decode prog_39_method_6_code 39 = .ok (.aload_n 0, 1) := by decide +kernel
theorem d8_40 : decode prog_39_method_6_code 40 = .ok (.getfield 29, 3) := by decide +kernel
theorem d8_43 : decode prog_39_method_6_code 43 = .ok (.aload_n 2, 1) := by decide +kernel
theorem d8_44 : decode prog_39_method_6_code 44 = .ok (.getfield 29, 3) := by decide +kernel
theorem d8_47 : decode prog_39_method_6_code 47 = .ok (.if_icmp .ne 18, 3) := by decide +kernel
theorem d8_50 : decode prog_39_method_6_code 50 = .ok (.aload_n 0, 1) := by decide +kernel
theorem d8_51 : decode prog_39_method_6_code 51 = .ok (.getfield 33, 3) := by decide +kernel
theorem d8_54 : decode prog_39_method_6_code 54 = .ok (.aload_n 2, 1) := by decide +kernel
theorem d8_55 : decode prog_39_method_6_code 55 = .ok (.getfield 33, 3) := by decide +kernel
theorem d8_58 : decode prog_39_method_6_code 58 = .ok (.if_icmp .ne 7, 3) := by decide +kernel
theorem d8_61 : decode prog_39_method_6_code 61 = .ok (.iconst 1, 1) := by decide +kernel
theorem d8_62 : decode prog_39_method_6_code 62 = .ok (.goto 4, 3) := by decide +kernel
theorem d8_65 : decode prog_39_method_6_code 65 = .ok (.iconst 0, 1) := by decide +kernel
theorem d8_66 : decode prog_39_method_6_code 66 = .ok (.ireturn, 1) := by decide +kernel
theorem pd_0 : parseMethodDescriptor "([CIILjava/lang/Void;)V" = some ⟨[(.array .char), .int, .int, (.object "java/lang/Void")], none⟩ := by decide +kernel
theorem pd_1 : parseMethodDescriptor "([C)V" = some ⟨[(.array .char)], none⟩ := by decide +kernel
theorem pd_2 : parseMethodDescriptor "(Ljava/lang/Object;Ljava/lang/String;)Ljava/lang/Object;" = some ⟨[(.object "java/lang/Object"), (.object "java/lang/String")], (some (.object "java/lang/Object"))⟩ := by decide +kernel
theorem pd_3 : parseMethodDescriptor "(Ljava/lang/Object;)Z" = some ⟨[(.object "java/lang/Object")], (some .boolean)⟩ := by decide +kernel
theorem pd_4 : parseMethodDescriptor "(I)Lcom/example/avain/avain/io/TokenKind;" = some ⟨[.int], (some (.object "com/example/avain/avain/io/TokenKind"))⟩ := by decide +kernel
theorem pd_5 : parseMethodDescriptor "(ICC)Ljava/lang/String;" = some ⟨[.int, .char, .char], (some (.object "java/lang/String"))⟩ := by decide +kernel
theorem pd_6 : parseMethodDescriptor "(Lcom/example/avain/avain/io/TokenKind;Ljava/lang/String;II)V" = some ⟨[(.object "com/example/avain/avain/io/TokenKind"), (.object "java/lang/String"), .int, .int], none⟩ := by decide +kernel
theorem pn_0 : plainName "java/lang/String" = true := by first | (simp [plainName, overriddenIn]; done) | decide +kernel
theorem pn_1 : plainName "java/util/Objects" = true := by first | (simp [plainName, overriddenIn]; done) | decide +kernel
theorem pn_2 : plainName "com/example/avain/avain/io/TokenEqualsPinLaw" = true := by first | (simp [plainName, overriddenIn]; done) | decide +kernel
theorem pn_3 : plainName "com/example/avain/avain/io/Token" = true := by first | (simp [plainName, overriddenIn]; done) | decide +kernel
theorem hws {a0 : Array Value} {Z : State} (hw : HW a0 Z) : ∀ d ∈ StrChars.Road.words, d.before a0 Z = true := fun d hd => hw d ((by decide +kernel : ∀ d ∈ StrChars.Road.words, d ∈ tables_1) d hd)
theorem heq {a0 : Array Value} {Z : State} (hw : HW a0 Z) : ∀ d ∈ StrChars.Road.wordsEq, d.before a0 Z = true := fun d hd => hw d ((by decide +kernel : ∀ d ∈ StrChars.Road.wordsEq, d ∈ tables_1) d hd)
theorem ew {a0 : Array Value} {Z : State} (hw : HW a0 Z) : EW Z a0 consts_1 := (EW.cons (w40 hw) (by decide) (EW.cons (w49 hw) (by decide) (EW.cons (w28 hw) (by decide) EW.nil)))
theorem wS {a0 : Array Value} {Z : State} (hw : HW a0 Z) : ∀ a ∈ Bundle.stringAtoms, a.before a0 Z = true := fun d hd => hw d ((by decide +kernel : ∀ d ∈ Bundle.stringAtoms, d ∈ tables_1) d hd)
def strf (n c0 c1 : Int32) : List Int32 := if n = (0 : Int32) then [] else if n = (1 : Int32) then [c0] else [c0, c1]
theorem strf_len (n c0 c1 : Int32) : (strf n c0 c1).length ≤ 4000 := by
  unfold strf
  split
  · exact Nat.le_of_ble_eq_true rfl
  · split <;> exact Nat.le_of_ble_eq_true rfl
theorem strf_eq {n m a b c d : Int32} (hn : n = 0 ∨ n = 1 ∨ n = 2) (hm : m = 0 ∨ m = 1 ∨ m = 2) : strf n a b = strf m c d ↔ n = m ∧ (n < 1 ∨ a = c) ∧ (n < 2 ∨ b = d) := by
  rcases hn with rfl | rfl | rfl <;> rcases hm with rfl | rfl | rfl <;> simp [strf] <;> decide
theorem rem3 {x : Int32} (q : 0 ≤ x.toInt) : x % (3 : Int32) = 0 ∨ x % (3 : Int32) = 1 ∨ x % (3 : Int32) = 2 := by
  have r := (c_irem x 3 3 (by decide)).1 q
  simp only [← Int32.toInt_inj]
  generalize (x % (3 : Int32)).toInt = y at *
  show y = 0 ∨ y = 1 ∨ y = 2
  omega
theorem nonneg_and (x : Int32) {m : Int32} (q : 0 ≤ m.toInt) : 0 ≤ (x &&& m).toInt := (c_and x m q).1
theorem pick {r : Int32} {P : Prop} (hr : (r = 1 ∧ P) ∨ (r = 0 ∧ ¬ P)) (q : P) : r = 1 := hr.elim (fun z => z.1) (fun z => absurd q z.2)
theorem pick0 {r : Int32} {P : Prop} (hr : (r = 1 ∧ P) ∨ (r = 0 ∧ ¬ P)) (q : ¬ P) : r = 0 := hr.elim (fun z => absurd z.2 q) (fun z => z.1)
def kf (a0 a1 a2 a3 a4 a5 a6 a7 a8 a9 a10 a11 a12 a13 a14 : Addr) (k : Int32) : Addr := if k = (0 : Int32) then a0 else if k = (1 : Int32) then a1 else if k = (2 : Int32) then a2 else if k = (3 : Int32) then a3 else if k = (4 : Int32) then a4 else if k = (5 : Int32) then a5 else if k = (6 : Int32) then a6 else if k = (7 : Int32) then a7 else if k = (8 : Int32) then a8 else if k = (9 : Int32) then a9 else if k = (10 : Int32) then a10 else if k = (11 : Int32) then a11 else if k = (12 : Int32) then a12 else if k = (13 : Int32) then a13 else a14
abbrev inK (k : Int32) : Prop := k = 0 ∨ k = 1 ∨ k = 2 ∨ k = 3 ∨ k = 4 ∨ k = 5 ∨ k = 6 ∨ k = 7 ∨ k = 8 ∨ k = 9 ∨ k = 10 ∨ k = 11 ∨ k = 12 ∨ k = 13 ∨ k = 14
theorem kf_ord {Z : State} {h : Heap} {a0 a1 a2 a3 a4 a5 a6 a7 a8 a9 a10 a11 a12 a13 a14 : Addr} (F0 : Fld Z h a0 "java/lang/Enum" "ordinal" "I" (.int (0 : Int32))) (F1 : Fld Z h a1 "java/lang/Enum" "ordinal" "I" (.int (1 : Int32))) (F2 : Fld Z h a2 "java/lang/Enum" "ordinal" "I" (.int (2 : Int32))) (F3 : Fld Z h a3 "java/lang/Enum" "ordinal" "I" (.int (3 : Int32))) (F4 : Fld Z h a4 "java/lang/Enum" "ordinal" "I" (.int (4 : Int32))) (F5 : Fld Z h a5 "java/lang/Enum" "ordinal" "I" (.int (5 : Int32))) (F6 : Fld Z h a6 "java/lang/Enum" "ordinal" "I" (.int (6 : Int32))) (F7 : Fld Z h a7 "java/lang/Enum" "ordinal" "I" (.int (7 : Int32))) (F8 : Fld Z h a8 "java/lang/Enum" "ordinal" "I" (.int (8 : Int32))) (F9 : Fld Z h a9 "java/lang/Enum" "ordinal" "I" (.int (9 : Int32))) (F10 : Fld Z h a10 "java/lang/Enum" "ordinal" "I" (.int (10 : Int32))) (F11 : Fld Z h a11 "java/lang/Enum" "ordinal" "I" (.int (11 : Int32))) (F12 : Fld Z h a12 "java/lang/Enum" "ordinal" "I" (.int (12 : Int32))) (F13 : Fld Z h a13 "java/lang/Enum" "ordinal" "I" (.int (13 : Int32))) (F14 : Fld Z h a14 "java/lang/Enum" "ordinal" "I" (.int (14 : Int32))) {k : Int32} (q : inK k) : Fld Z h (kf a0 a1 a2 a3 a4 a5 a6 a7 a8 a9 a10 a11 a12 a13 a14 k) "java/lang/Enum" "ordinal" "I" (.int k) := by
  rcases q with rfl | rfl | rfl | rfl | rfl | rfl | rfl | rfl | rfl | rfl | rfl | rfl | rfl | rfl | rfl
  · simpa [kf] using F0
  · simpa [kf] using F1
  · simpa [kf] using F2
  · simpa [kf] using F3
  · simpa [kf] using F4
  · simpa [kf] using F5
  · simpa [kf] using F6
  · simpa [kf] using F7
  · simpa [kf] using F8
  · simpa [kf] using F9
  · simpa [kf] using F10
  · simpa [kf] using F11
  · simpa [kf] using F12
  · simpa [kf] using F13
  · simpa [kf] using F14
theorem kf_eq {Z : State} {h : Heap} {f : Int32 → Addr} (H : ∀ k, inK k → Fld Z h (f k) "java/lang/Enum" "ordinal" "I" (.int k)) {j k : Int32} (qj : inK j) (qk : inK k) : f j = f k ↔ j = k := by
  refine ⟨fun e => Classical.byContradiction fun ne => ?_, fun e => by rw [e]⟩
  exact Fld.ne (H j qj) (H k qk) (fun z => ne (Value.int.inj z)) e
theorem rem15 {x : Int32} (q : 0 ≤ x.toInt) : inK (x % (15 : Int32)) := by
  have r := (c_irem x 15 15 (by decide)).1 q
  unfold inK
  simp only [← Int32.toInt_inj]
  generalize (x % (15 : Int32)).toInt = y at *
  show y = 0 ∨ y = 1 ∨ y = 2 ∨ y = 3 ∨ y = 4 ∨ y = 5 ∨ y = 6 ∨ y = 7 ∨ y = 8 ∨ y = 9 ∨ y = 10 ∨ y = 11 ∨ y = 12 ∨ y = 13 ∨ y = 14
  omega
theorem psm {s : Int32} {P : Prop} (h : (s = 1 ∧ P) ∨ (s = 0 ∧ ¬ P)) (q : ¬ s = 0) : P := h.elim (fun z => z.2) (fun z => absurd z.1 q)
theorem psm0 {s : Int32} {P : Prop} (h : (s = 1 ∧ P) ∨ (s = 0 ∧ ¬ P)) (q : s = 0) : ¬ P := h.elim (fun z => absurd (z.1.symm.trans q) (by decide)) (fun z => z.2)
theorem same2 {r s : Int32} {P Q : Prop} (h : (r = 1 ∧ P) ∨ (r = 0 ∧ ¬ P)) (g : (s = 1 ∧ Q) ∨ (s = 0 ∧ ¬ Q)) (e : P ↔ Q) : r = s := by
  rcases h with ⟨rfl, p⟩ | ⟨rfl, p⟩ <;> rcases g with ⟨rfl, q⟩ | ⟨rfl, q⟩
  · rfl
  · exact absurd (e.mp p) q
  · exact absurd (e.mpr q) p
  · rfl
theorem flip2 {k1 k2 n1 n2 u0 u1 v0 v1 l m l2 m2 : Int32} : (k2 = k1 ∧ (n2 = n1 ∧ (n2 < 1 ∨ v0 = u0) ∧ (n2 < 2 ∨ v1 = u1)) ∧ l2 = l ∧ m2 = m) ↔ (k1 = k2 ∧ (n1 = n2 ∧ (n1 < 1 ∨ u0 = v0) ∧ (n1 < 2 ∨ u1 = v1)) ∧ l = l2 ∧ m = m2) := by
  constructor
  · rintro ⟨rfl, ⟨rfl, p, q⟩, rfl, rfl⟩; exact ⟨rfl, ⟨rfl, p.imp id Eq.symm, q.imp id Eq.symm⟩, rfl, rfl⟩
  · rintro ⟨rfl, ⟨rfl, p, q⟩, rfl, rfl⟩; exact ⟨rfl, ⟨rfl, p.imp id Eq.symm, q.imp id Eq.symm⟩, rfl, rfl⟩
theorem kf_exa {Z : State} {h : Heap} {C : String} {a0 a1 a2 a3 a4 a5 a6 a7 a8 a9 a10 a11 a12 a13 a14 : Addr} (X0 : Exa Z h a0 C) (X1 : Exa Z h a1 C) (X2 : Exa Z h a2 C) (X3 : Exa Z h a3 C) (X4 : Exa Z h a4 C) (X5 : Exa Z h a5 C) (X6 : Exa Z h a6 C) (X7 : Exa Z h a7 C) (X8 : Exa Z h a8 C) (X9 : Exa Z h a9 C) (X10 : Exa Z h a10 C) (X11 : Exa Z h a11 C) (X12 : Exa Z h a12 C) (X13 : Exa Z h a13 C) (X14 : Exa Z h a14 C) {k : Int32} (q : inK k) : Exa Z h (kf a0 a1 a2 a3 a4 a5 a6 a7 a8 a9 a10 a11 a12 a13 a14 k) C := by
  rcases q with rfl | rfl | rfl | rfl | rfl | rfl | rfl | rfl | rfl | rfl | rfl | rfl | rfl | rfl | rfl
  · simpa [kf] using X0
  · simpa [kf] using X1
  · simpa [kf] using X2
  · simpa [kf] using X3
  · simpa [kf] using X4
  · simpa [kf] using X5
  · simpa [kf] using X6
  · simpa [kf] using X7
  · simpa [kf] using X8
  · simpa [kf] using X9
  · simpa [kf] using X10
  · simpa [kf] using X11
  · simpa [kf] using X12
  · simpa [kf] using X13
  · simpa [kf] using X14
abbrev G_new4e (md : Md) (l : Launch) (Z : State) (n0 : Nat) (x b : Addr) (h0 : Heap) := Go md l Z n0 ({ frames := 1, cells := 4, slots := 8, locals := 12 } : Room) jdk_42_method_149_code 6 none "java/lang/String" "<init>" (fun v h' _ => v = none ∧ Keep h0 h' [x] ∧ Str Z h' x [])
theorem ef_new4e (m : MethodId) (x b : Addr) : entryFrame m #[(.ref x), (.ref b), (.int (0 : Int32)), (.int (0 : Int32)), .null] 6 = mkF m 0 #[.val (.ref x), .val (.ref b), .val (.int (0 : Int32)), .val (.int (0 : Int32)), .val .null, .unset] [] := by first | (simp [entryFrame, mkF, argsToLocals, Value.category]; done) | rfl
set_option maxRecDepth 65536 in
set_option maxHeartbeats 40000000 in
theorem c_new4e {l : Launch} {Z : State} {n0 : Nat} {a0 : Array Value} (hw : HW a0 Z) (x b : Addr) {h0 : Heap} (E : Exa Z h0 x "java/lang/String") (n0x : n0 ≤ x) {v0 c0 : Value} (V : Fld Z h0 x "java/lang/String" "value" "[B" v0) (C : Fld Z h0 x "java/lang/String" "coder" "B" c0) : G_new4e (some consts_1) l Z n0 x b h0 0 0 [x] h0 0 #[.val (.ref x), .val (.ref b), .val (.int (0 : Int32)), .val (.int (0 : Int32)), .val .null, .unset] [] := by
  refine Go.aloadN 1 d4_0 rfl rfl rfl ?_
  refine Go.initO (W := 0) 4 d4_1 rfl (w25 hw) (w26 hw) (w27 hw) rfl (by decide) (Nat.le_of_ble_eq_true rfl) (by decide) ?_
  refine Go.iloadN 5 d4_4 rfl rfl ?_
  refine Go.ifN 8 d4_5 rfl (teq (by decide)).2 ?_
  refine Go.aloadN 9 d4_8 rfl rfl rfl ?_
  refine Go.ldcL (vs := []) (z := (0 : Int32)) 0 11 d4_9 rfl (w28 hw) (wS hw) (List.mem_of_getElem? (i := 2) rfl) ⟨by decide, rfl⟩ (by decide) (by decide) (by decide) (by decide) (Nat.le_of_ble_eq_true rfl) (Nat.le_of_ble_eq_true rfl) (fun h_1 s_2 b_3 k_4 E_5 A_6 C_7 V_8 B_9 ne_10 => ?_)
  have B_11 : Ary Z h_1 b_3 .byte [] := Ary.ofArv B_9 rfl (by decide)
  have S_12 : Str Z h_1 s_2 [] := ⟨_, A_6, C_7, V_8, B_11, by unfold Lat; decide⟩
  show G_new4e (some consts_1) l Z n0 x b h0 2 4 [x] h_1 11 #[.val (.ref x), .val (.ref b), .val (.int (0 : Int32)), .val (.int (0 : Int32)), .val .null, .unset] [(.ref s_2), (.ref x)]
  refine Go.getF 14 d4_11 rfl (w34 hw) Via.refl V_8 ?_
  have f_13 := E.ext E_5
  have f_14 := V.ext E_5
  refine Go.putF 17 (.ref b_3) d4_14 rfl (w34 hw) Via.refl f_14 f_13 (Or.inr ⟨(w30 hw), rfl, rfl⟩) (w16 hw) (ty := (.array .byte)) (by decide) rfl rfl (List.mem_of_getElem? (i := 0) rfl) n0x (fun h_15 W_16 => ?_)
  refine Go.aloadN 18 d4_17 rfl rfl rfl ?_
  refine Go.ldcL (vs := []) (z := (0 : Int32)) 0 20 d4_18 rfl (w28 hw) (wS hw) (List.mem_of_getElem? (i := 2) rfl) ⟨by decide, rfl⟩ (by decide) (by decide) (by decide) (by decide) (Nat.le_of_ble_eq_true rfl) (Nat.le_of_ble_eq_true rfl) (fun h_17 s_18 b_19 k_20 E_21 A_22 C_23 V_24 B_25 ne_26 => ?_)
  have B_27 : Ary Z h_17 b_19 .byte [] := Ary.ofArv B_25 rfl (by decide)
  have S_28 : Str Z h_17 s_18 [] := ⟨_, A_22, C_23, V_24, B_27, by unfold Lat; decide⟩
  show G_new4e (some consts_1) l Z n0 x b h0 4 8 [x] h_17 20 #[.val (.ref x), .val (.ref b), .val (.int (0 : Int32)), .val (.int (0 : Int32)), .val .null, .unset] [(.ref s_18), (.ref x)]
  refine Go.getF 23 d4_20 rfl (w35 hw) Via.refl C_23 ?_
  have f_29 := ((f_13.wr W_16).ext E_21)
  have f_30 := (((C.ext E_5).other W_16 (Or.inr (slot_ne (Or.inr (w31 hw)) (Or.inr (w30 hw)) (by decide) (t := .byte) (t' := (.array .byte)) (by decide) (by decide)))).ext E_21)
  refine Go.putF 26 (.int (0 : Int32)) d4_23 rfl (w35 hw) Via.refl f_30 f_29 (Or.inr ⟨(w31 hw), rfl, rfl⟩) (w16 hw) (ty := .byte) (by decide) rfl rfl (List.mem_of_getElem? (i := 0) rfl) n0x (fun h_31 W_32 => ?_)
  have f_33 := (f_29.wr W_32)
  have f_34 := (((f_14.same W_16).ext E_21).other W_32 (Or.inr (slot_ne (Or.inr (w30 hw)) (Or.inr (w31 hw)) (by decide) (t := (.array .byte)) (t' := .byte) (by decide) (by decide))))
  have f_35 := (((B_11.other W_16 (Ne.symm (ne_10 x (List.mem_of_getElem? (i := 0) rfl)).2)).ext E_21).other W_32 (Ne.symm (ne_10 x (List.mem_of_getElem? (i := 0) rfl)).2))
  exact Go.ret0 d4_26 rfl (sf' := []) (⟨rfl, (((((Keep.refl h0 [x]).ext E_5).wr W_16 (Or.inl (List.mem_of_getElem? (i := 0) rfl))).ext E_21).wr W_32 (Or.inl (List.mem_of_getElem? (i := 0) rfl))), _, f_33, (f_30.same W_32), f_34, f_35, latN⟩) (fun _ q => nomatch q) (Nat.le_of_ble_eq_true rfl) (Nat.le_of_ble_eq_true rfl)
abbrev G_new1e (md : Md) (l : Launch) (Z : State) (n0 : Nat) (x b : Addr) (h0 : Heap) := Go md l Z n0 ({ frames := 2, cells := 4, slots := 8, locals := 29 } : Room) jdk_42_method_3_code 2 none "java/lang/String" "<init>" (fun v h' _ => v = none ∧ Keep h0 h' [x] ∧ Str Z h' x [])
theorem ef_new1e (m : MethodId) (x b : Addr) : entryFrame m #[(.ref x), (.ref b)] 2 = mkF m 0 #[.val (.ref x), .val (.ref b)] [] := by first | (simp [entryFrame, mkF, argsToLocals, Value.category]; done) | rfl
set_option maxRecDepth 65536 in
set_option maxHeartbeats 40000000 in
theorem c_new1e {l : Launch} {Z : State} {n0 : Nat} {a0 : Array Value} (hw : HW a0 Z) (x b : Addr) {h0 : Heap} (E : Exa Z h0 x "java/lang/String") (n0x : n0 ≤ x) {v0 c0 : Value} (V : Fld Z h0 x "java/lang/String" "value" "[B" v0) (C : Fld Z h0 x "java/lang/String" "coder" "B" c0) (A : Ary Z h0 b .char []) : G_new1e (some consts_1) l Z n0 x b h0 0 0 [x] h0 0 #[.val (.ref x), .val (.ref b)] [] := by
  refine Go.aloadN 1 d3_0 rfl rfl rfl ?_
  refine Go.aloadN 2 d3_1 rfl rfl rfl ?_
  refine Go.iconst 3 (0 : Int32) d3_2 rfl rfl ?_
  refine Go.aloadN 4 d3_3 rfl rfl rfl ?_
  refine Go.alen 5 (0 : Int32) d3_4 rfl A rfl ?_
  refine Go.aconstNull 6 d3_5 rfl ?_
  refine Go.callC (S := []) (a := x) 9 [(.ref b), (.int (0 : Int32)), (.int (0 : Int32)), .null] d3_6 rfl rfl rfl (w21 hw) (w22 hw) (w24 hw) (by decide) (call_of_go (R := _) (len := 3) (W := 0) pn_0 (fun m => ef_new4e m x b) (c_new4e hw x b E n0x V C) (w24 hw) (w17 hw) (by decide) (by decide)) (lenOf pd_0 rfl) (Nat.le_of_ble_eq_true rfl) rfl (Nat.le_of_ble_eq_true rfl) (Nat.le_of_ble_eq_true rfl) (sub1 (List.mem_of_getElem? (i := 0) rfl)) (fun v h_1 sf_2 hq => ?_)
  obtain ⟨rfl, K2, S2⟩ := hq
  refine Go.more (sf' := [x]) ?_ (Nat.le_refl _) (Nat.le_refl _) (fun _ q => List.mem_append_right _ q)
  show G_new1e (some consts_1) l Z n0 x b h0 4 8 [x] h_1 9 #[.val (.ref x), .val (.ref b)] []
  exact Go.ret0 d3_9 rfl (sf' := []) (⟨rfl, K2, S2⟩) (fun _ q => nomatch q) (Nat.le_of_ble_eq_true rfl) (Nat.le_of_ble_eq_true rfl)
abbrev G_str (md : Md) (l : Launch) (Z : State) (n0 : Nat) (n : Int32) (c0 : Int32) (c1 : Int32) (z : Int32) (h0 : Heap) := Go md l Z n0 ({ frames := 4, cells := 6, slots := 12, locals := 66 } : Room) method_3_code 4 (some (.object "java/lang/String")) "com/example/avain/avain/io/TokenEqualsPinLaw" "str" (fun v h' _ => ∃ x, v = some (.ref x) ∧ Ext h0 h' ∧ h0.size ≤ x ∧ Str Z h' x (strf n c0 c1))
theorem ef_str (m : MethodId) (n : Int32) (c0 : Int32) (c1 : Int32) (z : Int32) : entryFrame m #[(.int n), (.int c0), (.int c1)] 4 = mkF m 0 #[.val (.int n), .val (.int c0), .val (.int c1), .unset] [] := by first | (simp [entryFrame, mkF, argsToLocals, Value.category]; done) | rfl
set_option maxRecDepth 65536 in
set_option maxHeartbeats 40000000 in
theorem c_str {l : Launch} {Z : State} {n0 : Nat} {a0 : Array Value} (hw : HW a0 Z) (n : Int32) (c0 : Int32) (c1 : Int32) (z : Int32) {h0 : Heap} (b_c0 : ¬ c0 < 0 ∧ ¬ (255 : Int32) < c0) (b_c1 : ¬ c1 < 0 ∧ ¬ (255 : Int32) < c1) (SC : Sta Z Z.heap "java/lang/String" "COMPACT_STRINGS" "Z" (.int z)) (hz : ¬ z = 0) : G_str (some consts_1) l Z n0 n c0 c1 z h0 0 0 [] h0 0 #[.val (.int n), .val (.int c0), .val (.int c1), .unset] [] := by
  refine Go.iloadN 1 d2_0 rfl rfl ?_
  by_cases hc1 : n = (0 : Int32)
  · skip
    refine Go.ifN 4 d2_1 rfl (teq hc1).2 ?_
    refine Go.iconst 5 (0 : Int32) d2_4 rfl rfl ?_
    refine Go.newA 0 7 d2_5 rfl rfl (w14 hw) (by decide) 0 (Nat.le_refl _) (by decide) (Nat.le_of_ble_eq_true rfl) (Nat.le_of_ble_eq_true rfl) (fun h_1 x_2 g_3 q_4 E_5 lt_6 A_7 => ?_)
    have A_8 : Ary Z h_1 x_2 .char [] := A_7
    show G_str (some consts_1) l Z n0 n c0 c1 z h0 1 0 [x_2] h_1 7 #[.val (.int n), .val (.int c0), .val (.int c1), .unset] [(.ref x_2)]
    refine Go.astoreN 8 #[.val (.int n), .val (.int c0), .val (.int c1), .val (.ref x_2)] d2_7 rfl rfl rfl ?_
    refine Go.goto 39 d2_8 (by decide) (by decide) ?_
    refine Go.new 42 d2_39 rfl (w15 hw) (w16 hw) (w17 hw) (Nat.le_of_ble_eq_true rfl) (Nat.le_of_ble_eq_true rfl) (fun h_9 x_10 g_11 q_12 E_13 lt_14 A_15 D_16 => ?_)
    show G_str (some consts_1) l Z n0 n c0 c1 z h0 2 4 [x_10, x_2] h_9 42 #[.val (.int n), .val (.int c0), .val (.int c1), .val (.ref x_2)] [(.ref x_10)]
    refine Go.dup 43 d2_42 rfl rfl ?_
    refine Go.aloadN 44 d2_43 rfl rfl rfl ?_
    have f_17 := A_8.ext E_13
    refine Go.callC (S := [(.ref x_10)]) (a := x_10) 47 [(.ref x_2)] d2_44 rfl rfl rfl (w18 hw) (w19 hw) (w20 hw) (by decide) (call_of_go (R := _) (len := 3) (W := 1) pn_0 (fun m => ef_new1e m x_10 x_2) (c_new1e hw x_10 x_2 A_15 q_12 (D_16 (Or.inr (w30 hw)) (ty := (.array .byte)) (by decide)) (D_16 (Or.inr (w31 hw)) (ty := .byte) (by decide)) f_17) (w20 hw) (w17 hw) (by decide) (by decide)) (lenOf pd_1 rfl) (Nat.le_of_ble_eq_true rfl) rfl (Nat.le_of_ble_eq_true rfl) (Nat.le_of_ble_eq_true rfl) (sub1 (List.mem_of_getElem? (i := 0) rfl)) (fun v h_18 sf_21 hq => ?_)
    obtain ⟨rfl, K_19, S_20⟩ := hq
    refine Go.more (sf' := [x_10, x_2]) ?_ (Nat.le_refl _) (Nat.le_refl _) (fun _ q => List.mem_append_right _ q)
    show G_str (some consts_1) l Z n0 n c0 c1 z h0 6 12 [x_10, x_2] h_18 47 #[.val (.int n), .val (.int c0), .val (.int c1), .val (.ref x_2)] [(.ref x_10)]
    have X_22 : Ext h0 h_9 := extT E_5 E_13
    have X_23 : Ext h0 h_18 := extK X_22 K_19 (allS (Nat.le_trans E_5.1 (Nat.le_of_eq g_11)) all0)
    exact Go.retA d2_47 rfl rfl rfl (sf' := []) (⟨_, rfl, X_23, (Nat.le_trans E_5.1 (Nat.le_of_eq g_11)), by rw [strf, if_pos hc1]; exact S_20⟩) (fun _ q => nomatch q) (Nat.le_of_ble_eq_true rfl) (Nat.le_of_ble_eq_true rfl)
  · skip
    refine Go.ifY 11 d2_1 (by decide) (by decide) (feq hc1).2 ?_
    refine Go.iloadN 12 d2_11 rfl rfl ?_
    refine Go.iconst 13 (1 : Int32) d2_12 rfl rfl ?_
    by_cases hc13 : n = (1 : Int32)
    · skip
      refine Go.icmpN 16 d2_13 rfl (teq hc13).2 ?_
      refine Go.iconst 17 (1 : Int32) d2_16 rfl rfl ?_
      refine Go.newA 1 19 d2_17 rfl rfl (w14 hw) (by decide) 1 (Nat.le_refl _) (by decide) (Nat.le_of_ble_eq_true rfl) (Nat.le_of_ble_eq_true rfl) (fun h_24 x_25 g_26 q_27 E_28 lt_29 A_30 => ?_)
      have A_31 : Ary Z h_24 x_25 .char [(.int (0 : Int32))] := A_30
      show G_str (some consts_1) l Z n0 n c0 c1 z h0 1 1 [x_25] h_24 19 #[.val (.int n), .val (.int c0), .val (.int c1), .unset] [(.ref x_25)]
      refine Go.dup 20 d2_19 rfl rfl ?_
      refine Go.iconst 21 (0 : Int32) d2_20 rfl rfl ?_
      refine Go.iloadN 22 d2_21 rfl rfl ?_
      refine Go.castore 0 23 d2_22 rfl A_31 (by decide) (Nat.le_of_ble_eq_true rfl) (List.mem_of_getElem? (i := 0) rfl) q_27 (fun h_32 W_33 A_34 => ?_)
      have A_35 : Ary Z h_32 x_25 .char [(.int c0)] := by have := A_34; rw [nar_c b_c0] at this; exact this
      refine Go.astoreN 24 #[.val (.int n), .val (.int c0), .val (.int c1), .val (.ref x_25)] d2_23 rfl rfl rfl ?_
      refine Go.goto 39 d2_24 (by decide) (by decide) ?_
      refine Go.new 42 d2_39 rfl (w15 hw) (w16 hw) (w17 hw) (Nat.le_of_ble_eq_true rfl) (Nat.le_of_ble_eq_true rfl) (fun h_36 x_37 g_38 q_39 E_40 lt_41 A_42 D_43 => ?_)
      show G_str (some consts_1) l Z n0 n c0 c1 z h0 2 5 [x_37, x_25] h_36 42 #[.val (.int n), .val (.int c0), .val (.int c1), .val (.ref x_25)] [(.ref x_37)]
      refine Go.dup 43 d2_42 rfl rfl ?_
      refine Go.aloadN 44 d2_43 rfl rfl rfl ?_
      have f_44 := A_35.ext E_40
      refine Go.old fun o_48 _ => ?_
      refine Go.callC (S := [(.ref x_37)]) (a := x_37) 47 [(.ref x_25)] d2_44 rfl rfl rfl (w18 hw) (w19 hw) (w20 hw) (by decide) (strNew (W := 1) (cs := [c0]) (hws hw) (w16 hw) q_39 o_48 A_42 (D_43 (Or.inr (w30 hw)) (ty := (.array .byte)) (by decide)) (D_43 (Or.inr (w31 hw)) (ty := .byte) (by decide)) f_44 SC hz 1 rfl (by decide) (by decide) (lat1 b_c0) (by decide) (by decide) (List.mem_of_getElem? (i := 0) rfl)) (lenOf pd_1 rfl) (Nat.le_of_ble_eq_true rfl) rfl (Nat.le_of_ble_eq_true rfl) (Nat.le_of_ble_eq_true rfl) (fun _ q => q) (fun v h_45 sf_49 hq => ?_)
      obtain ⟨rfl, K_46, S_47⟩ := hq
      refine Go.more (sf' := [x_37, x_25]) ?_ (Nat.le_refl _) (Nat.le_refl _) (fun _ q => List.mem_append_right _ q)
      show G_str (some consts_1) l Z n0 n c0 c1 z h0 3 6 [x_37, x_25] h_45 47 #[.val (.int n), .val (.int c0), .val (.int c1), .val (.ref x_25)] [(.ref x_37)]
      have X_50 : Ext h0 h_32 := extW E_28 W_33 (Nat.le_of_eq g_26)
      have X_51 : Ext h0 h_36 := extT X_50 E_40
      have X_52 : Ext h0 h_45 := extK X_51 K_46 (allS (Nat.le_trans X_50.1 (Nat.le_of_eq g_38)) all0)
      exact Go.retA d2_47 rfl rfl rfl (sf' := []) (⟨_, rfl, X_52, (Nat.le_trans X_50.1 (Nat.le_of_eq g_38)), by rw [strf, if_neg hc1, if_pos hc13]; exact S_47⟩) (fun _ q => nomatch q) (Nat.le_of_ble_eq_true rfl) (Nat.le_of_ble_eq_true rfl)
    · skip
      refine Go.icmpY 27 d2_13 (by decide) (by decide) (feq hc13).2 ?_
      refine Go.iconst 28 (2 : Int32) d2_27 rfl rfl ?_
      refine Go.newA 2 30 d2_28 rfl rfl (w14 hw) (by decide) 2 (Nat.le_refl _) (by decide) (Nat.le_of_ble_eq_true rfl) (Nat.le_of_ble_eq_true rfl) (fun h_53 x_54 g_55 q_56 E_57 lt_58 A_59 => ?_)
      have A_60 : Ary Z h_53 x_54 .char [(.int (0 : Int32)), (.int (0 : Int32))] := A_59
      show G_str (some consts_1) l Z n0 n c0 c1 z h0 1 2 [x_54] h_53 30 #[.val (.int n), .val (.int c0), .val (.int c1), .unset] [(.ref x_54)]
      refine Go.dup 31 d2_30 rfl rfl ?_
      refine Go.iconst 32 (0 : Int32) d2_31 rfl rfl ?_
      refine Go.iloadN 33 d2_32 rfl rfl ?_
      refine Go.castore 0 34 d2_33 rfl A_60 (by decide) (Nat.le_of_ble_eq_true rfl) (List.mem_of_getElem? (i := 0) rfl) q_56 (fun h_61 W_62 A_63 => ?_)
      have A_64 : Ary Z h_61 x_54 .char [(.int c0), (.int (0 : Int32))] := by have := A_63; rw [nar_c b_c0] at this; exact this
      refine Go.dup 35 d2_34 rfl rfl ?_
      refine Go.iconst 36 (1 : Int32) d2_35 rfl rfl ?_
      refine Go.iloadN 37 d2_36 rfl rfl ?_
      refine Go.castore 1 38 d2_37 rfl A_64 (by decide) (Nat.le_of_ble_eq_true rfl) (List.mem_of_getElem? (i := 0) rfl) q_56 (fun h_65 W_66 A_67 => ?_)
      have A_68 : Ary Z h_65 x_54 .char [(.int c0), (.int c1)] := by have := A_67; rw [nar_c b_c1] at this; exact this
      refine Go.astoreN 39 #[.val (.int n), .val (.int c0), .val (.int c1), .val (.ref x_54)] d2_38 rfl rfl rfl ?_
      refine Go.new 42 d2_39 rfl (w15 hw) (w16 hw) (w17 hw) (Nat.le_of_ble_eq_true rfl) (Nat.le_of_ble_eq_true rfl) (fun h_69 x_70 g_71 q_72 E_73 lt_74 A_75 D_76 => ?_)
      show G_str (some consts_1) l Z n0 n c0 c1 z h0 2 6 [x_70, x_54] h_69 42 #[.val (.int n), .val (.int c0), .val (.int c1), .val (.ref x_54)] [(.ref x_70)]
      refine Go.dup 43 d2_42 rfl rfl ?_
      refine Go.aloadN 44 d2_43 rfl rfl rfl ?_
      have f_77 := A_68.ext E_73
      refine Go.old fun o_81 _ => ?_
      refine Go.callC (S := [(.ref x_70)]) (a := x_70) 47 [(.ref x_54)] d2_44 rfl rfl rfl (w18 hw) (w19 hw) (w20 hw) (by decide) (strNew (W := 1) (cs := [c0, c1]) (hws hw) (w16 hw) q_72 o_81 A_75 (D_76 (Or.inr (w30 hw)) (ty := (.array .byte)) (by decide)) (D_76 (Or.inr (w31 hw)) (ty := .byte) (by decide)) f_77 SC hz 2 rfl (by decide) (by decide) (lat2 b_c0 b_c1) (by decide) (by decide) (List.mem_of_getElem? (i := 0) rfl)) (lenOf pd_1 rfl) (Nat.le_of_ble_eq_true rfl) rfl (Nat.le_of_ble_eq_true rfl) (Nat.le_of_ble_eq_true rfl) (fun _ q => q) (fun v h_78 sf_82 hq => ?_)
      obtain ⟨rfl, K_79, S_80⟩ := hq
      refine Go.more (sf' := [x_70, x_54]) ?_ (Nat.le_refl _) (Nat.le_refl _) (fun _ q => List.mem_append_right _ q)
      show G_str (some consts_1) l Z n0 n c0 c1 z h0 3 8 [x_70, x_54] h_78 47 #[.val (.int n), .val (.int c0), .val (.int c1), .val (.ref x_54)] [(.ref x_70)]
      have X_83 : Ext h0 h_61 := extW E_57 W_62 (Nat.le_of_eq g_55)
      have X_84 : Ext h0 h_65 := extW X_83 W_66 (Nat.le_of_eq g_55)
      have X_85 : Ext h0 h_69 := extT X_84 E_73
      have X_86 : Ext h0 h_78 := extK X_85 K_79 (allS (Nat.le_trans X_84.1 (Nat.le_of_eq g_71)) all0)
      exact Go.retA d2_47 rfl rfl rfl (sf' := []) (⟨_, rfl, X_86, (Nat.le_trans X_84.1 (Nat.le_of_eq g_71)), by rw [strf, if_neg hc1, if_neg hc13]; exact S_80⟩) (fun _ q => nomatch q) (Nat.le_of_ble_eq_true rfl) (Nat.le_of_ble_eq_true rfl)
abbrev G_kind (md : Md) (l : Launch) (Z : State) (n0 : Nat) (k : Int32) (a0 a1 a2 a3 a4 a5 a6 a7 a8 a9 a10 a11 a12 a13 a14 : Addr) (h0 : Heap) := Go md l Z n0 ({ frames := 0, cells := 0, slots := 0, locals := 0 } : Room) method_4_code 1 (some (.object "com/example/avain/avain/io/TokenKind")) "com/example/avain/avain/io/TokenEqualsPinLaw" "kind" (fun v h' _ => h0 = h' ∧ v = some (.ref (kf a0 a1 a2 a3 a4 a5 a6 a7 a8 a9 a10 a11 a12 a13 a14 k)))
theorem ef_kind (m : MethodId) (k : Int32) (a0 a1 a2 a3 a4 a5 a6 a7 a8 a9 a10 a11 a12 a13 a14 : Addr) : entryFrame m #[(.int k)] 1 = mkF m 0 #[.val (.int k)] [] := by first | (simp [entryFrame, mkF, argsToLocals, Value.category]; done) | rfl
set_option maxRecDepth 65536 in
set_option maxHeartbeats 40000000 in
theorem c_kind {md : Md} {l : Launch} {Z : State} {n0 : Nat} {a0 : Array Value} (hw : HW a0 Z) (k : Int32) (a0 a1 a2 a3 a4 a5 a6 a7 a8 a9 a10 a11 a12 a13 a14 : Addr) {h0 : Heap} (Z0 : Sta Z Z.heap "com/example/avain/avain/io/TokenKind" "IDENTIFIER" "Lcom/example/avain/avain/io/TokenKind;" (.ref a0)) (Z1 : Sta Z Z.heap "com/example/avain/avain/io/TokenKind" "COLON" "Lcom/example/avain/avain/io/TokenKind;" (.ref a1)) (Z2 : Sta Z Z.heap "com/example/avain/avain/io/TokenKind" "SEMICOLON" "Lcom/example/avain/avain/io/TokenKind;" (.ref a2)) (Z3 : Sta Z Z.heap "com/example/avain/avain/io/TokenKind" "COMMA" "Lcom/example/avain/avain/io/TokenKind;" (.ref a3)) (Z4 : Sta Z Z.heap "com/example/avain/avain/io/TokenKind" "LEFT_PAREN" "Lcom/example/avain/avain/io/TokenKind;" (.ref a4)) (Z5 : Sta Z Z.heap "com/example/avain/avain/io/TokenKind" "RIGHT_PAREN" "Lcom/example/avain/avain/io/TokenKind;" (.ref a5)) (Z6 : Sta Z Z.heap "com/example/avain/avain/io/TokenKind" "LEFT_BRACE" "Lcom/example/avain/avain/io/TokenKind;" (.ref a6)) (Z7 : Sta Z Z.heap "com/example/avain/avain/io/TokenKind" "RIGHT_BRACE" "Lcom/example/avain/avain/io/TokenKind;" (.ref a7)) (Z8 : Sta Z Z.heap "com/example/avain/avain/io/TokenKind" "LEFT_SEAL" "Lcom/example/avain/avain/io/TokenKind;" (.ref a8)) (Z9 : Sta Z Z.heap "com/example/avain/avain/io/TokenKind" "RIGHT_SEAL" "Lcom/example/avain/avain/io/TokenKind;" (.ref a9)) (Z10 : Sta Z Z.heap "com/example/avain/avain/io/TokenKind" "ARROW" "Lcom/example/avain/avain/io/TokenKind;" (.ref a10)) (Z11 : Sta Z Z.heap "com/example/avain/avain/io/TokenKind" "AUTHENTIC_ARROW" "Lcom/example/avain/avain/io/TokenKind;" (.ref a11)) (Z12 : Sta Z Z.heap "com/example/avain/avain/io/TokenKind" "CONFIDENTIAL_ARROW" "Lcom/example/avain/avain/io/TokenKind;" (.ref a12)) (Z13 : Sta Z Z.heap "com/example/avain/avain/io/TokenKind" "SECURE_ARROW" "Lcom/example/avain/avain/io/TokenKind;" (.ref a13)) (Z14 : Sta Z Z.heap "com/example/avain/avain/io/TokenKind" "END" "Lcom/example/avain/avain/io/TokenKind;" (.ref a14)) : G_kind md l Z n0 k a0 a1 a2 a3 a4 a5 a6 a7 a8 a9 a10 a11 a12 a13 a14 h0 0 0 [] h0 0 #[.val (.int k)] [] := by
  refine Go.iloadN 1 d1_0 rfl rfl ?_
  by_cases hc1 : k = (0 : Int32)
  · skip
    refine Go.ifN 4 d1_1 rfl (teq hc1).2 ?_
    refine Go.getS 7 d1_4 rfl (w8 hw) Via.refl Z0 ?_
    exact Go.retA d1_7 rfl rfl rfl (sf' := []) (⟨rfl, by rw [kf, if_pos hc1]⟩) (fun _ q => nomatch q) (Nat.le_of_ble_eq_true rfl) (Nat.le_of_ble_eq_true rfl)
  · skip
    refine Go.ifY 8 d1_1 (by decide) (by decide) (feq hc1).2 ?_
    refine Go.iloadN 9 d1_8 rfl rfl ?_
    refine Go.iconst 10 (1 : Int32) d1_9 rfl rfl ?_
    by_cases hc10 : k = (1 : Int32)
    · skip
      refine Go.icmpN 13 d1_10 rfl (teq hc10).2 ?_
      refine Go.getS 16 d1_13 rfl (w109 hw) Via.refl Z1 ?_
      exact Go.retA d1_16 rfl rfl rfl (sf' := []) (⟨rfl, by rw [kf, if_neg hc1, if_pos hc10]⟩) (fun _ q => nomatch q) (Nat.le_of_ble_eq_true rfl) (Nat.le_of_ble_eq_true rfl)
    · skip
      refine Go.icmpY 17 d1_10 (by decide) (by decide) (feq hc10).2 ?_
      refine Go.iloadN 18 d1_17 rfl rfl ?_
      refine Go.iconst 19 (2 : Int32) d1_18 rfl rfl ?_
      by_cases hc19 : k = (2 : Int32)
      · skip
        refine Go.icmpN 22 d1_19 rfl (teq hc19).2 ?_
        refine Go.getS 25 d1_22 rfl (w105 hw) Via.refl Z2 ?_
        exact Go.retA d1_25 rfl rfl rfl (sf' := []) (⟨rfl, by rw [kf, if_neg hc1, if_neg hc10, if_pos hc19]⟩) (fun _ q => nomatch q) (Nat.le_of_ble_eq_true rfl) (Nat.le_of_ble_eq_true rfl)
      · skip
        refine Go.icmpY 26 d1_19 (by decide) (by decide) (feq hc19).2 ?_
        refine Go.iloadN 27 d1_26 rfl rfl ?_
        refine Go.iconst 28 (3 : Int32) d1_27 rfl rfl ?_
        by_cases hc28 : k = (3 : Int32)
        · skip
          refine Go.icmpN 31 d1_28 rfl (teq hc28).2 ?_
          refine Go.getS 34 d1_31 rfl (w87 hw) Via.refl Z3 ?_
          exact Go.retA d1_34 rfl rfl rfl (sf' := []) (⟨rfl, by rw [kf, if_neg hc1, if_neg hc10, if_neg hc19, if_pos hc28]⟩) (fun _ q => nomatch q) (Nat.le_of_ble_eq_true rfl) (Nat.le_of_ble_eq_true rfl)
        · skip
          refine Go.icmpY 35 d1_28 (by decide) (by decide) (feq hc28).2 ?_
          refine Go.iloadN 36 d1_35 rfl rfl ?_
          refine Go.iconst 37 (4 : Int32) d1_36 rfl rfl ?_
          by_cases hc37 : k = (4 : Int32)
          · skip
            refine Go.icmpN 40 d1_37 rfl (teq hc37).2 ?_
            refine Go.getS 43 d1_40 rfl (w75 hw) Via.refl Z4 ?_
            exact Go.retA d1_43 rfl rfl rfl (sf' := []) (⟨rfl, by rw [kf, if_neg hc1, if_neg hc10, if_neg hc19, if_neg hc28, if_pos hc37]⟩) (fun _ q => nomatch q) (Nat.le_of_ble_eq_true rfl) (Nat.le_of_ble_eq_true rfl)
          · skip
            refine Go.icmpY 44 d1_37 (by decide) (by decide) (feq hc37).2 ?_
            refine Go.iloadN 45 d1_44 rfl rfl ?_
            refine Go.iconst 46 (5 : Int32) d1_45 rfl rfl ?_
            by_cases hc46 : k = (5 : Int32)
            · skip
              refine Go.icmpN 49 d1_46 rfl (teq hc46).2 ?_
              refine Go.getS 52 d1_49 rfl (w93 hw) Via.refl Z5 ?_
              exact Go.retA d1_52 rfl rfl rfl (sf' := []) (⟨rfl, by rw [kf, if_neg hc1, if_neg hc10, if_neg hc19, if_neg hc28, if_neg hc37, if_pos hc46]⟩) (fun _ q => nomatch q) (Nat.le_of_ble_eq_true rfl) (Nat.le_of_ble_eq_true rfl)
            · skip
              refine Go.icmpY 53 d1_46 (by decide) (by decide) (feq hc46).2 ?_
              refine Go.iloadN 54 d1_53 rfl rfl ?_
              refine Go.bipush 56 (6 : Int32) d1_54 rfl rfl ?_
              by_cases hc56 : k = (6 : Int32)
              · skip
                refine Go.icmpN 59 d1_56 rfl (teq hc56).2 ?_
                refine Go.getS 62 d1_59 rfl (w111 hw) Via.refl Z6 ?_
                exact Go.retA d1_62 rfl rfl rfl (sf' := []) (⟨rfl, by rw [kf, if_neg hc1, if_neg hc10, if_neg hc19, if_neg hc28, if_neg hc37, if_neg hc46, if_pos hc56]⟩) (fun _ q => nomatch q) (Nat.le_of_ble_eq_true rfl) (Nat.le_of_ble_eq_true rfl)
              · skip
                refine Go.icmpY 63 d1_56 (by decide) (by decide) (feq hc56).2 ?_
                refine Go.iloadN 64 d1_63 rfl rfl ?_
                refine Go.bipush 66 (7 : Int32) d1_64 rfl rfl ?_
                by_cases hc66 : k = (7 : Int32)
                · skip
                  refine Go.icmpN 69 d1_66 rfl (teq hc66).2 ?_
                  refine Go.getS 72 d1_69 rfl (w103 hw) Via.refl Z7 ?_
                  exact Go.retA d1_72 rfl rfl rfl (sf' := []) (⟨rfl, by rw [kf, if_neg hc1, if_neg hc10, if_neg hc19, if_neg hc28, if_neg hc37, if_neg hc46, if_neg hc56, if_pos hc66]⟩) (fun _ q => nomatch q) (Nat.le_of_ble_eq_true rfl) (Nat.le_of_ble_eq_true rfl)
                · skip
                  refine Go.icmpY 73 d1_66 (by decide) (by decide) (feq hc66).2 ?_
                  refine Go.iloadN 74 d1_73 rfl rfl ?_
                  refine Go.bipush 76 (8 : Int32) d1_74 rfl rfl ?_
                  by_cases hc76 : k = (8 : Int32)
                  · skip
                    refine Go.icmpN 79 d1_76 rfl (teq hc76).2 ?_
                    refine Go.getS 82 d1_79 rfl (w113 hw) Via.refl Z8 ?_
                    exact Go.retA d1_82 rfl rfl rfl (sf' := []) (⟨rfl, by rw [kf, if_neg hc1, if_neg hc10, if_neg hc19, if_neg hc28, if_neg hc37, if_neg hc46, if_neg hc56, if_neg hc66, if_pos hc76]⟩) (fun _ q => nomatch q) (Nat.le_of_ble_eq_true rfl) (Nat.le_of_ble_eq_true rfl)
                  · skip
                    refine Go.icmpY 83 d1_76 (by decide) (by decide) (feq hc76).2 ?_
                    refine Go.iloadN 84 d1_83 rfl rfl ?_
                    refine Go.bipush 86 (9 : Int32) d1_84 rfl rfl ?_
                    by_cases hc86 : k = (9 : Int32)
                    · skip
                      refine Go.icmpN 89 d1_86 rfl (teq hc86).2 ?_
                      refine Go.getS 92 d1_89 rfl (w99 hw) Via.refl Z9 ?_
                      exact Go.retA d1_92 rfl rfl rfl (sf' := []) (⟨rfl, by rw [kf, if_neg hc1, if_neg hc10, if_neg hc19, if_neg hc28, if_neg hc37, if_neg hc46, if_neg hc56, if_neg hc66, if_neg hc76, if_pos hc86]⟩) (fun _ q => nomatch q) (Nat.le_of_ble_eq_true rfl) (Nat.le_of_ble_eq_true rfl)
                    · skip
                      refine Go.icmpY 93 d1_86 (by decide) (by decide) (feq hc86).2 ?_
                      refine Go.iloadN 94 d1_93 rfl rfl ?_
                      refine Go.bipush 96 (10 : Int32) d1_94 rfl rfl ?_
                      by_cases hc96 : k = (10 : Int32)
                      · skip
                        refine Go.icmpN 99 d1_96 rfl (teq hc96).2 ?_
                        refine Go.getS 102 d1_99 rfl (w101 hw) Via.refl Z10 ?_
                        exact Go.retA d1_102 rfl rfl rfl (sf' := []) (⟨rfl, by rw [kf, if_neg hc1, if_neg hc10, if_neg hc19, if_neg hc28, if_neg hc37, if_neg hc46, if_neg hc56, if_neg hc66, if_neg hc76, if_neg hc86, if_pos hc96]⟩) (fun _ q => nomatch q) (Nat.le_of_ble_eq_true rfl) (Nat.le_of_ble_eq_true rfl)
                      · skip
                        refine Go.icmpY 103 d1_96 (by decide) (by decide) (feq hc96).2 ?_
                        refine Go.iloadN 104 d1_103 rfl rfl ?_
                        refine Go.bipush 106 (11 : Int32) d1_104 rfl rfl ?_
                        by_cases hc106 : k = (11 : Int32)
                        · skip
                          refine Go.icmpN 109 d1_106 rfl (teq hc106).2 ?_
                          refine Go.getS 112 d1_109 rfl (w95 hw) Via.refl Z11 ?_
                          exact Go.retA d1_112 rfl rfl rfl (sf' := []) (⟨rfl, by rw [kf, if_neg hc1, if_neg hc10, if_neg hc19, if_neg hc28, if_neg hc37, if_neg hc46, if_neg hc56, if_neg hc66, if_neg hc76, if_neg hc86, if_neg hc96, if_pos hc106]⟩) (fun _ q => nomatch q) (Nat.le_of_ble_eq_true rfl) (Nat.le_of_ble_eq_true rfl)
                        · skip
                          refine Go.icmpY 113 d1_106 (by decide) (by decide) (feq hc106).2 ?_
                          refine Go.iloadN 114 d1_113 rfl rfl ?_
                          refine Go.bipush 116 (12 : Int32) d1_114 rfl rfl ?_
                          by_cases hc116 : k = (12 : Int32)
                          · skip
                            refine Go.icmpN 119 d1_116 rfl (teq hc116).2 ?_
                            refine Go.getS 122 d1_119 rfl (w97 hw) Via.refl Z12 ?_
                            exact Go.retA d1_122 rfl rfl rfl (sf' := []) (⟨rfl, by rw [kf, if_neg hc1, if_neg hc10, if_neg hc19, if_neg hc28, if_neg hc37, if_neg hc46, if_neg hc56, if_neg hc66, if_neg hc76, if_neg hc86, if_neg hc96, if_neg hc106, if_pos hc116]⟩) (fun _ q => nomatch q) (Nat.le_of_ble_eq_true rfl) (Nat.le_of_ble_eq_true rfl)
                          · skip
                            refine Go.icmpY 123 d1_116 (by decide) (by decide) (feq hc116).2 ?_
                            refine Go.iloadN 124 d1_123 rfl rfl ?_
                            refine Go.bipush 126 (13 : Int32) d1_124 rfl rfl ?_
                            by_cases hc126 : k = (13 : Int32)
                            · skip
                              refine Go.icmpN 129 d1_126 rfl (teq hc126).2 ?_
                              refine Go.getS 132 d1_129 rfl (w91 hw) Via.refl Z13 ?_
                              exact Go.retA d1_132 rfl rfl rfl (sf' := []) (⟨rfl, by rw [kf, if_neg hc1, if_neg hc10, if_neg hc19, if_neg hc28, if_neg hc37, if_neg hc46, if_neg hc56, if_neg hc66, if_neg hc76, if_neg hc86, if_neg hc96, if_neg hc106, if_neg hc116, if_pos hc126]⟩) (fun _ q => nomatch q) (Nat.le_of_ble_eq_true rfl) (Nat.le_of_ble_eq_true rfl)
                            · skip
                              refine Go.icmpY 133 d1_126 (by decide) (by decide) (feq hc126).2 ?_
                              refine Go.getS 136 d1_133 rfl (w107 hw) Via.refl Z14 ?_
                              exact Go.retA d1_136 rfl rfl rfl (sf' := []) (⟨rfl, by rw [kf, if_neg hc1, if_neg hc10, if_neg hc19, if_neg hc28, if_neg hc37, if_neg hc46, if_neg hc56, if_neg hc66, if_neg hc76, if_neg hc86, if_neg hc96, if_neg hc106, if_neg hc116, if_neg hc126]⟩) (fun _ q => nomatch q) (Nat.le_of_ble_eq_true rfl) (Nat.le_of_ble_eq_true rfl)
abbrev G_rnn (md : Md) (l : Launch) (Z : State) (n0 : Nat) (a s : Addr) (h0 : Heap) := Go md l Z n0 ({ frames := 0, cells := 0, slots := 0, locals := 0 } : Room) jdk_31_method_11_code 2 (some (.object "java/lang/Object")) "java/util/Objects" "requireNonNull" (fun v h' _ => h0 = h' ∧ v = some (.ref a))
theorem ef_rnn (m : MethodId) (a s : Addr) : entryFrame m #[(.ref a), (.ref s)] 2 = mkF m 0 #[.val (.ref a), .val (.ref s)] [] := by first | (simp [entryFrame, mkF, argsToLocals, Value.category]; done) | rfl
set_option maxRecDepth 65536 in
set_option maxHeartbeats 40000000 in
theorem c_rnn {md : Md} {l : Launch} {Z : State} {n0 : Nat} {a0 : Array Value} (hw : HW a0 Z) (a s : Addr) {h0 : Heap}  : G_rnn md l Z n0 a s h0 0 0 [] h0 0 #[.val (.ref a), .val (.ref s)] [] := by
  refine Go.aloadN 1 d7_0 rfl rfl rfl ?_
  refine Go.nonnullY 13 d7_1 (by decide) (by decide) ?_
  refine Go.aloadN 14 d7_13 rfl rfl rfl ?_
  exact Go.retA d7_14 rfl rfl rfl (sf' := []) (⟨rfl, rfl⟩) (fun _ q => nomatch q) (Nat.le_of_ble_eq_true rfl) (Nat.le_of_ble_eq_true rfl)
abbrev G_tokinit (md : Md) (l : Launch) (Z : State) (n0 : Nat) (a kd x : Addr) (ln cl : Int32) (h0 : Heap) := Go md l Z n0 ({ frames := 1, cells := 4, slots := 40, locals := 14 } : Room) prog_39_method_1_code 5 none "com/example/avain/avain/io/Token" "<init>" (fun v h' _ => v = none ∧ Keep h0 h' [a] ∧ Exa Z h' a "com/example/avain/avain/io/Token" ∧ Fld Z h' a "com/example/avain/avain/io/Token" "kind" "Lcom/example/avain/avain/io/TokenKind;" (.ref kd) ∧ Fld Z h' a "com/example/avain/avain/io/Token" "text" "Ljava/lang/String;" (.ref x) ∧ Fld Z h' a "com/example/avain/avain/io/Token" "line" "I" (.int ln) ∧ Fld Z h' a "com/example/avain/avain/io/Token" "column" "I" (.int cl))
theorem ef_tokinit (m : MethodId) (a kd x : Addr) (ln cl : Int32) : entryFrame m #[(.ref a), (.ref kd), (.ref x), (.int ln), (.int cl)] 5 = mkF m 0 #[.val (.ref a), .val (.ref kd), .val (.ref x), .val (.int ln), .val (.int cl)] [] := by first | (simp [entryFrame, mkF, argsToLocals, Value.category]; done) | rfl
set_option maxRecDepth 65536 in
set_option maxHeartbeats 40000000 in
theorem c_tokinit {l : Launch} {Z : State} {n0 : Nat} {a0 : Array Value} (hw : HW a0 Z) (a kd x : Addr) (ln cl : Int32) {h0 : Heap} (E : Exa Z h0 a "com/example/avain/avain/io/Token") (n0a : n0 ≤ a) {u1 : Value} (F1 : Fld Z h0 a "com/example/avain/avain/io/Token" "kind" "Lcom/example/avain/avain/io/TokenKind;" u1) (Ek : Exa Z h0 kd "com/example/avain/avain/io/TokenKind") (Ex : Exa Z h0 x "java/lang/String") : G_tokinit (some consts_1) l Z n0 a kd x ln cl h0 0 0 [a] h0 0 #[.val (.ref a), .val (.ref kd), .val (.ref x), .val (.int ln), .val (.int cl)] [] := by
  refine Go.aloadN 1 d6_0 rfl rfl rfl ?_
  refine Go.initO (W := 0) 4 d6_1 rfl (w39 hw) (w26 hw) (w27 hw) rfl (by decide) (Nat.le_of_ble_eq_true rfl) (by decide) ?_
  refine Go.aloadN 5 d6_4 rfl rfl rfl ?_
  refine Go.aloadN 6 d6_5 rfl rfl rfl ?_
  refine Go.ldcL (vs := [(.int (107 : Int32)), (.int (105 : Int32)), (.int (110 : Int32)), (.int (100 : Int32))]) (z := (4 : Int32)) 16 8 d6_6 rfl (w40 hw) (wS hw) (List.mem_of_getElem? (i := 0) rfl) ⟨by decide, rfl⟩ (by decide) (by decide) (by decide) (by decide) (Nat.le_of_ble_eq_true rfl) (Nat.le_of_ble_eq_true rfl) (fun h_1 s_2 b_3 k_4 E_5 A_6 C_7 V_8 B_9 ne_10 => ?_)
  have B_11 : Ary Z h_1 b_3 .byte [(.int (107 : Int32)), (.int (105 : Int32)), (.int (110 : Int32)), (.int (100 : Int32))] := Ary.ofArv B_9 rfl (by decide)
  have S_12 : Str Z h_1 s_2 [(107 : Int32), (105 : Int32), (110 : Int32), (100 : Int32)] := ⟨_, A_6, C_7, V_8, B_11, by unfold Lat; decide⟩
  show G_tokinit (some consts_1) l Z n0 a kd x ln cl h0 2 20 [a] h_1 8 #[.val (.ref a), .val (.ref kd), .val (.ref x), .val (.int ln), .val (.int cl)] [(.ref s_2), (.ref kd), (.ref a)]
  refine Go.callS (S := [(.ref a)]) 11 [(.ref kd), (.ref s_2)] d6_8 rfl rfl (w41 hw) (w42 hw) (w43 hw) (w44 hw) (by decide) (call_of_go (R := _) (len := 3) (W := 1) pn_1 (fun m => ef_rnn m kd s_2) (c_rnn hw kd s_2 ) (w44 hw) (w43 hw) (by decide) (by decide)) (lenOf pd_2 rfl) (Nat.le_of_ble_eq_true rfl) rfl (Nat.le_of_ble_eq_true rfl) (Nat.le_of_ble_eq_true rfl) (fun _ q => nomatch q) (fun v h_13 sf_14 hq => ?_)
  obtain ⟨rfl, rfl⟩ := hq
  refine Go.more (sf' := [a]) ?_ (Nat.le_refl _) (Nat.le_refl _) (fun _ q => List.mem_append_right _ q)
  show G_tokinit (some consts_1) l Z n0 a kd x ln cl h0 2 20 [a] h_1 11 #[.val (.ref a), .val (.ref kd), .val (.ref x), .val (.int ln), .val (.int cl)] [(.ref kd), (.ref a)]
  have f_15 := Ek.ext E_5
  refine Go.castY 14 d6_11 rfl (w45 hw) (Ins.self f_15) ?_
  have f_16 := E.ext E_5
  have f_17 := F1.ext E_5
  refine Go.putF 17 (.ref kd) d6_14 rfl (w47 hw) Via.refl f_17 f_16 (Or.inr ⟨(w48 hw), rfl, rfl⟩) (w2 hw) (ty := (.object "com/example/avain/avain/io/TokenKind")) (by decide) rfl rfl (List.mem_of_getElem? (i := 0) rfl) n0a (fun h_18 W_19 => ?_)
  refine Go.aloadN 18 d6_17 rfl rfl rfl ?_
  refine Go.aloadN 19 d6_18 rfl rfl rfl ?_
  refine Go.ldcL (vs := [(.int (116 : Int32)), (.int (101 : Int32)), (.int (120 : Int32)), (.int (116 : Int32))]) (z := (4 : Int32)) 16 21 d6_19 rfl (w49 hw) (wS hw) (List.mem_of_getElem? (i := 1) rfl) ⟨by decide, rfl⟩ (by decide) (by decide) (by decide) (by decide) (Nat.le_of_ble_eq_true rfl) (Nat.le_of_ble_eq_true rfl) (fun h_20 s_21 b_22 k_23 E_24 A_25 C_26 V_27 B_28 ne_29 => ?_)
  have B_30 : Ary Z h_20 b_22 .byte [(.int (116 : Int32)), (.int (101 : Int32)), (.int (120 : Int32)), (.int (116 : Int32))] := Ary.ofArv B_28 rfl (by decide)
  have S_31 : Str Z h_20 s_21 [(116 : Int32), (101 : Int32), (120 : Int32), (116 : Int32)] := ⟨_, A_25, C_26, V_27, B_30, by unfold Lat; decide⟩
  show G_tokinit (some consts_1) l Z n0 a kd x ln cl h0 4 40 [a] h_20 21 #[.val (.ref a), .val (.ref kd), .val (.ref x), .val (.int ln), .val (.int cl)] [(.ref s_21), (.ref x), (.ref a)]
  refine Go.callS (S := [(.ref a)]) 24 [(.ref x), (.ref s_21)] d6_21 rfl rfl (w41 hw) (w42 hw) (w43 hw) (w44 hw) (by decide) (call_of_go (R := _) (len := 3) (W := 1) pn_1 (fun m => ef_rnn m x s_21) (c_rnn hw x s_21 ) (w44 hw) (w43 hw) (by decide) (by decide)) (lenOf pd_2 rfl) (Nat.le_of_ble_eq_true rfl) rfl (Nat.le_of_ble_eq_true rfl) (Nat.le_of_ble_eq_true rfl) (fun _ q => nomatch q) (fun v h_32 sf_33 hq => ?_)
  obtain ⟨rfl, rfl⟩ := hq
  refine Go.more (sf' := [a]) ?_ (Nat.le_refl _) (Nat.le_refl _) (fun _ q => List.mem_append_right _ q)
  show G_tokinit (some consts_1) l Z n0 a kd x ln cl h0 4 40 [a] h_20 24 #[.val (.ref a), .val (.ref kd), .val (.ref x), .val (.int ln), .val (.int cl)] [(.ref x), (.ref a)]
  have f_34 := (((Ex.ext E_5).wr W_19).ext E_24)
  refine Go.castY 27 d6_24 rfl (w50 hw) (Ins.self f_34) ?_
  have f_35 := ((f_16.wr W_19).ext E_24)
  have f_36 := (f_17.same W_19).ext E_24
  obtain ⟨o_37, fo_38⟩ := Fld.any f_36 f_35 (w2 hw) (Or.inr (w52 hw))
  refine Go.putF 30 (.ref x) d6_27 rfl (w51 hw) Via.refl fo_38 f_35 (Or.inr ⟨(w52 hw), rfl, rfl⟩) (w2 hw) (ty := (.object "java/lang/String")) (by decide) rfl rfl (List.mem_of_getElem? (i := 0) rfl) n0a (fun h_39 W_40 => ?_)
  refine Go.aloadN 31 d6_30 rfl rfl rfl ?_
  refine Go.iloadN 32 d6_31 rfl rfl ?_
  have f_41 := (f_35.wr W_40)
  obtain ⟨o_42, fo_43⟩ := Fld.any (fo_38.same W_40) f_41 (w2 hw) (Or.inr (w54 hw))
  refine Go.putF 35 (.int ln) d6_32 rfl (w53 hw) Via.refl fo_43 f_41 (Or.inr ⟨(w54 hw), rfl, rfl⟩) (w2 hw) (ty := .int) (by decide) rfl rfl (List.mem_of_getElem? (i := 0) rfl) n0a (fun h_44 W_45 => ?_)
  refine Go.aloadN 36 d6_35 rfl rfl rfl ?_
  refine Go.iload 38 d6_36 rfl rfl ?_
  have f_46 := (f_41.wr W_45)
  obtain ⟨o_47, fo_48⟩ := Fld.any (fo_43.same W_45) f_46 (w2 hw) (Or.inr (w56 hw))
  refine Go.putF 41 (.int cl) d6_38 rfl (w55 hw) Via.refl fo_48 f_46 (Or.inr ⟨(w56 hw), rfl, rfl⟩) (w2 hw) (ty := .int) (by decide) rfl rfl (List.mem_of_getElem? (i := 0) rfl) n0a (fun h_49 W_50 => ?_)
  have f_51 := (f_46.wr W_50)
  have f_52 := (((f_36.other W_40 (Or.inr (slot_ne (Or.inr (w48 hw)) (Or.inr (w52 hw)) (by decide) (t := (.object "com/example/avain/avain/io/TokenKind")) (t' := (.object "java/lang/String")) (by decide) (by decide)))).other W_45 (Or.inr (slot_ne (Or.inr (w48 hw)) (Or.inr (w54 hw)) (by decide) (t := (.object "com/example/avain/avain/io/TokenKind")) (t' := .int) (by decide) (by decide)))).other W_50 (Or.inr (slot_ne (Or.inr (w48 hw)) (Or.inr (w56 hw)) (by decide) (t := (.object "com/example/avain/avain/io/TokenKind")) (t' := .int) (by decide) (by decide))))
  have f_53 := (((fo_38.same W_40).other W_45 (Or.inr (slot_ne (Or.inr (w52 hw)) (Or.inr (w54 hw)) (by decide) (t := (.object "java/lang/String")) (t' := .int) (by decide) (by decide)))).other W_50 (Or.inr (slot_ne (Or.inr (w52 hw)) (Or.inr (w56 hw)) (by decide) (t := (.object "java/lang/String")) (t' := .int) (by decide) (by decide))))
  have f_54 := ((fo_43.same W_45).other W_50 (Or.inr (slot_ne (Or.inr (w54 hw)) (Or.inr (w56 hw)) (by decide) (t := .int) (t' := .int) (by decide) (by decide))))
  exact Go.ret0 d6_41 rfl (sf' := []) (⟨rfl, (((((((Keep.refl h0 [a]).ext E_5).wr W_19 (Or.inl (List.mem_of_getElem? (i := 0) rfl))).ext E_24).wr W_40 (Or.inl (List.mem_of_getElem? (i := 0) rfl))).wr W_45 (Or.inl (List.mem_of_getElem? (i := 0) rfl))).wr W_50 (Or.inl (List.mem_of_getElem? (i := 0) rfl))), f_51, f_52, f_53, f_54, (fo_48.same W_50)⟩) (fun _ q => nomatch q) (Nat.le_of_ble_eq_true rfl) (Nat.le_of_ble_eq_true rfl)
abbrev G_teqnull (md : Md) (l : Launch) (Z : State) (n0 : Nat) (a : Addr) (h0 : Heap) := Go md l Z n0 ({ frames := 0, cells := 0, slots := 0, locals := 0 } : Room) prog_39_method_6_code 3 (some .boolean) "com/example/avain/avain/io/Token" "equals" (fun v h' _ => h0 = h' ∧ v = some (.int 0))
theorem ef_teqnull (m : MethodId) (a : Addr) : entryFrame m #[(.ref a), .null] 3 = mkF m 0 #[.val (.ref a), .val .null, .unset] [] := by first | (simp [entryFrame, mkF, argsToLocals, Value.category]; done) | rfl
set_option maxRecDepth 65536 in
set_option maxHeartbeats 40000000 in
theorem c_teqnull {md : Md} {l : Launch} {Z : State} {n0 : Nat} {a0 : Array Value} (hw : HW a0 Z) (a : Addr) {h0 : Heap}  : G_teqnull md l Z n0 a h0 0 0 [] h0 0 #[.val (.ref a), .val .null, .unset] [] := by
  refine Go.aloadN 1 d8_0 rfl rfl rfl ?_
  refine Go.instNull 4 d8_1 rfl ?_
  refine Go.ifN 7 d8_4 rfl (teq (by decide)).2 ?_
  refine Go.iconst 8 (0 : Int32) d8_7 rfl rfl ?_
  exact Go.retN (0 : Int32) d8_8 rfl (t := .boolean) (by simp) rfl (sf' := []) (⟨rfl, rfl⟩) (fun _ q => nomatch q) (Nat.le_of_ble_eq_true rfl) (Nat.le_of_ble_eq_true rfl)
abbrev G_teqstr (md : Md) (l : Launch) (Z : State) (n0 : Nat) (a y : Addr) (h0 : Heap) := Go md l Z n0 ({ frames := 0, cells := 0, slots := 0, locals := 0 } : Room) prog_39_method_6_code 3 (some .boolean) "com/example/avain/avain/io/Token" "equals" (fun v h' _ => h0 = h' ∧ v = some (.int 0))
theorem ef_teqstr (m : MethodId) (a y : Addr) : entryFrame m #[(.ref a), (.ref y)] 3 = mkF m 0 #[.val (.ref a), .val (.ref y), .unset] [] := by first | (simp [entryFrame, mkF, argsToLocals, Value.category]; done) | rfl
set_option maxRecDepth 65536 in
set_option maxHeartbeats 40000000 in
theorem c_teqstr {md : Md} {l : Launch} {Z : State} {n0 : Nat} {a0 : Array Value} (hw : HW a0 Z) (a y : Addr) {h0 : Heap} (Ey : Exa Z h0 y "java/lang/String") : G_teqstr md l Z n0 a y h0 0 0 [] h0 0 #[.val (.ref a), .val (.ref y), .unset] [] := by
  refine Go.aloadN 1 d8_0 rfl rfl rfl ?_
  refine Go.instNo 4 d8_1 rfl (w62 hw) Ey (no_sub (w89 hw) (w90 hw) (w2 hw) (by decide) (by decide)) ?_
  refine Go.ifN 7 d8_4 rfl (teq (by decide)).2 ?_
  refine Go.iconst 8 (0 : Int32) d8_7 rfl rfl ?_
  exact Go.retN (0 : Int32) d8_8 rfl (t := .boolean) (by simp) rfl (sf' := []) (⟨rfl, rfl⟩) (fun _ q => nomatch q) (Nat.le_of_ble_eq_true rfl) (Nat.le_of_ble_eq_true rfl)
abbrev G_teq (md : Md) (l : Launch) (Z : State) (n0 : Nat) (a b kd1 kd2 x1 x2 : Addr) (ln1 ln2 cl1 cl2 : Int32) (cs ds : List Int32) (z : Int32) (h0 : Heap) := Go md l Z n0 ({ frames := 2, cells := 0, slots := 0, locals := 28 } : Room) prog_39_method_6_code 3 (some .boolean) "com/example/avain/avain/io/Token" "equals" (fun v h' _ => h0 = h' ∧ ∃ r : Int32, v = some (.int r) ∧ ((r = 1 ∧ (kd1 = kd2 ∧ cs = ds ∧ ln1 = ln2 ∧ cl1 = cl2)) ∨ (r = 0 ∧ ¬ (kd1 = kd2 ∧ cs = ds ∧ ln1 = ln2 ∧ cl1 = cl2))))
theorem ef_teq (m : MethodId) (a b kd1 kd2 x1 x2 : Addr) (ln1 ln2 cl1 cl2 : Int32) (cs ds : List Int32) (z : Int32) : entryFrame m #[(.ref a), (.ref b)] 3 = mkF m 0 #[.val (.ref a), .val (.ref b), .unset] [] := by first | (simp [entryFrame, mkF, argsToLocals, Value.category]; done) | rfl
set_option maxRecDepth 65536 in
set_option maxHeartbeats 40000000 in
theorem c_teq {md : Md} {l : Launch} {Z : State} {n0 : Nat} {a0 : Array Value} (hw : HW a0 Z) (a b kd1 kd2 x1 x2 : Addr) (ln1 ln2 cl1 cl2 : Int32) (cs ds : List Int32) (z : Int32) {h0 : Heap} (Fk1 : Fld Z h0 a "com/example/avain/avain/io/Token" "kind" "Lcom/example/avain/avain/io/TokenKind;" (.ref kd1)) (Ft1 : Fld Z h0 a "com/example/avain/avain/io/Token" "text" "Ljava/lang/String;" (.ref x1)) (Fl1 : Fld Z h0 a "com/example/avain/avain/io/Token" "line" "I" (.int ln1)) (Fc1 : Fld Z h0 a "com/example/avain/avain/io/Token" "column" "I" (.int cl1)) (Fk2 : Fld Z h0 b "com/example/avain/avain/io/Token" "kind" "Lcom/example/avain/avain/io/TokenKind;" (.ref kd2)) (Ft2 : Fld Z h0 b "com/example/avain/avain/io/Token" "text" "Ljava/lang/String;" (.ref x2)) (Fl2 : Fld Z h0 b "com/example/avain/avain/io/Token" "line" "I" (.int ln2)) (Fc2 : Fld Z h0 b "com/example/avain/avain/io/Token" "column" "I" (.int cl2)) (Eb : Exa Z h0 b "com/example/avain/avain/io/Token") (S1 : Str Z h0 x1 cs) (S2 : Str Z h0 x2 ds) (l_cs : cs.length ≤ 4000) (l_ds : ds.length ≤ 4000) (SC : Sta Z Z.heap "java/lang/String" "COMPACT_STRINGS" "Z" (.int z)) (hz : ¬ z = 0) : G_teq md l Z n0 a b kd1 kd2 x1 x2 ln1 ln2 cl1 cl2 cs ds z h0 0 0 [] h0 0 #[.val (.ref a), .val (.ref b), .unset] [] := by
  refine Go.aloadN 1 d8_0 rfl rfl rfl ?_
  refine Go.instY 4 d8_1 rfl (w62 hw) (Ins.self Eb) ?_
  refine Go.ifY 9 d8_4 (by decide) (by decide) (feq (by decide)).2 ?_
  refine Go.aloadN 10 d8_9 rfl rfl rfl ?_
  refine Go.castY 13 d8_10 rfl (w62 hw) (Ins.self Eb) ?_
  refine Go.astoreN 14 #[.val (.ref a), .val (.ref b), .val (.ref b)] d8_13 rfl rfl rfl ?_
  refine Go.aloadN 15 d8_14 rfl rfl rfl ?_
  refine Go.getF 18 d8_15 rfl (w47 hw) Via.refl Fk1 ?_
  refine Go.aloadN 19 d8_18 rfl rfl rfl ?_
  refine Go.getF 22 d8_19 rfl (w47 hw) Via.refl Fk2 ?_
  by_cases hc22 : kd1 = kd2
  · skip
    refine Go.acmpN 25 d8_22 (by decide) rfl rfl rfl (by rw [decide_eq_true (congrArg Value.ref hc22)]; rfl) ?_
    refine Go.aloadN 26 d8_25 rfl rfl rfl ?_
    refine Go.getF 29 d8_26 rfl (w51 hw) Via.refl Ft1 ?_
    refine Go.aloadN 30 d8_29 rfl rfl rfl ?_
    refine Go.getF 33 d8_30 rfl (w51 hw) Via.refl Ft2 ?_
    refine Go.old fun o_1 _ => ?_
    refine Go.callV (S := []) (a := x1) 36 [(.ref x2)] d8_33 rfl rfl (w64 hw) (w65 hw) (w67 hw) (w66 hw) (fun _ q => notFace_of_selects (args := #[]) (mvT q (w67 hw))) (by decide) S1.exa (strEq (W := 0) (heq hw) (w16 hw) S1 S2 l_cs l_ds o_1 SC hz (by decide) (by decide)) (lenOf pd_3 rfl) (Nat.le_of_ble_eq_true rfl) rfl (Nat.le_of_ble_eq_true rfl) (Nat.le_of_ble_eq_true rfl) (fun _ q => q) (fun v h_2 sf_3 hq => ?_)
    obtain ⟨rfl, ⟨rfl, q_33⟩ | ⟨rfl, q_33⟩⟩ := hq
    · skip
      refine Go.more (sf' := []) ?_ (Nat.le_refl _) (Nat.le_refl _) (fun _ q => List.mem_append_right _ q)
      show G_teq md l Z n0 a b kd1 kd2 x1 x2 ln1 ln2 cl1 cl2 cs ds z h0 0 0 [] h0 36 #[.val (.ref a), .val (.ref b), .val (.ref b)] [(.int (1 : Int32))]
      refine Go.ifN 39 d8_36 rfl (feq (by decide)).1 ?_
      refine Go.aloadN 40 d8_39 rfl rfl rfl ?_
      refine Go.getF 43 d8_40 rfl (w53 hw) Via.refl Fl1 ?_
      refine Go.aloadN 44 d8_43 rfl rfl rfl ?_
      refine Go.getF 47 d8_44 rfl (w53 hw) Via.refl Fl2 ?_
      by_cases hc47 : ln1 = ln2
      · skip
        refine Go.icmpN 50 d8_47 rfl (teq hc47).2 ?_
        refine Go.aloadN 51 d8_50 rfl rfl rfl ?_
        refine Go.getF 54 d8_51 rfl (w55 hw) Via.refl Fc1 ?_
        refine Go.aloadN 55 d8_54 rfl rfl rfl ?_
        refine Go.getF 58 d8_55 rfl (w55 hw) Via.refl Fc2 ?_
        by_cases hc58 : cl1 = cl2
        · skip
          refine Go.icmpN 61 d8_58 rfl (teq hc58).2 ?_
          refine Go.iconst 62 (1 : Int32) d8_61 rfl rfl ?_
          refine Go.goto 66 d8_62 (by decide) (by decide) ?_
          exact Go.retN (1 : Int32) d8_66 rfl (t := .boolean) (by simp) rfl (sf' := []) (⟨rfl, _, rfl, Or.inl ⟨rfl, hc22, q_33, hc47, hc58⟩⟩) (fun _ q => nomatch q) (Nat.le_of_ble_eq_true rfl) (Nat.le_of_ble_eq_true rfl)
        · skip
          refine Go.icmpY 65 d8_58 (by decide) (by decide) (feq hc58).2 ?_
          refine Go.iconst 66 (0 : Int32) d8_65 rfl rfl ?_
          exact Go.retN (0 : Int32) d8_66 rfl (t := .boolean) (by simp) rfl (sf' := []) (⟨rfl, _, rfl, Or.inr ⟨rfl, fun q => hc58 q.2.2.2⟩⟩) (fun _ q => nomatch q) (Nat.le_of_ble_eq_true rfl) (Nat.le_of_ble_eq_true rfl)
      · skip
        refine Go.icmpY 65 d8_47 (by decide) (by decide) (feq hc47).2 ?_
        refine Go.iconst 66 (0 : Int32) d8_65 rfl rfl ?_
        exact Go.retN (0 : Int32) d8_66 rfl (t := .boolean) (by simp) rfl (sf' := []) (⟨rfl, _, rfl, Or.inr ⟨rfl, fun q => hc47 q.2.2.1⟩⟩) (fun _ q => nomatch q) (Nat.le_of_ble_eq_true rfl) (Nat.le_of_ble_eq_true rfl)
    · skip
      refine Go.more (sf' := []) ?_ (Nat.le_refl _) (Nat.le_refl _) (fun _ q => List.mem_append_right _ q)
      show G_teq md l Z n0 a b kd1 kd2 x1 x2 ln1 ln2 cl1 cl2 cs ds z h0 0 0 [] h0 36 #[.val (.ref a), .val (.ref b), .val (.ref b)] [(.int (0 : Int32))]
      refine Go.ifY 65 d8_36 (by decide) (by decide) (teq (by decide)).1 ?_
      refine Go.iconst 66 (0 : Int32) d8_65 rfl rfl ?_
      exact Go.retN (0 : Int32) d8_66 rfl (t := .boolean) (by simp) rfl (sf' := []) (⟨rfl, _, rfl, Or.inr ⟨rfl, fun q => q_33 q.2.1⟩⟩) (fun _ q => nomatch q) (Nat.le_of_ble_eq_true rfl) (Nat.le_of_ble_eq_true rfl)
  · skip
    refine Go.acmpY 65 d8_22 (by decide) (by decide) rfl rfl (by rw [decide_eq_false (fun q => hc22 (Value.ref.inj q))]; rfl) ?_
    refine Go.iconst 66 (0 : Int32) d8_65 rfl rfl ?_
    exact Go.retN (0 : Int32) d8_66 rfl (t := .boolean) (by simp) rfl (sf' := []) (⟨rfl, _, rfl, Or.inr ⟨rfl, fun q => hc22 q.1⟩⟩) (fun _ q => nomatch q) (Nat.le_of_ble_eq_true rfl) (Nat.le_of_ble_eq_true rfl)
abbrev G_law (l : Launch) (Z : State) (n0 : Nat) := Go (some consts_1) l Z n0 room_1 code maxLocals ret "com/example/avain/avain/io/TokenEqualsPinLaw" "law" (fun v _ _ => v = some (.int 1))
theorem ef_law (m : MethodId) (p0 : Int32) (p1 : Int32) (p2 : Int32) (p3 : Int32) (p4 : Int32) (p5 : Int32) : entryFrame m #[(.int p0), (.int p1), (.int p2), (.int p3), (.int p4), (.int p5)] maxLocals = mkF m 0 #[.val (.int p0), .val (.int p1), .val (.int p2), .val (.int p3), .val (.int p4), .val (.int p5), .unset, .unset, .unset, .unset, .unset, .unset, .unset, .unset, .unset, .unset, .unset, .unset, .unset, .unset, .unset] [] := by first | (simp [entryFrame, mkF, argsToLocals, Value.category, maxLocals]; done) | rfl
set_option maxRecDepth 65536 in
set_option maxHeartbeats 40000000 in
theorem law_go {l : Launch} {Z : State} {n0 : Nat} {a0 : Array Value} (hw : HW a0 Z) (p0 : Int32) (p1 : Int32) (p2 : Int32) (p3 : Int32) (p4 : Int32) (p5 : Int32) (z : Int32) (SC : Sta Z Z.heap "java/lang/String" "COMPACT_STRINGS" "Z" (.int z)) (hz : ¬ z = 0) (a0 a1 a2 a3 a4 a5 a6 a7 a8 a9 a10 a11 a12 a13 a14 : Addr) (Z0 : Sta Z Z.heap "com/example/avain/avain/io/TokenKind" "IDENTIFIER" "Lcom/example/avain/avain/io/TokenKind;" (.ref a0)) (Z1 : Sta Z Z.heap "com/example/avain/avain/io/TokenKind" "COLON" "Lcom/example/avain/avain/io/TokenKind;" (.ref a1)) (Z2 : Sta Z Z.heap "com/example/avain/avain/io/TokenKind" "SEMICOLON" "Lcom/example/avain/avain/io/TokenKind;" (.ref a2)) (Z3 : Sta Z Z.heap "com/example/avain/avain/io/TokenKind" "COMMA" "Lcom/example/avain/avain/io/TokenKind;" (.ref a3)) (Z4 : Sta Z Z.heap "com/example/avain/avain/io/TokenKind" "LEFT_PAREN" "Lcom/example/avain/avain/io/TokenKind;" (.ref a4)) (Z5 : Sta Z Z.heap "com/example/avain/avain/io/TokenKind" "RIGHT_PAREN" "Lcom/example/avain/avain/io/TokenKind;" (.ref a5)) (Z6 : Sta Z Z.heap "com/example/avain/avain/io/TokenKind" "LEFT_BRACE" "Lcom/example/avain/avain/io/TokenKind;" (.ref a6)) (Z7 : Sta Z Z.heap "com/example/avain/avain/io/TokenKind" "RIGHT_BRACE" "Lcom/example/avain/avain/io/TokenKind;" (.ref a7)) (Z8 : Sta Z Z.heap "com/example/avain/avain/io/TokenKind" "LEFT_SEAL" "Lcom/example/avain/avain/io/TokenKind;" (.ref a8)) (Z9 : Sta Z Z.heap "com/example/avain/avain/io/TokenKind" "RIGHT_SEAL" "Lcom/example/avain/avain/io/TokenKind;" (.ref a9)) (Z10 : Sta Z Z.heap "com/example/avain/avain/io/TokenKind" "ARROW" "Lcom/example/avain/avain/io/TokenKind;" (.ref a10)) (Z11 : Sta Z Z.heap "com/example/avain/avain/io/TokenKind" "AUTHENTIC_ARROW" "Lcom/example/avain/avain/io/TokenKind;" (.ref a11)) (Z12 : Sta Z Z.heap "com/example/avain/avain/io/TokenKind" "CONFIDENTIAL_ARROW" "Lcom/example/avain/avain/io/TokenKind;" (.ref a12)) (Z13 : Sta Z Z.heap "com/example/avain/avain/io/TokenKind" "SECURE_ARROW" "Lcom/example/avain/avain/io/TokenKind;" (.ref a13)) (Z14 : Sta Z Z.heap "com/example/avain/avain/io/TokenKind" "END" "Lcom/example/avain/avain/io/TokenKind;" (.ref a14)) (HO : ∀ k, inK k → Fld Z Z.heap (kf a0 a1 a2 a3 a4 a5 a6 a7 a8 a9 a10 a11 a12 a13 a14 k) "java/lang/Enum" "ordinal" "I" (.int k)) (HX : ∀ k, inK k → Exa Z Z.heap (kf a0 a1 a2 a3 a4 a5 a6 a7 a8 a9 a10 a11 a12 a13 a14 k) "com/example/avain/avain/io/TokenKind") {h0 : Heap} : G_law l Z n0 0 0 [] h0 0 #[.val (.int p0), .val (.int p1), .val (.int p2), .val (.int p3), .val (.int p4), .val (.int p5), .unset, .unset, .unset, .unset, .unset, .unset, .unset, .unset, .unset, .unset, .unset, .unset, .unset, .unset, .unset] [] := by
  refine Go.iloadN 1 at_0 rfl rfl ?_
  refine Go.ldcI 3 at_1 rfl (w0 hw) ?_
  refine Go.iand 4 at_3 rfl ?_
  refine Go.bipush 6 (15 : Int32) at_4 rfl rfl ?_
  refine Go.irem 7 at_6 rfl (by decide) ?_
  refine Go.istore 9 #[.val (.int p0), .val (.int p1), .val (.int p2), .val (.int p3), .val (.int p4), .val (.int p5), .val (.int ((p0 &&& (2147483647 : Int32)) % (15 : Int32))), .unset, .unset, .unset, .unset, .unset, .unset, .unset, .unset, .unset, .unset, .unset, .unset, .unset, .unset] at_7 rfl rfl ?_
  obtain ⟨k1, e_k1⟩ : ∃ y_ : Int32, y_ = ((p0 &&& (2147483647 : Int32)) % (15 : Int32)) := ⟨_, rfl⟩
  have b_k1 : inK k1 := by rw [e_k1]; exact rem15 (nonneg_and _ (by decide))
  rw [← e_k1]
  show G_law l Z n0 0 0 [] h0 9 #[.val (.int p0), .val (.int p1), .val (.int p2), .val (.int p3), .val (.int p4), .val (.int p5), .val (.int k1), .unset, .unset, .unset, .unset, .unset, .unset, .unset, .unset, .unset, .unset, .unset, .unset, .unset, .unset] []
  refine Go.iload 11 at_9 rfl rfl ?_
  refine Go.iconst 12 (1 : Int32) at_11 rfl rfl ?_
  refine Go.iand 13 at_12 rfl ?_
  have cut32 : ∀ (k2 : Int32) (b_k2 : inK k2), G_law l Z n0 0 0 [] h0 32 #[.val (.int p0), .val (.int p1), .val (.int p2), .val (.int p3), .val (.int p4), .val (.int p5), .val (.int k1), .unset, .unset, .unset, .unset, .unset, .unset, .unset, .unset, .unset, .unset, .unset, .unset, .unset, .unset] [(.int k2)] := by
    intro k2 b_k2
    refine Go.istore 34 #[.val (.int p0), .val (.int p1), .val (.int p2), .val (.int p3), .val (.int p4), .val (.int p5), .val (.int k1), .val (.int k2), .unset, .unset, .unset, .unset, .unset, .unset, .unset, .unset, .unset, .unset, .unset, .unset, .unset] at_32 rfl rfl ?_
    refine Go.iloadN 35 at_34 rfl rfl ?_
    refine Go.iconst 36 (3 : Int32) at_35 rfl rfl ?_
    refine Go.iand 37 at_36 rfl ?_
    refine Go.iconst 38 (3 : Int32) at_37 rfl rfl ?_
    refine Go.irem 39 at_38 rfl (by decide) ?_
    refine Go.istore 41 #[.val (.int p0), .val (.int p1), .val (.int p2), .val (.int p3), .val (.int p4), .val (.int p5), .val (.int k1), .val (.int k2), .val (.int ((p1 &&& (3 : Int32)) % (3 : Int32))), .unset, .unset, .unset, .unset, .unset, .unset, .unset, .unset, .unset, .unset, .unset, .unset] at_39 rfl rfl ?_
    refine Go.iloadN 42 at_41 rfl rfl ?_
    refine Go.iconst 43 (2 : Int32) at_42 rfl rfl ?_
    refine Go.iushr 44 at_43 rfl ?_
    refine Go.sipush 47 (255 : Int32) at_44 rfl rfl ?_
    refine Go.iand 48 at_47 rfl ?_
    refine Go.i2c 49 at_48 rfl ?_
    refine Go.istore 51 #[.val (.int p0), .val (.int p1), .val (.int p2), .val (.int p3), .val (.int p4), .val (.int p5), .val (.int k1), .val (.int k2), .val (.int ((p1 &&& (3 : Int32)) % (3 : Int32))), .val (.int (chr ((ushr p1 (2 : Int32)) &&& (255 : Int32)))), .unset, .unset, .unset, .unset, .unset, .unset, .unset, .unset, .unset, .unset, .unset] at_49 rfl rfl ?_
    refine Go.iloadN 52 at_51 rfl rfl ?_
    refine Go.bipush 54 (10 : Int32) at_52 rfl rfl ?_
    refine Go.iushr 55 at_54 rfl ?_
    refine Go.sipush 58 (255 : Int32) at_55 rfl rfl ?_
    refine Go.iand 59 at_58 rfl ?_
    refine Go.i2c 60 at_59 rfl ?_
    refine Go.istore 62 #[.val (.int p0), .val (.int p1), .val (.int p2), .val (.int p3), .val (.int p4), .val (.int p5), .val (.int k1), .val (.int k2), .val (.int ((p1 &&& (3 : Int32)) % (3 : Int32))), .val (.int (chr ((ushr p1 (2 : Int32)) &&& (255 : Int32)))), .val (.int (chr ((ushr p1 (10 : Int32)) &&& (255 : Int32)))), .unset, .unset, .unset, .unset, .unset, .unset, .unset, .unset, .unset, .unset] at_60 rfl rfl ?_
    obtain ⟨n1, e_n1⟩ : ∃ y_ : Int32, y_ = ((p1 &&& (3 : Int32)) % (3 : Int32)) := ⟨_, rfl⟩
    have b_n1 : n1 = 0 ∨ n1 = 1 ∨ n1 = 2 := by rw [e_n1]; exact rem3 (nonneg_and _ (by decide))
    rw [← e_n1]
    show G_law l Z n0 0 0 [] h0 62 #[.val (.int p0), .val (.int p1), .val (.int p2), .val (.int p3), .val (.int p4), .val (.int p5), .val (.int k1), .val (.int k2), .val (.int n1), .val (.int (chr ((ushr p1 (2 : Int32)) &&& (255 : Int32)))), .val (.int (chr ((ushr p1 (10 : Int32)) &&& (255 : Int32)))), .unset, .unset, .unset, .unset, .unset, .unset, .unset, .unset, .unset, .unset] []
    obtain ⟨u0, e_u0⟩ : ∃ y_ : Int32, y_ = (chr ((ushr p1 (2 : Int32)) &&& (255 : Int32))) := ⟨_, rfl⟩
    have b_u0 : ¬ u0 < 0 ∧ ¬ (255 : Int32) < u0 := by rw [e_u0]; exact chr255 _
    rw [← e_u0]
    show G_law l Z n0 0 0 [] h0 62 #[.val (.int p0), .val (.int p1), .val (.int p2), .val (.int p3), .val (.int p4), .val (.int p5), .val (.int k1), .val (.int k2), .val (.int n1), .val (.int u0), .val (.int (chr ((ushr p1 (10 : Int32)) &&& (255 : Int32)))), .unset, .unset, .unset, .unset, .unset, .unset, .unset, .unset, .unset, .unset] []
    obtain ⟨u1, e_u1⟩ : ∃ y_ : Int32, y_ = (chr ((ushr p1 (10 : Int32)) &&& (255 : Int32))) := ⟨_, rfl⟩
    have b_u1 : ¬ u1 < 0 ∧ ¬ (255 : Int32) < u1 := by rw [e_u1]; exact chr255 _
    rw [← e_u1]
    show G_law l Z n0 0 0 [] h0 62 #[.val (.int p0), .val (.int p1), .val (.int p2), .val (.int p3), .val (.int p4), .val (.int p5), .val (.int k1), .val (.int k2), .val (.int n1), .val (.int u0), .val (.int u1), .unset, .unset, .unset, .unset, .unset, .unset, .unset, .unset, .unset, .unset] []
    refine Go.iload 64 at_62 rfl rfl ?_
    refine Go.iconst 65 (2 : Int32) at_64 rfl rfl ?_
    refine Go.iand 66 at_65 rfl ?_
    have cut116 : ∀ (n2 v0 v1 : Int32) (b_n2 : n2 = 0 ∨ n2 = 1 ∨ n2 = 2) (b_v0 : ¬ v0 < 0 ∧ ¬ (255 : Int32) < v0) (b_v1 : ¬ v1 < 0 ∧ ¬ (255 : Int32) < v1), G_law l Z n0 0 0 [] h0 116 #[.val (.int p0), .val (.int p1), .val (.int p2), .val (.int p3), .val (.int p4), .val (.int p5), .val (.int k1), .val (.int k2), .val (.int n1), .val (.int u0), .val (.int u1), .val (.int n2), .val (.int v0), .val (.int v1), .unset, .unset, .unset, .unset, .unset, .unset, .unset] [] := by
      intro n2 v0 v1 b_n2 b_v0 b_v1
      refine Go.iload 118 at_116 rfl rfl ?_
      refine Go.iconst 119 (4 : Int32) at_118 rfl rfl ?_
      refine Go.iand 120 at_119 rfl ?_
      have cut131 : ∀ (l2 : Int32), G_law l Z n0 0 0 [] h0 131 #[.val (.int p0), .val (.int p1), .val (.int p2), .val (.int p3), .val (.int p4), .val (.int p5), .val (.int k1), .val (.int k2), .val (.int n1), .val (.int u0), .val (.int u1), .val (.int n2), .val (.int v0), .val (.int v1), .unset, .unset, .unset, .unset, .unset, .unset, .unset] [(.int l2)] := by
        intro l2
        refine Go.istore 133 #[.val (.int p0), .val (.int p1), .val (.int p2), .val (.int p3), .val (.int p4), .val (.int p5), .val (.int k1), .val (.int k2), .val (.int n1), .val (.int u0), .val (.int u1), .val (.int n2), .val (.int v0), .val (.int v1), .val (.int l2), .unset, .unset, .unset, .unset, .unset, .unset] at_131 rfl rfl ?_
        refine Go.iload 135 at_133 rfl rfl ?_
        refine Go.bipush 137 (8 : Int32) at_135 rfl rfl ?_
        refine Go.iand 138 at_137 rfl ?_
        have cut152 : ∀ (m2 : Int32), G_law l Z n0 0 0 [] h0 152 #[.val (.int p0), .val (.int p1), .val (.int p2), .val (.int p3), .val (.int p4), .val (.int p5), .val (.int k1), .val (.int k2), .val (.int n1), .val (.int u0), .val (.int u1), .val (.int n2), .val (.int v0), .val (.int v1), .val (.int l2), .unset, .unset, .unset, .unset, .unset, .unset] [(.int m2)] := by
          intro m2
          refine Go.istore 154 #[.val (.int p0), .val (.int p1), .val (.int p2), .val (.int p3), .val (.int p4), .val (.int p5), .val (.int k1), .val (.int k2), .val (.int n1), .val (.int u0), .val (.int u1), .val (.int n2), .val (.int v0), .val (.int v1), .val (.int l2), .val (.int m2), .unset, .unset, .unset, .unset, .unset] at_152 rfl rfl ?_
          refine Go.new 157 at_154 rfl (w1 hw) (w2 hw) (w3 hw) (Nat.le_of_ble_eq_true rfl) (Nat.le_of_ble_eq_true rfl) (fun h_1 x_2 g_3 q_4 E_5 lt_6 A_7 D_8 => ?_)
          show G_law l Z n0 1 4 [x_2] h_1 157 #[.val (.int p0), .val (.int p1), .val (.int p2), .val (.int p3), .val (.int p4), .val (.int p5), .val (.int k1), .val (.int k2), .val (.int n1), .val (.int u0), .val (.int u1), .val (.int n2), .val (.int v0), .val (.int v1), .val (.int l2), .val (.int m2), .unset, .unset, .unset, .unset, .unset] [(.ref x_2)]
          refine Go.dup 158 at_157 rfl rfl ?_
          refine Go.iload 160 at_158 rfl rfl ?_
          refine Go.callS (S := [(.ref x_2), (.ref x_2)]) 163 [(.int k1)] at_160 rfl rfl (w4 hw) (w5 hw) (w6 hw) (w7 hw) (by decide) (call_of_go (R := _) (len := 3) (W := 2) pn_2 (fun m => ef_kind m k1 a0 a1 a2 a3 a4 a5 a6 a7 a8 a9 a10 a11 a12 a13 a14) (c_kind hw k1 a0 a1 a2 a3 a4 a5 a6 a7 a8 a9 a10 a11 a12 a13 a14 Z0 Z1 Z2 Z3 Z4 Z5 Z6 Z7 Z8 Z9 Z10 Z11 Z12 Z13 Z14) (w7 hw) (w6 hw) (by decide) (by decide)) (lenOf pd_4 rfl) (Nat.le_of_ble_eq_true rfl) rfl (Nat.le_of_ble_eq_true rfl) (Nat.le_of_ble_eq_true rfl) (fun _ q => nomatch q) (fun v h_9 sf_10 hq => ?_)
          obtain ⟨rfl, rfl⟩ := hq
          obtain ⟨kd1, e_kd1⟩ : ∃ y_ : Addr, y_ = kf a0 a1 a2 a3 a4 a5 a6 a7 a8 a9 a10 a11 a12 a13 a14 k1 := ⟨_, rfl⟩
          rw [← e_kd1]
          refine Go.more (sf' := [x_2]) ?_ (Nat.le_refl _) (Nat.le_refl _) (fun _ q => List.mem_append_right _ q)
          show G_law l Z n0 1 4 [x_2] h_1 163 #[.val (.int p0), .val (.int p1), .val (.int p2), .val (.int p3), .val (.int p4), .val (.int p5), .val (.int k1), .val (.int k2), .val (.int n1), .val (.int u0), .val (.int u1), .val (.int n2), .val (.int v0), .val (.int v1), .val (.int l2), .val (.int m2), .unset, .unset, .unset, .unset, .unset] [(.ref kd1), (.ref x_2), (.ref x_2)]
          refine Go.old fun o_11 _ => ?_
          have EX_kd1 : Exa Z h_1 kd1 "com/example/avain/avain/io/TokenKind" := by rw [e_kd1]; exact (HX _ b_k1).ext o_11.2
          refine Go.iload 165 at_163 rfl rfl ?_
          refine Go.iload 167 at_165 rfl rfl ?_
          refine Go.iload 169 at_167 rfl rfl ?_
          refine Go.callS (S := [(.ref kd1), (.ref x_2), (.ref x_2)]) 172 [(.int n1), (.int u0), (.int u1)] at_169 rfl rfl (w11 hw) (w12 hw) (w6 hw) (w13 hw) (by decide) (call_of_go (R := _) (len := 3) (W := 3) pn_2 (fun m => ef_str m n1 u0 u1 z) (c_str hw n1 u0 u1 z b_u0 b_u1 SC hz) (w13 hw) (w6 hw) (by decide) (by decide)) (lenOf pd_5 rfl) (Nat.le_of_ble_eq_true rfl) rfl (Nat.le_of_ble_eq_true rfl) (Nat.le_of_ble_eq_true rfl) (fun _ q => nomatch q) (fun v h_12 sf_17 hq => ?_)
          obtain ⟨x_13, rfl, E_14, le_15, S_16⟩ := hq
          refine Go.more (sf' := [x_2]) ?_ (Nat.le_refl _) (Nat.le_refl _) (fun _ q => List.mem_append_right _ q)
          show G_law l Z n0 7 16 [x_2] h_12 172 #[.val (.int p0), .val (.int p1), .val (.int p2), .val (.int p3), .val (.int p4), .val (.int p5), .val (.int k1), .val (.int k2), .val (.int n1), .val (.int u0), .val (.int u1), .val (.int n2), .val (.int v0), .val (.int v1), .val (.int l2), .val (.int m2), .unset, .unset, .unset, .unset, .unset] [(.ref x_13), (.ref kd1), (.ref x_2), (.ref x_2)]
          refine Go.iloadN 173 at_172 rfl rfl ?_
          refine Go.iloadN 174 at_173 rfl rfl ?_
          have f_18 := A_7.ext E_14
          have f_19 := (D_8 (Or.inr (w48 hw)) (ty := (.object "com/example/avain/avain/io/TokenKind")) (by decide)).ext E_14
          have f_20 := EX_kd1.ext E_14
          refine Go.callC (S := [(.ref x_2)]) (a := x_2) 177 [(.ref kd1), (.ref x_13), (.int p2), (.int p3)] at_174 rfl rfl rfl (w36 hw) (w37 hw) (w38 hw) (by decide) (call_of_go (R := _) (len := 3) (W := 1) pn_3 (fun m => ef_tokinit m x_2 kd1 x_13 p2 p3) (c_tokinit hw x_2 kd1 x_13 p2 p3 f_18 q_4 f_19 f_20 S_16.exa) (w38 hw) (w3 hw) (by decide) (by decide)) (lenOf pd_6 rfl) (Nat.le_of_ble_eq_true rfl) rfl (Nat.le_of_ble_eq_true rfl) (Nat.le_of_ble_eq_true rfl) (sub1 (List.mem_of_getElem? (i := 0) rfl)) (fun v h_27 sf_28 hq => ?_)
          obtain ⟨rfl, K_21, A_22, f_23, f_24, f_25, f_26⟩ := hq
          refine Go.more (sf' := [x_2]) ?_ (Nat.le_refl _) (Nat.le_refl _) (fun _ q => List.mem_append_right _ q)
          show G_law l Z n0 11 56 [x_2] h_27 177 #[.val (.int p0), .val (.int p1), .val (.int p2), .val (.int p3), .val (.int p4), .val (.int p5), .val (.int k1), .val (.int k2), .val (.int n1), .val (.int u0), .val (.int u1), .val (.int n2), .val (.int v0), .val (.int v1), .val (.int l2), .val (.int m2), .unset, .unset, .unset, .unset, .unset] [(.ref x_2)]
          refine Go.astore 179 #[.val (.int p0), .val (.int p1), .val (.int p2), .val (.int p3), .val (.int p4), .val (.int p5), .val (.int k1), .val (.int k2), .val (.int n1), .val (.int u0), .val (.int u1), .val (.int n2), .val (.int v0), .val (.int v1), .val (.int l2), .val (.int m2), .val (.ref x_2), .unset, .unset, .unset, .unset] at_177 rfl rfl rfl ?_
          refine Go.new 182 at_179 rfl (w1 hw) (w2 hw) (w3 hw) (Nat.le_of_ble_eq_true rfl) (Nat.le_of_ble_eq_true rfl) (fun h_29 x_30 g_31 q_32 E_33 lt_34 A_35 D_36 => ?_)
          show G_law l Z n0 12 60 [x_30, x_2] h_29 182 #[.val (.int p0), .val (.int p1), .val (.int p2), .val (.int p3), .val (.int p4), .val (.int p5), .val (.int k1), .val (.int k2), .val (.int n1), .val (.int u0), .val (.int u1), .val (.int n2), .val (.int v0), .val (.int v1), .val (.int l2), .val (.int m2), .val (.ref x_2), .unset, .unset, .unset, .unset] [(.ref x_30)]
          refine Go.dup 183 at_182 rfl rfl ?_
          refine Go.iload 185 at_183 rfl rfl ?_
          refine Go.callS (S := [(.ref x_30), (.ref x_30)]) 188 [(.int k2)] at_185 rfl rfl (w4 hw) (w5 hw) (w6 hw) (w7 hw) (by decide) (call_of_go (R := _) (len := 3) (W := 2) pn_2 (fun m => ef_kind m k2 a0 a1 a2 a3 a4 a5 a6 a7 a8 a9 a10 a11 a12 a13 a14) (c_kind hw k2 a0 a1 a2 a3 a4 a5 a6 a7 a8 a9 a10 a11 a12 a13 a14 Z0 Z1 Z2 Z3 Z4 Z5 Z6 Z7 Z8 Z9 Z10 Z11 Z12 Z13 Z14) (w7 hw) (w6 hw) (by decide) (by decide)) (lenOf pd_4 rfl) (Nat.le_of_ble_eq_true rfl) rfl (Nat.le_of_ble_eq_true rfl) (Nat.le_of_ble_eq_true rfl) (fun _ q => nomatch q) (fun v h_37 sf_38 hq => ?_)
          obtain ⟨rfl, rfl⟩ := hq
          obtain ⟨kd2, e_kd2⟩ : ∃ y_ : Addr, y_ = kf a0 a1 a2 a3 a4 a5 a6 a7 a8 a9 a10 a11 a12 a13 a14 k2 := ⟨_, rfl⟩
          rw [← e_kd2]
          refine Go.more (sf' := [x_30, x_2]) ?_ (Nat.le_refl _) (Nat.le_refl _) (fun _ q => List.mem_append_right _ q)
          show G_law l Z n0 12 60 [x_30, x_2] h_29 188 #[.val (.int p0), .val (.int p1), .val (.int p2), .val (.int p3), .val (.int p4), .val (.int p5), .val (.int k1), .val (.int k2), .val (.int n1), .val (.int u0), .val (.int u1), .val (.int n2), .val (.int v0), .val (.int v1), .val (.int l2), .val (.int m2), .val (.ref x_2), .unset, .unset, .unset, .unset] [(.ref kd2), (.ref x_30), (.ref x_30)]
          refine Go.old fun o_39 _ => ?_
          have EX_kd2 : Exa Z h_29 kd2 "com/example/avain/avain/io/TokenKind" := by rw [e_kd2]; exact (HX _ b_k2).ext o_39.2
          refine Go.iload 190 at_188 rfl rfl ?_
          refine Go.iload 192 at_190 rfl rfl ?_
          refine Go.iload 194 at_192 rfl rfl ?_
          refine Go.callS (S := [(.ref kd2), (.ref x_30), (.ref x_30)]) 197 [(.int n2), (.int v0), (.int v1)] at_194 rfl rfl (w11 hw) (w12 hw) (w6 hw) (w13 hw) (by decide) (call_of_go (R := _) (len := 3) (W := 3) pn_2 (fun m => ef_str m n2 v0 v1 z) (c_str hw n2 v0 v1 z b_v0 b_v1 SC hz) (w13 hw) (w6 hw) (by decide) (by decide)) (lenOf pd_5 rfl) (Nat.le_of_ble_eq_true rfl) rfl (Nat.le_of_ble_eq_true rfl) (Nat.le_of_ble_eq_true rfl) (fun _ q => nomatch q) (fun v h_40 sf_45 hq => ?_)
          obtain ⟨x_41, rfl, E_42, le_43, S_44⟩ := hq
          refine Go.more (sf' := [x_30, x_2]) ?_ (Nat.le_refl _) (Nat.le_refl _) (fun _ q => List.mem_append_right _ q)
          show G_law l Z n0 18 72 [x_30, x_2] h_40 197 #[.val (.int p0), .val (.int p1), .val (.int p2), .val (.int p3), .val (.int p4), .val (.int p5), .val (.int k1), .val (.int k2), .val (.int n1), .val (.int u0), .val (.int u1), .val (.int n2), .val (.int v0), .val (.int v1), .val (.int l2), .val (.int m2), .val (.ref x_2), .unset, .unset, .unset, .unset] [(.ref x_41), (.ref kd2), (.ref x_30), (.ref x_30)]
          refine Go.iload 199 at_197 rfl rfl ?_
          refine Go.iload 201 at_199 rfl rfl ?_
          have f_46 := A_35.ext E_42
          have f_47 := (D_36 (Or.inr (w48 hw)) (ty := (.object "com/example/avain/avain/io/TokenKind")) (by decide)).ext E_42
          have f_48 := EX_kd2.ext E_42
          refine Go.callC (S := [(.ref x_30)]) (a := x_30) 204 [(.ref kd2), (.ref x_41), (.int l2), (.int m2)] at_201 rfl rfl rfl (w36 hw) (w37 hw) (w38 hw) (by decide) (call_of_go (R := _) (len := 3) (W := 1) pn_3 (fun m => ef_tokinit m x_30 kd2 x_41 l2 m2) (c_tokinit hw x_30 kd2 x_41 l2 m2 f_46 q_32 f_47 f_48 S_44.exa) (w38 hw) (w3 hw) (by decide) (by decide)) (lenOf pd_6 rfl) (Nat.le_of_ble_eq_true rfl) rfl (Nat.le_of_ble_eq_true rfl) (Nat.le_of_ble_eq_true rfl) (sub1 (List.mem_of_getElem? (i := 0) rfl)) (fun v h_55 sf_56 hq => ?_)
          obtain ⟨rfl, K_49, A_50, f_51, f_52, f_53, f_54⟩ := hq
          refine Go.more (sf' := [x_30, x_2]) ?_ (Nat.le_refl _) (Nat.le_refl _) (fun _ q => List.mem_append_right _ q)
          show G_law l Z n0 22 112 [x_30, x_2] h_55 204 #[.val (.int p0), .val (.int p1), .val (.int p2), .val (.int p3), .val (.int p4), .val (.int p5), .val (.int k1), .val (.int k2), .val (.int n1), .val (.int u0), .val (.int u1), .val (.int n2), .val (.int v0), .val (.int v1), .val (.int l2), .val (.int m2), .val (.ref x_2), .unset, .unset, .unset, .unset] [(.ref x_30)]
          refine Go.astore 206 #[.val (.int p0), .val (.int p1), .val (.int p2), .val (.int p3), .val (.int p4), .val (.int p5), .val (.int k1), .val (.int k2), .val (.int n1), .val (.int u0), .val (.int u1), .val (.int n2), .val (.int v0), .val (.int v1), .val (.int l2), .val (.int m2), .val (.ref x_2), .val (.ref x_30), .unset, .unset, .unset] at_204 rfl rfl rfl ?_
          refine Go.iload 208 at_206 rfl rfl ?_
          refine Go.iconst 209 (4 : Int32) at_208 rfl rfl ?_
          refine Go.iushr 210 at_209 rfl ?_
          refine Go.iconst 211 (3 : Int32) at_210 rfl rfl ?_
          refine Go.iand 212 at_211 rfl ?_
          refine Go.istore 214 #[.val (.int p0), .val (.int p1), .val (.int p2), .val (.int p3), .val (.int p4), .val (.int p5), .val (.int k1), .val (.int k2), .val (.int n1), .val (.int u0), .val (.int u1), .val (.int n2), .val (.int v0), .val (.int v1), .val (.int l2), .val (.int m2), .val (.ref x_2), .val (.ref x_30), .val (.int ((ushr p5 (4 : Int32)) &&& (3 : Int32))), .unset, .unset] at_212 rfl rfl ?_
          obtain ⟨se, e_se⟩ : ∃ y_ : Int32, y_ = ((ushr p5 (4 : Int32)) &&& (3 : Int32)) := ⟨_, rfl⟩
          rw [← e_se]
          show G_law l Z n0 22 112 [x_30, x_2] h_55 214 #[.val (.int p0), .val (.int p1), .val (.int p2), .val (.int p3), .val (.int p4), .val (.int p5), .val (.int k1), .val (.int k2), .val (.int n1), .val (.int u0), .val (.int u1), .val (.int n2), .val (.int v0), .val (.int v1), .val (.int l2), .val (.int m2), .val (.ref x_2), .val (.ref x_30), .val (.int se), .unset, .unset] []
          refine Go.iload 216 at_214 rfl rfl ?_
          refine Go.iconst 217 (1 : Int32) at_216 rfl rfl ?_
          by_cases hc217 : se = (1 : Int32)
          · skip
            refine Go.icmpN 220 at_217 rfl (teq hc217).2 ?_
            refine Go.aload 222 at_220 rfl rfl rfl ?_
            refine Go.aconstNull 223 at_222 rfl ?_
            have X_59 : Ext h_27 h_40 := extT E_33 E_42
            have X_60 : Ext h_27 h_55 := extK X_59 K_49 (allS (Nat.le_of_eq g_31) all0)
            have f_61 := A_22.ext X_60
            refine Go.callV (S := []) (a := x_2) 226 [.null] at_223 rfl rfl (w57 hw) (w58 hw) (w60 hw) (w59 hw) (fun _ q => notFace_of_selects (args := #[]) (mvT q (w60 hw))) (by decide) f_61 (call_of_go (R := _) (len := 3) (W := 0) pn_3 (fun m => ef_teqnull m x_2) (c_teqnull hw x_2 ) (w61 hw) (w3 hw) (by decide) (by decide)) (lenOf pd_3 rfl) (Nat.le_of_ble_eq_true rfl) rfl (Nat.le_of_ble_eq_true rfl) (Nat.le_of_ble_eq_true rfl) (fun _ q => nomatch q) (fun v h_57 sf_58 hq => ?_)
            obtain ⟨rfl, rfl⟩ := hq
            refine Go.more (sf' := [x_30, x_2]) ?_ (Nat.le_refl _) (Nat.le_refl _) (fun _ q => List.mem_append_right _ q)
            show G_law l Z n0 22 112 [x_30, x_2] h_55 226 #[.val (.int p0), .val (.int p1), .val (.int p2), .val (.int p3), .val (.int p4), .val (.int p5), .val (.int k1), .val (.int k2), .val (.int n1), .val (.int u0), .val (.int u1), .val (.int n2), .val (.int v0), .val (.int v1), .val (.int l2), .val (.int m2), .val (.ref x_2), .val (.ref x_30), .val (.int se), .unset, .unset] [(.int (0 : Int32))]
            refine Go.ifN 229 at_226 rfl (teq (by decide)).2 ?_
            refine Go.iconst 230 (1 : Int32) at_229 rfl rfl ?_
            refine Go.goto 234 at_230 (by decide) (by decide) ?_
            exact Go.retN (1 : Int32) at_234 rfl (t := .boolean) (by simp) rfl (sf' := []) (rfl) (fun _ q => nomatch q) (Nat.le_of_ble_eq_true rfl) (Nat.le_of_ble_eq_true rfl)
          · skip
            refine Go.icmpY 235 at_217 (by decide) (by decide) (feq hc217).2 ?_
            refine Go.iload 237 at_235 rfl rfl ?_
            refine Go.iconst 238 (2 : Int32) at_237 rfl rfl ?_
            by_cases hc238 : se = (2 : Int32)
            · skip
              refine Go.icmpN 241 at_238 rfl (teq hc238).2 ?_
              refine Go.aload 243 at_241 rfl rfl rfl ?_
              refine Go.iload 245 at_243 rfl rfl ?_
              refine Go.iload 247 at_245 rfl rfl ?_
              refine Go.iload 249 at_247 rfl rfl ?_
              refine Go.callS (S := [(.ref x_2)]) 252 [(.int n1), (.int u0), (.int u1)] at_249 rfl rfl (w11 hw) (w12 hw) (w6 hw) (w13 hw) (by decide) (call_of_go (R := _) (len := 3) (W := 1) pn_2 (fun m => ef_str m n1 u0 u1 z) (c_str hw n1 u0 u1 z b_u0 b_u1 SC hz) (w13 hw) (w6 hw) (by decide) (by decide)) (lenOf pd_5 rfl) (Nat.le_of_ble_eq_true rfl) rfl (Nat.le_of_ble_eq_true rfl) (Nat.le_of_ble_eq_true rfl) (fun _ q => nomatch q) (fun v h_62 sf_67 hq => ?_)
              obtain ⟨x_63, rfl, E_64, le_65, S_66⟩ := hq
              refine Go.more (sf' := [x_30, x_2]) ?_ (Nat.le_refl _) (Nat.le_refl _) (fun _ q => List.mem_append_right _ q)
              show G_law l Z n0 28 124 [x_30, x_2] h_62 252 #[.val (.int p0), .val (.int p1), .val (.int p2), .val (.int p3), .val (.int p4), .val (.int p5), .val (.int k1), .val (.int k2), .val (.int n1), .val (.int u0), .val (.int u1), .val (.int n2), .val (.int v0), .val (.int v1), .val (.int l2), .val (.int m2), .val (.ref x_2), .val (.ref x_30), .val (.int se), .unset, .unset] [(.ref x_63), (.ref x_2)]
              have X_70 : Ext h_27 h_40 := extT E_33 E_42
              have X_71 : Ext h_27 h_55 := extK X_70 K_49 (allS (Nat.le_of_eq g_31) all0)
              have X_72 : Ext h_27 h_62 := extT X_71 E_64
              have f_73 := A_22.ext X_72
              refine Go.callV (S := []) (a := x_2) 255 [(.ref x_63)] at_252 rfl rfl (w57 hw) (w58 hw) (w60 hw) (w59 hw) (fun _ q => notFace_of_selects (args := #[]) (mvT q (w60 hw))) (by decide) f_73 (call_of_go (R := _) (len := 3) (W := 0) pn_3 (fun m => ef_teqstr m x_2 x_63) (c_teqstr hw x_2 x_63 S_66.exa) (w61 hw) (w3 hw) (by decide) (by decide)) (lenOf pd_3 rfl) (Nat.le_of_ble_eq_true rfl) rfl (Nat.le_of_ble_eq_true rfl) (Nat.le_of_ble_eq_true rfl) (fun _ q => nomatch q) (fun v h_68 sf_69 hq => ?_)
              obtain ⟨rfl, rfl⟩ := hq
              refine Go.more (sf' := [x_30, x_2]) ?_ (Nat.le_refl _) (Nat.le_refl _) (fun _ q => List.mem_append_right _ q)
              show G_law l Z n0 28 124 [x_30, x_2] h_62 255 #[.val (.int p0), .val (.int p1), .val (.int p2), .val (.int p3), .val (.int p4), .val (.int p5), .val (.int k1), .val (.int k2), .val (.int n1), .val (.int u0), .val (.int u1), .val (.int n2), .val (.int v0), .val (.int v1), .val (.int l2), .val (.int m2), .val (.ref x_2), .val (.ref x_30), .val (.int se), .unset, .unset] [(.int (0 : Int32))]
              refine Go.ifN 258 at_255 rfl (teq (by decide)).2 ?_
              refine Go.iconst 259 (1 : Int32) at_258 rfl rfl ?_
              refine Go.goto 263 at_259 (by decide) (by decide) ?_
              exact Go.retN (1 : Int32) at_263 rfl (t := .boolean) (by simp) rfl (sf' := []) (rfl) (fun _ q => nomatch q) (Nat.le_of_ble_eq_true rfl) (Nat.le_of_ble_eq_true rfl)
            · skip
              refine Go.icmpY 264 at_238 (by decide) (by decide) (feq hc238).2 ?_
              refine Go.iload 266 at_264 rfl rfl ?_
              refine Go.iload 268 at_266 rfl rfl ?_
              have cut302 : ∀ (sm : Int32) (hsm : (sm = 1 ∧ (n1 = n2 ∧ (n1 < 1 ∨ u0 = v0) ∧ (n1 < 2 ∨ u1 = v1))) ∨ (sm = 0 ∧ ¬ (n1 = n2 ∧ (n1 < 1 ∨ u0 = v0) ∧ (n1 < 2 ∨ u1 = v1)))), G_law l Z n0 22 112 [x_30, x_2] h_55 302 #[.val (.int p0), .val (.int p1), .val (.int p2), .val (.int p3), .val (.int p4), .val (.int p5), .val (.int k1), .val (.int k2), .val (.int n1), .val (.int u0), .val (.int u1), .val (.int n2), .val (.int v0), .val (.int v1), .val (.int l2), .val (.int m2), .val (.ref x_2), .val (.ref x_30), .val (.int se), .unset, .unset] [(.int sm)] := by
                intro sm hsm
                refine Go.istore 304 #[.val (.int p0), .val (.int p1), .val (.int p2), .val (.int p3), .val (.int p4), .val (.int p5), .val (.int k1), .val (.int k2), .val (.int n1), .val (.int u0), .val (.int u1), .val (.int n2), .val (.int v0), .val (.int v1), .val (.int l2), .val (.int m2), .val (.ref x_2), .val (.ref x_30), .val (.int se), .val (.int sm), .unset] at_302 rfl rfl ?_
                refine Go.iload 306 at_304 rfl rfl ?_
                refine Go.iload 308 at_306 rfl rfl ?_
                have cut333 : ∀ (ex : Int32) (hex : (ex = 1 ∧ (k1 = k2 ∧ (n1 = n2 ∧ (n1 < 1 ∨ u0 = v0) ∧ (n1 < 2 ∨ u1 = v1)) ∧ p2 = l2 ∧ p3 = m2)) ∨ (ex = 0 ∧ ¬ (k1 = k2 ∧ (n1 = n2 ∧ (n1 < 1 ∨ u0 = v0) ∧ (n1 < 2 ∨ u1 = v1)) ∧ p2 = l2 ∧ p3 = m2))), G_law l Z n0 22 112 [x_30, x_2] h_55 333 #[.val (.int p0), .val (.int p1), .val (.int p2), .val (.int p3), .val (.int p4), .val (.int p5), .val (.int k1), .val (.int k2), .val (.int n1), .val (.int u0), .val (.int u1), .val (.int n2), .val (.int v0), .val (.int v1), .val (.int l2), .val (.int m2), .val (.ref x_2), .val (.ref x_30), .val (.int se), .val (.int sm), .unset] [(.int ex)] := by
                  intro ex hex
                  refine Go.istore 335 #[.val (.int p0), .val (.int p1), .val (.int p2), .val (.int p3), .val (.int p4), .val (.int p5), .val (.int k1), .val (.int k2), .val (.int n1), .val (.int u0), .val (.int u1), .val (.int n2), .val (.int v0), .val (.int v1), .val (.int l2), .val (.int m2), .val (.ref x_2), .val (.ref x_30), .val (.int se), .val (.int sm), .val (.int ex)] at_333 rfl rfl ?_
                  refine Go.aload 337 at_335 rfl rfl rfl ?_
                  refine Go.aload 339 at_337 rfl rfl rfl ?_
                  have X_74 : Ext h_27 h_40 := extT E_33 E_42
                  have X_75 : Ext h_27 h_55 := extK X_74 K_49 (allS (Nat.le_of_eq g_31) all0)
                  have f_76 := f_23.ext X_75
                  have f_77 := f_24.ext X_75
                  have f_78 := f_25.ext X_75
                  have f_79 := f_26.ext X_75
                  have f_80 := (Str.keepO (((Str.keepO S_16 f_18 (by decide) (w2 hw) K_21).ext E_33).ext E_42) f_46 (by decide) (w2 hw) K_49)
                  have f_81 := (Str.keepO S_44 f_46 (by decide) (w2 hw) K_49)
                  have f_86 := A_22.ext X_75
                  refine Go.callV (S := []) (a := x_2) 342 [(.ref x_30)] at_339 rfl rfl (w57 hw) (w58 hw) (w60 hw) (w59 hw) (fun _ q => notFace_of_selects (args := #[]) (mvT q (w60 hw))) (by decide) f_86 (call_of_go (R := _) (len := 3) (W := 0) pn_3 (fun m => ef_teq m x_2 x_30 kd1 kd2 x_13 x_41 p2 l2 p3 m2 (strf n1 u0 u1) (strf n2 v0 v1) z) (c_teq hw x_2 x_30 kd1 kd2 x_13 x_41 p2 l2 p3 m2 (strf n1 u0 u1) (strf n2 v0 v1) z f_76 f_77 f_78 f_79 f_51 f_52 f_53 f_54 A_50 f_80 f_81 (strf_len _ _ _) (strf_len _ _ _) SC hz) (w61 hw) (w3 hw) (by decide) (by decide)) (lenOf pd_3 rfl) (Nat.le_of_ble_eq_true rfl) rfl (Nat.le_of_ble_eq_true rfl) (Nat.le_of_ble_eq_true rfl) (fun _ q => nomatch q) (fun v h_84 sf_85 hq => ?_)
                  obtain ⟨rfl, r_82, rfl, hr_83⟩ := hq
                  refine Go.more (sf' := [x_30, x_2]) ?_ (Nat.le_refl _) (Nat.le_refl _) (fun _ q => List.mem_append_right _ q)
                  show G_law l Z n0 22 112 [x_30, x_2] h_55 342 #[.val (.int p0), .val (.int p1), .val (.int p2), .val (.int p3), .val (.int p4), .val (.int p5), .val (.int k1), .val (.int k2), .val (.int n1), .val (.int u0), .val (.int u1), .val (.int n2), .val (.int v0), .val (.int v1), .val (.int l2), .val (.int m2), .val (.ref x_2), .val (.ref x_30), .val (.int se), .val (.int sm), .val (.int ex)] [(.int r_82)]
                  rw [e_kd1, e_kd2, kf_eq HO b_k1 b_k2, strf_eq b_n1 b_n2] at hr_83
                  refine Go.iload 344 at_342 rfl rfl ?_
                  refine Go.icmpN 347 at_344 rfl (teq (same2 hr_83 hex Iff.rfl)).2 ?_
                  refine Go.aload 349 at_347 rfl rfl rfl ?_
                  refine Go.aload 351 at_349 rfl rfl rfl ?_
                  refine Go.callV (S := []) (a := x_30) 354 [(.ref x_2)] at_351 rfl rfl (w57 hw) (w58 hw) (w60 hw) (w59 hw) (fun _ q => notFace_of_selects (args := #[]) (mvT q (w60 hw))) (by decide) A_50 (call_of_go (R := _) (len := 3) (W := 0) pn_3 (fun m => ef_teq m x_30 x_2 kd2 kd1 x_41 x_13 l2 p2 m2 p3 (strf n2 v0 v1) (strf n1 u0 u1) z) (c_teq hw x_30 x_2 kd2 kd1 x_41 x_13 l2 p2 m2 p3 (strf n2 v0 v1) (strf n1 u0 u1) z f_51 f_52 f_53 f_54 f_76 f_77 f_78 f_79 f_86 f_81 f_80 (strf_len _ _ _) (strf_len _ _ _) SC hz) (w61 hw) (w3 hw) (by decide) (by decide)) (lenOf pd_3 rfl) (Nat.le_of_ble_eq_true rfl) rfl (Nat.le_of_ble_eq_true rfl) (Nat.le_of_ble_eq_true rfl) (fun _ q => nomatch q) (fun v h_89 sf_90 hq => ?_)
                  obtain ⟨rfl, r_87, rfl, hr_88⟩ := hq
                  refine Go.more (sf' := [x_30, x_2]) ?_ (Nat.le_refl _) (Nat.le_refl _) (fun _ q => List.mem_append_right _ q)
                  show G_law l Z n0 22 112 [x_30, x_2] h_55 354 #[.val (.int p0), .val (.int p1), .val (.int p2), .val (.int p3), .val (.int p4), .val (.int p5), .val (.int k1), .val (.int k2), .val (.int n1), .val (.int u0), .val (.int u1), .val (.int n2), .val (.int v0), .val (.int v1), .val (.int l2), .val (.int m2), .val (.ref x_2), .val (.ref x_30), .val (.int se), .val (.int sm), .val (.int ex)] [(.int r_87)]
                  rw [e_kd1, e_kd2, kf_eq HO b_k2 b_k1, strf_eq b_n2 b_n1] at hr_88
                  refine Go.iload 356 at_354 rfl rfl ?_
                  refine Go.icmpN 359 at_356 rfl (teq (same2 hr_88 hex flip2)).2 ?_
                  refine Go.iconst 360 (1 : Int32) at_359 rfl rfl ?_
                  refine Go.goto 364 at_360 (by decide) (by decide) ?_
                  exact Go.retN (1 : Int32) at_364 rfl (t := .boolean) (by simp) rfl (sf' := []) (rfl) (fun _ q => nomatch q) (Nat.le_of_ble_eq_true rfl) (Nat.le_of_ble_eq_true rfl)
                by_cases hc308 : k1 = k2
                · skip
                  refine Go.icmpN 311 at_308 rfl (teq hc308).2 ?_
                  refine Go.iload 313 at_311 rfl rfl ?_
                  by_cases hc313 : sm = (0 : Int32)
                  · skip
                    refine Go.ifY 332 at_313 (by decide) (by decide) (teq hc313).1 ?_
                    refine Go.iconst 333 (0 : Int32) at_332 rfl rfl ?_
                    exact cut333 _ (Or.inr ⟨rfl, by first | exact fun q => hc308 q.1 | exact fun q => psm0 hsm hc313 q.2.1 | exact fun q => hc319 q.2.2.1 | exact fun q => hc325 q.2.2.2⟩)
                  · skip
                    refine Go.ifN 316 at_313 rfl (feq hc313).1 ?_
                    refine Go.iloadN 317 at_316 rfl rfl ?_
                    refine Go.iload 319 at_317 rfl rfl ?_
                    by_cases hc319 : p2 = l2
                    · skip
                      refine Go.icmpN 322 at_319 rfl (teq hc319).2 ?_
                      refine Go.iloadN 323 at_322 rfl rfl ?_
                      refine Go.iload 325 at_323 rfl rfl ?_
                      by_cases hc325 : p3 = m2
                      · skip
                        refine Go.icmpN 328 at_325 rfl (teq hc325).2 ?_
                        refine Go.iconst 329 (1 : Int32) at_328 rfl rfl ?_
                        refine Go.goto 333 at_329 (by decide) (by decide) ?_
                        exact cut333 _ (Or.inl ⟨rfl, by exact ⟨hc308, psm hsm hc313, hc319, hc325⟩⟩)
                      · skip
                        refine Go.icmpY 332 at_325 (by decide) (by decide) (feq hc325).2 ?_
                        refine Go.iconst 333 (0 : Int32) at_332 rfl rfl ?_
                        exact cut333 _ (Or.inr ⟨rfl, by first | exact fun q => hc308 q.1 | exact fun q => psm0 hsm hc313 q.2.1 | exact fun q => hc319 q.2.2.1 | exact fun q => hc325 q.2.2.2⟩)
                    · skip
                      refine Go.icmpY 332 at_319 (by decide) (by decide) (feq hc319).2 ?_
                      refine Go.iconst 333 (0 : Int32) at_332 rfl rfl ?_
                      exact cut333 _ (Or.inr ⟨rfl, by first | exact fun q => hc308 q.1 | exact fun q => psm0 hsm hc313 q.2.1 | exact fun q => hc319 q.2.2.1 | exact fun q => hc325 q.2.2.2⟩)
                · skip
                  refine Go.icmpY 332 at_308 (by decide) (by decide) (feq hc308).2 ?_
                  refine Go.iconst 333 (0 : Int32) at_332 rfl rfl ?_
                  exact cut333 _ (Or.inr ⟨rfl, by first | exact fun q => hc308 q.1 | exact fun q => psm0 hsm hc313 q.2.1 | exact fun q => hc319 q.2.2.1 | exact fun q => hc325 q.2.2.2⟩)
              by_cases hc268 : n1 = n2
              · skip
                refine Go.icmpN 271 at_268 rfl (teq hc268).2 ?_
                refine Go.iload 273 at_271 rfl rfl ?_
                refine Go.iconst 274 (1 : Int32) at_273 rfl rfl ?_
                by_cases hc274 : n1 < (1 : Int32)
                · skip
                  refine Go.icmpY 284 at_274 (by decide) (by decide) (tlt hc274).1 ?_
                  refine Go.iload 286 at_284 rfl rfl ?_
                  refine Go.iconst 287 (2 : Int32) at_286 rfl rfl ?_
                  by_cases hc287 : n1 < (2 : Int32)
                  · skip
                    refine Go.icmpY 297 at_287 (by decide) (by decide) (tlt hc287).1 ?_
                    refine Go.iconst 298 (1 : Int32) at_297 rfl rfl ?_
                    refine Go.goto 302 at_298 (by decide) (by decide) ?_
                    exact cut302 _ (Or.inl ⟨rfl, ⟨hc268, Or.inl hc274, Or.inl hc287⟩⟩)
                  · skip
                    refine Go.icmpN 290 at_287 rfl (flt hc287).1 ?_
                    refine Go.iload 292 at_290 rfl rfl ?_
                    refine Go.iload 294 at_292 rfl rfl ?_
                    by_cases hc294 : u1 = v1
                    · skip
                      refine Go.icmpN 297 at_294 rfl (teq hc294).2 ?_
                      refine Go.iconst 298 (1 : Int32) at_297 rfl rfl ?_
                      refine Go.goto 302 at_298 (by decide) (by decide) ?_
                      exact cut302 _ (Or.inl ⟨rfl, ⟨hc268, Or.inl hc274, Or.inr hc294⟩⟩)
                    · skip
                      refine Go.icmpY 301 at_294 (by decide) (by decide) (feq hc294).2 ?_
                      refine Go.iconst 302 (0 : Int32) at_301 rfl rfl ?_
                      exact cut302 _ (Or.inr ⟨rfl, (fun q => q.2.2.elim hc287 hc294)⟩)
                · skip
                  refine Go.icmpN 277 at_274 rfl (flt hc274).1 ?_
                  refine Go.iload 279 at_277 rfl rfl ?_
                  refine Go.iload 281 at_279 rfl rfl ?_
                  by_cases hc281 : u0 = v0
                  · skip
                    refine Go.icmpN 284 at_281 rfl (teq hc281).2 ?_
                    refine Go.iload 286 at_284 rfl rfl ?_
                    refine Go.iconst 287 (2 : Int32) at_286 rfl rfl ?_
                    by_cases hc287 : n1 < (2 : Int32)
                    · skip
                      refine Go.icmpY 297 at_287 (by decide) (by decide) (tlt hc287).1 ?_
                      refine Go.iconst 298 (1 : Int32) at_297 rfl rfl ?_
                      refine Go.goto 302 at_298 (by decide) (by decide) ?_
                      exact cut302 _ (Or.inl ⟨rfl, ⟨hc268, Or.inr hc281, Or.inl hc287⟩⟩)
                    · skip
                      refine Go.icmpN 290 at_287 rfl (flt hc287).1 ?_
                      refine Go.iload 292 at_290 rfl rfl ?_
                      refine Go.iload 294 at_292 rfl rfl ?_
                      by_cases hc294 : u1 = v1
                      · skip
                        refine Go.icmpN 297 at_294 rfl (teq hc294).2 ?_
                        refine Go.iconst 298 (1 : Int32) at_297 rfl rfl ?_
                        refine Go.goto 302 at_298 (by decide) (by decide) ?_
                        exact cut302 _ (Or.inl ⟨rfl, ⟨hc268, Or.inr hc281, Or.inr hc294⟩⟩)
                      · skip
                        refine Go.icmpY 301 at_294 (by decide) (by decide) (feq hc294).2 ?_
                        refine Go.iconst 302 (0 : Int32) at_301 rfl rfl ?_
                        exact cut302 _ (Or.inr ⟨rfl, (fun q => q.2.2.elim hc287 hc294)⟩)
                  · skip
                    refine Go.icmpY 301 at_281 (by decide) (by decide) (feq hc281).2 ?_
                    refine Go.iconst 302 (0 : Int32) at_301 rfl rfl ?_
                    exact cut302 _ (Or.inr ⟨rfl, (fun q => q.2.1.elim hc274 hc281)⟩)
              · skip
                refine Go.icmpY 301 at_268 (by decide) (by decide) (feq hc268).2 ?_
                refine Go.iconst 302 (0 : Int32) at_301 rfl rfl ?_
                exact cut302 _ (Or.inr ⟨rfl, (fun q => hc268 q.1)⟩)
        by_cases hc138 : (p5 &&& (8 : Int32)) = (0 : Int32)
        · skip
          refine Go.ifY 145 at_138 (by decide) (by decide) (teq hc138).1 ?_
          refine Go.iloadN 146 at_145 rfl rfl ?_
          refine Go.iload 148 at_146 rfl rfl ?_
          refine Go.bipush 150 (6 : Int32) at_148 rfl rfl ?_
          refine Go.ishr 151 at_150 rfl ?_
          refine Go.iadd 152 at_151 rfl ?_
          exact cut152 _
        · skip
          refine Go.ifN 141 at_138 rfl (feq hc138).1 ?_
          refine Go.iloadN 142 at_141 rfl rfl ?_
          refine Go.goto 152 at_142 (by decide) (by decide) ?_
          exact cut152 _
      by_cases hc120 : (p5 &&& (4 : Int32)) = (0 : Int32)
      · skip
        refine Go.ifY 127 at_120 (by decide) (by decide) (teq hc120).1 ?_
        refine Go.iloadN 128 at_127 rfl rfl ?_
        refine Go.iload 130 at_128 rfl rfl ?_
        refine Go.iadd 131 at_130 rfl ?_
        exact cut131 _
      · skip
        refine Go.ifN 123 at_120 rfl (feq hc120).1 ?_
        refine Go.iloadN 124 at_123 rfl rfl ?_
        refine Go.goto 131 at_124 (by decide) (by decide) ?_
        exact cut131 _
    by_cases hc66 : (p5 &&& (2 : Int32)) = (0 : Int32)
    · skip
      refine Go.ifY 84 at_66 (by decide) (by decide) (teq hc66).1 ?_
      refine Go.iloadN 85 at_84 rfl rfl ?_
      refine Go.bipush 87 (18 : Int32) at_85 rfl rfl ?_
      refine Go.iushr 88 at_87 rfl ?_
      refine Go.iconst 89 (3 : Int32) at_88 rfl rfl ?_
      refine Go.iand 90 at_89 rfl ?_
      refine Go.iconst 91 (3 : Int32) at_90 rfl rfl ?_
      refine Go.irem 92 at_91 rfl (by decide) ?_
      refine Go.istore 94 #[.val (.int p0), .val (.int p1), .val (.int p2), .val (.int p3), .val (.int p4), .val (.int p5), .val (.int k1), .val (.int k2), .val (.int n1), .val (.int u0), .val (.int u1), .val (.int (((ushr p1 (18 : Int32)) &&& (3 : Int32)) % (3 : Int32))), .unset, .unset, .unset, .unset, .unset, .unset, .unset, .unset, .unset] at_92 rfl rfl ?_
      refine Go.iloadN 95 at_94 rfl rfl ?_
      refine Go.bipush 97 (20 : Int32) at_95 rfl rfl ?_
      refine Go.iushr 98 at_97 rfl ?_
      refine Go.sipush 101 (255 : Int32) at_98 rfl rfl ?_
      refine Go.iand 102 at_101 rfl ?_
      refine Go.i2c 103 at_102 rfl ?_
      refine Go.istore 105 #[.val (.int p0), .val (.int p1), .val (.int p2), .val (.int p3), .val (.int p4), .val (.int p5), .val (.int k1), .val (.int k2), .val (.int n1), .val (.int u0), .val (.int u1), .val (.int (((ushr p1 (18 : Int32)) &&& (3 : Int32)) % (3 : Int32))), .val (.int (chr ((ushr p1 (20 : Int32)) &&& (255 : Int32)))), .unset, .unset, .unset, .unset, .unset, .unset, .unset, .unset] at_103 rfl rfl ?_
      refine Go.iloadN 106 at_105 rfl rfl ?_
      refine Go.bipush 108 (16 : Int32) at_106 rfl rfl ?_
      refine Go.iushr 109 at_108 rfl ?_
      refine Go.sipush 112 (255 : Int32) at_109 rfl rfl ?_
      refine Go.iand 113 at_112 rfl ?_
      refine Go.i2c 114 at_113 rfl ?_
      refine Go.istore 116 #[.val (.int p0), .val (.int p1), .val (.int p2), .val (.int p3), .val (.int p4), .val (.int p5), .val (.int k1), .val (.int k2), .val (.int n1), .val (.int u0), .val (.int u1), .val (.int (((ushr p1 (18 : Int32)) &&& (3 : Int32)) % (3 : Int32))), .val (.int (chr ((ushr p1 (20 : Int32)) &&& (255 : Int32)))), .val (.int (chr ((ushr p0 (16 : Int32)) &&& (255 : Int32)))), .unset, .unset, .unset, .unset, .unset, .unset, .unset] at_114 rfl rfl ?_
      exact cut116 _ _ _ (rem3 (nonneg_and _ (by decide))) (chr255 _) (chr255 _)
    · skip
      refine Go.ifN 69 at_66 rfl (feq hc66).1 ?_
      refine Go.iload 71 at_69 rfl rfl ?_
      refine Go.istore 73 #[.val (.int p0), .val (.int p1), .val (.int p2), .val (.int p3), .val (.int p4), .val (.int p5), .val (.int k1), .val (.int k2), .val (.int n1), .val (.int u0), .val (.int u1), .val (.int n1), .unset, .unset, .unset, .unset, .unset, .unset, .unset, .unset, .unset] at_71 rfl rfl ?_
      refine Go.iload 75 at_73 rfl rfl ?_
      refine Go.istore 77 #[.val (.int p0), .val (.int p1), .val (.int p2), .val (.int p3), .val (.int p4), .val (.int p5), .val (.int k1), .val (.int k2), .val (.int n1), .val (.int u0), .val (.int u1), .val (.int n1), .val (.int u0), .unset, .unset, .unset, .unset, .unset, .unset, .unset, .unset] at_75 rfl rfl ?_
      refine Go.iload 79 at_77 rfl rfl ?_
      refine Go.istore 81 #[.val (.int p0), .val (.int p1), .val (.int p2), .val (.int p3), .val (.int p4), .val (.int p5), .val (.int k1), .val (.int k2), .val (.int n1), .val (.int u0), .val (.int u1), .val (.int n1), .val (.int u0), .val (.int u1), .unset, .unset, .unset, .unset, .unset, .unset, .unset] at_79 rfl rfl ?_
      refine Go.goto 116 at_81 (by decide) (by decide) ?_
      exact cut116 _ _ _ b_n1 b_u0 b_u1
  by_cases hc13 : (p5 &&& (1 : Int32)) = (0 : Int32)
  · skip
    refine Go.ifY 21 at_13 (by decide) (by decide) (teq hc13).1 ?_
    refine Go.iloadN 22 at_21 rfl rfl ?_
    refine Go.bipush 24 (8 : Int32) at_22 rfl rfl ?_
    refine Go.iushr 25 at_24 rfl ?_
    refine Go.sipush 28 (255 : Int32) at_25 rfl rfl ?_
    refine Go.iand 29 at_28 rfl ?_
    refine Go.bipush 31 (15 : Int32) at_29 rfl rfl ?_
    refine Go.irem 32 at_31 rfl (by decide) ?_
    exact cut32 _ (rem15 (nonneg_and _ (by decide)))
  · skip
    refine Go.ifN 16 at_13 rfl (feq hc13).1 ?_
    refine Go.iload 18 at_16 rfl rfl ?_
    refine Go.goto 32 at_18 (by decide) (by decide) ?_
    exact cut32 _ b_k1
set_option maxRecDepth 65536 in
set_option maxHeartbeats 40000000 in
theorem comes_1 {Post : Tables → Env → Array Value → State → Outcome → State → Prop} (hpost : ∀ tb e args s v u, (limb_1_1.after args s (.returned v) u = true ∧ limb_1_2.after args s (.returned v) u = true ∧ True) → ReturnedEndW s (.returned v) u (Jvm.fieldLocs frame_1_writes args s ++ Jvm.arrayLocs frame_1_arrays args s ++ Jvm.staticLocs frame_1_statics s) 40 3264 → Post tb e args s (.returned v) u) :
    ArmFor flags0 classFile x code maxLocals ret World_1 tables_1 room_1 Calls_1 rest_1 Pre_1 Post := by
  intro l hfl _ _ p e ha hc hk s m args below hf hA hF happ hP
  obtain ⟨hcalls, hrest, hpre⟩ := hP
  obtain ⟨-, -, -, hnamed, -, -, -, hat⟩ := (Spec.applies_iff hf).mp happ
  obtain ⟨hg, hn⟩ := and_e (Cond.before_iff.mp (show (Jvm.Cond.and given_1 narrow_1).before args s = true from hpre))
  obtain ⟨g0, k1⟩ := and_e hg
  obtain ⟨g1, k2⟩ := and_e k1
  obtain ⟨g2, k3⟩ := and_e k2
  obtain ⟨g3, k4⟩ := and_e k3
  obtain ⟨g4, k5⟩ := and_e k4
  obtain ⟨g5, k6⟩ := and_e k5
  have g6 := k6
  obtain ⟨w0, w1, w2, w3, w4, w5, rfl⟩ : ∃ w0 w1 w2 w3 w4 w5 : Value, args = #[w0, w1, w2, w3, w4, w5] := by
    have hs : args.size = 6 := by simpa [Cond.value, given_1] using g0
    obtain ⟨L⟩ := args
    match L, hs with
    | [w0, w1, w2, w3, w4, w5], _ => exact ⟨w0, w1, w2, w3, w4, w5, rfl⟩
  have hw : HW _ s := fun d (hd : d ∈ tables_1) => atoms_spec (ws := Jvm.Cond.code x code maxLocals ret :: tables_1) hat d (List.mem_cons_of_mem _ hd)
  obtain ⟨hsets, hown0⟩ := atoms_of _ (rest_1_c_eq ▸ (show rest_1_c.before _ s = true from hrest))
  obtain ⟨p0, ea0⟩ := is_v g1
  obtain rfl : w0 = (.int p0) := Option.some.inj ea0
  obtain ⟨p1, ea1⟩ := is_v g2
  obtain rfl : w1 = (.int p1) := Option.some.inj ea1
  obtain ⟨p2, ea2⟩ := is_v g3
  obtain rfl : w2 = (.int p2) := Option.some.inj ea2
  obtain ⟨p3, ea3⟩ := is_v g4
  obtain rfl : w3 = (.int p3) := Option.some.inj ea3
  obtain ⟨p4, ea4⟩ := is_v g5
  obtain rfl : w4 = (.int p4) := Option.some.inj ea4
  obtain ⟨p5, ea5⟩ := is_v g6
  obtain rfl : w5 = (.int p5) := Option.some.inj ea5
  obtain ⟨z, ez⟩ := is_v (Cond.before_iff.mp (hsets _ (List.mem_of_getElem? (i := 1) rfl)))
  have SC : Sta s s.heap "java/lang/String" "COMPACT_STRINGS" "Z" (.int z) := Sta.start ez (Or.inl (hsets _ (List.mem_of_getElem? (i := 0) rfl)))
  have hz : ¬ (z = (0 : Int32)) := gotF (Cond.eq_ints ez (Term.int_eval (0))) (not_v (Cond.before_iff.mp (hsets _ (List.mem_of_getElem? (i := 2) rfl))))
  obtain ⟨r0, hn1⟩ := and_e hn
  obtain ⟨r1, hn2⟩ := and_e hn1
  obtain ⟨r2, hn3⟩ := and_e hn2
  obtain ⟨r3, hn4⟩ := and_e hn3
  obtain ⟨r4, hn5⟩ := and_e hn4
  obtain ⟨r5, hn6⟩ := and_e hn5
  obtain ⟨r6, hn7⟩ := and_e hn6
  obtain ⟨r7, hn8⟩ := and_e hn7
  obtain ⟨r8, hn9⟩ := and_e hn8
  obtain ⟨r9, hn10⟩ := and_e hn9
  obtain ⟨r10, hn11⟩ := and_e hn10
  obtain ⟨r11, hn12⟩ := and_e hn11
  obtain ⟨r12, hn13⟩ := and_e hn12
  obtain ⟨r13, hn14⟩ := and_e hn13
  obtain ⟨r14, hn15⟩ := and_e hn14
  obtain ⟨r15, hn16⟩ := and_e hn15
  obtain ⟨r16, hn17⟩ := and_e hn16
  obtain ⟨r17, hn18⟩ := and_e hn17
  obtain ⟨r18, hn19⟩ := and_e hn18
  obtain ⟨r19, hn20⟩ := and_e hn19
  obtain ⟨r20, hn21⟩ := and_e hn20
  obtain ⟨r21, hn22⟩ := and_e hn21
  obtain ⟨r22, hn23⟩ := and_e hn22
  obtain ⟨r23, hn24⟩ := and_e hn23
  obtain ⟨r24, hn25⟩ := and_e hn24
  obtain ⟨r25, hn26⟩ := and_e hn25
  obtain ⟨r26, hn27⟩ := and_e hn26
  obtain ⟨r27, hn28⟩ := and_e hn27
  obtain ⟨r28, hn29⟩ := and_e hn28
  have r29 := hn29
  obtain ⟨s_IDENTIFIER, ev_s_IDENTIFIER⟩ := exa_v r0
  have X_s_IDENTIFIER : Exa s s.heap s_IDENTIFIER "com/example/avain/avain/io/TokenKind" := Exa.start ev_s_IDENTIFIER r0
  have Z_s_IDENTIFIER : Sta s s.heap "com/example/avain/avain/io/TokenKind" "IDENTIFIER" "Lcom/example/avain/avain/io/TokenKind;" (.ref s_IDENTIFIER) := Sta.start ev_s_IDENTIFIER (Or.inr ⟨(w9 hw), (w10 hw)⟩)
  obtain ⟨s_LEFT_PAREN, ev_s_LEFT_PAREN⟩ := exa_v r1
  have X_s_LEFT_PAREN : Exa s s.heap s_LEFT_PAREN "com/example/avain/avain/io/TokenKind" := Exa.start ev_s_LEFT_PAREN r1
  have Z_s_LEFT_PAREN : Sta s s.heap "com/example/avain/avain/io/TokenKind" "LEFT_PAREN" "Lcom/example/avain/avain/io/TokenKind;" (.ref s_LEFT_PAREN) := Sta.start ev_s_LEFT_PAREN (Or.inr ⟨(w9 hw), (w76 hw)⟩)
  obtain ⟨s_COMMA, ev_s_COMMA⟩ := exa_v r4
  have X_s_COMMA : Exa s s.heap s_COMMA "com/example/avain/avain/io/TokenKind" := Exa.start ev_s_COMMA r4
  have Z_s_COMMA : Sta s s.heap "com/example/avain/avain/io/TokenKind" "COMMA" "Lcom/example/avain/avain/io/TokenKind;" (.ref s_COMMA) := Sta.start ev_s_COMMA (Or.inr ⟨(w9 hw), (w88 hw)⟩)
  obtain ⟨s_SECURE_ARROW, ev_s_SECURE_ARROW⟩ := exa_v r5
  have X_s_SECURE_ARROW : Exa s s.heap s_SECURE_ARROW "com/example/avain/avain/io/TokenKind" := Exa.start ev_s_SECURE_ARROW r5
  have Z_s_SECURE_ARROW : Sta s s.heap "com/example/avain/avain/io/TokenKind" "SECURE_ARROW" "Lcom/example/avain/avain/io/TokenKind;" (.ref s_SECURE_ARROW) := Sta.start ev_s_SECURE_ARROW (Or.inr ⟨(w9 hw), (w92 hw)⟩)
  obtain ⟨s_RIGHT_PAREN, ev_s_RIGHT_PAREN⟩ := exa_v r6
  have X_s_RIGHT_PAREN : Exa s s.heap s_RIGHT_PAREN "com/example/avain/avain/io/TokenKind" := Exa.start ev_s_RIGHT_PAREN r6
  have Z_s_RIGHT_PAREN : Sta s s.heap "com/example/avain/avain/io/TokenKind" "RIGHT_PAREN" "Lcom/example/avain/avain/io/TokenKind;" (.ref s_RIGHT_PAREN) := Sta.start ev_s_RIGHT_PAREN (Or.inr ⟨(w9 hw), (w94 hw)⟩)
  obtain ⟨s_AUTHENTIC_ARROW, ev_s_AUTHENTIC_ARROW⟩ := exa_v r7
  have X_s_AUTHENTIC_ARROW : Exa s s.heap s_AUTHENTIC_ARROW "com/example/avain/avain/io/TokenKind" := Exa.start ev_s_AUTHENTIC_ARROW r7
  have Z_s_AUTHENTIC_ARROW : Sta s s.heap "com/example/avain/avain/io/TokenKind" "AUTHENTIC_ARROW" "Lcom/example/avain/avain/io/TokenKind;" (.ref s_AUTHENTIC_ARROW) := Sta.start ev_s_AUTHENTIC_ARROW (Or.inr ⟨(w9 hw), (w96 hw)⟩)
  obtain ⟨s_CONFIDENTIAL_ARROW, ev_s_CONFIDENTIAL_ARROW⟩ := exa_v r10
  have X_s_CONFIDENTIAL_ARROW : Exa s s.heap s_CONFIDENTIAL_ARROW "com/example/avain/avain/io/TokenKind" := Exa.start ev_s_CONFIDENTIAL_ARROW r10
  have Z_s_CONFIDENTIAL_ARROW : Sta s s.heap "com/example/avain/avain/io/TokenKind" "CONFIDENTIAL_ARROW" "Lcom/example/avain/avain/io/TokenKind;" (.ref s_CONFIDENTIAL_ARROW) := Sta.start ev_s_CONFIDENTIAL_ARROW (Or.inr ⟨(w9 hw), (w98 hw)⟩)
  obtain ⟨s_RIGHT_SEAL, ev_s_RIGHT_SEAL⟩ := exa_v r11
  have X_s_RIGHT_SEAL : Exa s s.heap s_RIGHT_SEAL "com/example/avain/avain/io/TokenKind" := Exa.start ev_s_RIGHT_SEAL r11
  have Z_s_RIGHT_SEAL : Sta s s.heap "com/example/avain/avain/io/TokenKind" "RIGHT_SEAL" "Lcom/example/avain/avain/io/TokenKind;" (.ref s_RIGHT_SEAL) := Sta.start ev_s_RIGHT_SEAL (Or.inr ⟨(w9 hw), (w100 hw)⟩)
  obtain ⟨s_ARROW, ev_s_ARROW⟩ := exa_v r12
  have X_s_ARROW : Exa s s.heap s_ARROW "com/example/avain/avain/io/TokenKind" := Exa.start ev_s_ARROW r12
  have Z_s_ARROW : Sta s s.heap "com/example/avain/avain/io/TokenKind" "ARROW" "Lcom/example/avain/avain/io/TokenKind;" (.ref s_ARROW) := Sta.start ev_s_ARROW (Or.inr ⟨(w9 hw), (w102 hw)⟩)
  obtain ⟨s_RIGHT_BRACE, ev_s_RIGHT_BRACE⟩ := exa_v r14
  have X_s_RIGHT_BRACE : Exa s s.heap s_RIGHT_BRACE "com/example/avain/avain/io/TokenKind" := Exa.start ev_s_RIGHT_BRACE r14
  have Z_s_RIGHT_BRACE : Sta s s.heap "com/example/avain/avain/io/TokenKind" "RIGHT_BRACE" "Lcom/example/avain/avain/io/TokenKind;" (.ref s_RIGHT_BRACE) := Sta.start ev_s_RIGHT_BRACE (Or.inr ⟨(w9 hw), (w104 hw)⟩)
  obtain ⟨s_SEMICOLON, ev_s_SEMICOLON⟩ := exa_v r16
  have X_s_SEMICOLON : Exa s s.heap s_SEMICOLON "com/example/avain/avain/io/TokenKind" := Exa.start ev_s_SEMICOLON r16
  have Z_s_SEMICOLON : Sta s s.heap "com/example/avain/avain/io/TokenKind" "SEMICOLON" "Lcom/example/avain/avain/io/TokenKind;" (.ref s_SEMICOLON) := Sta.start ev_s_SEMICOLON (Or.inr ⟨(w9 hw), (w106 hw)⟩)
  obtain ⟨s_END, ev_s_END⟩ := exa_v r19
  have X_s_END : Exa s s.heap s_END "com/example/avain/avain/io/TokenKind" := Exa.start ev_s_END r19
  have Z_s_END : Sta s s.heap "com/example/avain/avain/io/TokenKind" "END" "Lcom/example/avain/avain/io/TokenKind;" (.ref s_END) := Sta.start ev_s_END (Or.inr ⟨(w9 hw), (w108 hw)⟩)
  obtain ⟨s_COLON, ev_s_COLON⟩ := exa_v r21
  have X_s_COLON : Exa s s.heap s_COLON "com/example/avain/avain/io/TokenKind" := Exa.start ev_s_COLON r21
  have Z_s_COLON : Sta s s.heap "com/example/avain/avain/io/TokenKind" "COLON" "Lcom/example/avain/avain/io/TokenKind;" (.ref s_COLON) := Sta.start ev_s_COLON (Or.inr ⟨(w9 hw), (w110 hw)⟩)
  obtain ⟨s_LEFT_BRACE, ev_s_LEFT_BRACE⟩ := exa_v r22
  have X_s_LEFT_BRACE : Exa s s.heap s_LEFT_BRACE "com/example/avain/avain/io/TokenKind" := Exa.start ev_s_LEFT_BRACE r22
  have Z_s_LEFT_BRACE : Sta s s.heap "com/example/avain/avain/io/TokenKind" "LEFT_BRACE" "Lcom/example/avain/avain/io/TokenKind;" (.ref s_LEFT_BRACE) := Sta.start ev_s_LEFT_BRACE (Or.inr ⟨(w9 hw), (w112 hw)⟩)
  obtain ⟨s_LEFT_SEAL, ev_s_LEFT_SEAL⟩ := exa_v r25
  have X_s_LEFT_SEAL : Exa s s.heap s_LEFT_SEAL "com/example/avain/avain/io/TokenKind" := Exa.start ev_s_LEFT_SEAL r25
  have Z_s_LEFT_SEAL : Sta s s.heap "com/example/avain/avain/io/TokenKind" "LEFT_SEAL" "Lcom/example/avain/avain/io/TokenKind;" (.ref s_LEFT_SEAL) := Sta.start ev_s_LEFT_SEAL (Or.inr ⟨(w9 hw), (w114 hw)⟩)
  have F_s_LEFT_PAREN_ordinal : Fld s s.heap s_LEFT_PAREN "java/lang/Enum" "ordinal" "I" (.int (4 : Int32)) := fld_int r2 ev_s_LEFT_PAREN
  have F_s_IDENTIFIER_ordinal : Fld s s.heap s_IDENTIFIER "java/lang/Enum" "ordinal" "I" (.int (0 : Int32)) := fld_int r3 ev_s_IDENTIFIER
  have F_s_RIGHT_PAREN_ordinal : Fld s s.heap s_RIGHT_PAREN "java/lang/Enum" "ordinal" "I" (.int (5 : Int32)) := fld_int r8 ev_s_RIGHT_PAREN
  have F_s_AUTHENTIC_ARROW_ordinal : Fld s s.heap s_AUTHENTIC_ARROW "java/lang/Enum" "ordinal" "I" (.int (11 : Int32)) := fld_int r9 ev_s_AUTHENTIC_ARROW
  have F_s_COMMA_ordinal : Fld s s.heap s_COMMA "java/lang/Enum" "ordinal" "I" (.int (3 : Int32)) := fld_int r13 ev_s_COMMA
  have F_s_RIGHT_BRACE_ordinal : Fld s s.heap s_RIGHT_BRACE "java/lang/Enum" "ordinal" "I" (.int (7 : Int32)) := fld_int r15 ev_s_RIGHT_BRACE
  have F_s_SEMICOLON_ordinal : Fld s s.heap s_SEMICOLON "java/lang/Enum" "ordinal" "I" (.int (2 : Int32)) := fld_int r17 ev_s_SEMICOLON
  have F_s_SECURE_ARROW_ordinal : Fld s s.heap s_SECURE_ARROW "java/lang/Enum" "ordinal" "I" (.int (13 : Int32)) := fld_int r18 ev_s_SECURE_ARROW
  have F_s_END_ordinal : Fld s s.heap s_END "java/lang/Enum" "ordinal" "I" (.int (14 : Int32)) := fld_int r20 ev_s_END
  have F_s_CONFIDENTIAL_ARROW_ordinal : Fld s s.heap s_CONFIDENTIAL_ARROW "java/lang/Enum" "ordinal" "I" (.int (12 : Int32)) := fld_int r23 ev_s_CONFIDENTIAL_ARROW
  have F_s_ARROW_ordinal : Fld s s.heap s_ARROW "java/lang/Enum" "ordinal" "I" (.int (10 : Int32)) := fld_int r24 ev_s_ARROW
  have F_s_COLON_ordinal : Fld s s.heap s_COLON "java/lang/Enum" "ordinal" "I" (.int (1 : Int32)) := fld_int r26 ev_s_COLON
  have F_s_LEFT_SEAL_ordinal : Fld s s.heap s_LEFT_SEAL "java/lang/Enum" "ordinal" "I" (.int (8 : Int32)) := fld_int r27 ev_s_LEFT_SEAL
  have F_s_RIGHT_SEAL_ordinal : Fld s s.heap s_RIGHT_SEAL "java/lang/Enum" "ordinal" "I" (.int (9 : Int32)) := fld_int r28 ev_s_RIGHT_SEAL
  have F_s_LEFT_BRACE_ordinal : Fld s s.heap s_LEFT_BRACE "java/lang/Enum" "ordinal" "I" (.int (6 : Int32)) := fld_int r29 ev_s_LEFT_BRACE
  have hCH : CHv s consts_1 s.vm s.heap := CHv.start (ew hw) (fun p hp => hcalls.1 p hp) (hsets _ (List.mem_of_getElem? (i := 2) rfl)) (w29 hw) (w16 hw)

  obtain ⟨n, o, h1, h2, h3, _, L, _, rfl, rfl, -, N, -, -, hq⟩ := met_of_go (md := some consts_1) (desc := "(IIIIII)Z") (ws := tables_1) pn_2 (fun m => ef_law m p0 p1 p2 p3 p4 p5) (law_go (l := l) (Z := s) (n0 := s.heap.size) (h0 := s.heap) hw p0 p1 p2 p3 p4 p5 z SC hz s_IDENTIFIER s_COLON s_SEMICOLON s_COMMA s_LEFT_PAREN s_RIGHT_PAREN s_LEFT_BRACE s_RIGHT_BRACE s_LEFT_SEAL s_RIGHT_SEAL s_ARROW s_AUTHENTIC_ARROW s_CONFIDENTIAL_ARROW s_SECURE_ARROW s_END Z_s_IDENTIFIER Z_s_COLON Z_s_SEMICOLON Z_s_COMMA Z_s_LEFT_PAREN Z_s_RIGHT_PAREN Z_s_LEFT_BRACE Z_s_RIGHT_BRACE Z_s_LEFT_SEAL Z_s_RIGHT_SEAL Z_s_ARROW Z_s_AUTHENTIC_ARROW Z_s_CONFIDENTIAL_ARROW Z_s_SECURE_ARROW Z_s_END (fun _ q => kf_ord F_s_IDENTIFIER_ordinal F_s_COLON_ordinal F_s_SEMICOLON_ordinal F_s_COMMA_ordinal F_s_LEFT_PAREN_ordinal F_s_RIGHT_PAREN_ordinal F_s_LEFT_BRACE_ordinal F_s_RIGHT_BRACE_ordinal F_s_LEFT_SEAL_ordinal F_s_RIGHT_SEAL_ordinal F_s_ARROW_ordinal F_s_AUTHENTIC_ARROW_ordinal F_s_CONFIDENTIAL_ARROW_ordinal F_s_SECURE_ARROW_ordinal F_s_END_ordinal q) (fun _ q => kf_exa X_s_IDENTIFIER X_s_COLON X_s_SEMICOLON X_s_COMMA X_s_LEFT_PAREN X_s_RIGHT_PAREN X_s_LEFT_BRACE X_s_RIGHT_BRACE X_s_LEFT_SEAL X_s_RIGHT_SEAL X_s_ARROW X_s_AUTHENTIC_ARROW X_s_CONFIDENTIAL_ARROW X_s_SECURE_ARROW X_s_END q)) p e ha hc hk s m _ below hf ((Spec.applies_iff_loose hf).mp happ).1 ⟨rfl, State.Warmed39.refl s, rfl, Old.start s, ⟨_, (State.WarmedH.refl s).since _, Nat.le_refl _⟩, ⟨_, ew hw⟩, CHr.refl hCH, fun x hx => nomatch hx⟩ trivial
  refine ⟨n, _, h1, h2, h3, hpost _ _ _ _ _ _ ⟨Cond.after_iff.mpr rfl, Cond.after_iff.mpr (eq_i res_at (Term.int_eval (1)) rfl), trivial⟩ ⟨hq.1, hq.2.1, hq.2.2.1, (hq.2.2.2.sift fun y hy => Or.inr (N y hy)).mono (by decide) (by decide)⟩⟩
theorem main_1_1 : Claimed_1_1 := comes_1 fun _ _ _ _ _ _ h hF => ⟨h.1, hF⟩
theorem main_1_2 : Claimed_1_2 := comes_1 fun _ _ _ _ _ _ h hF => ⟨h.2.1, hF⟩
end Jvm.Pilot.@@N@@
namespace Jvm.Pilot.@@N@@
open Jvm Jvm.ClassFile Sem Op Lib Jvm.Free Jvm.Stand Jvm.Pilot.@@N@@.Jvm.D
/-! MADE BY PROGRAM (witnessworld.py) out of the Statement's table words and the real class files: 23 classes; the members and pool entries that the words name. The judged class is class 1, her method 1. -/
namespace start1
open Jvm.ClassFile
def u (s : String) : CpInfo := .utf8 (stringToUtf16 s)
/-- a pool by its gaps: so many unusable entries, then the entry; so many at the end -/
def gap : Nat → List CpInfo → List CpInfo
  | 0, r => r
  | n + 1, r => .unusable :: gap n r
def poolList (es : List (Nat × CpInfo)) (last : Nat) : List CpInfo := es.foldr (fun e r => gap e.1 (e.2 :: r)) (gap last [])
def pool (es : List (Nat × CpInfo)) (last : Nat) : Array CpInfo := ⟨poolList es last⟩
def fileOf (pool : Array CpInfo) (this : Nat) (attrs : Array Attribute := #[]) (ms : Array MethodInfo := #[]) (fl : Nat := 33) (sup : Nat := 0) (ifs : Array Nat := #[]) (fds : Array FieldInfo := #[]) : ClassFile where
  minorVersion := 0
  majorVersion := 65
  constantPool := pool
  accessFlags := fl
  thisClass := this
  superClass := sup
  interfaces := ifs
  fields := fds
  methods := ms
  attributes := attrs
def plain (name : String) (sup : Option ClassId) : Class where
  name := name
  kind := .ordinary
  loader := none
  accessFlags := 33
  super := sup
  interfaces := #[]
  cf := none
  fields := #[]
  methods := #[]
  instanceTypes := #[]
  staticTypes := #[]
  resolved := #[]
  callSites := []
  init := .initialized
  statics := none
  mirror := none

def pool0 : Array CpInfo := pool [(5, u "<init>"), (0, u "()V"), (1, .class_ 10), (1, u "java/lang/Object")] 113

def k0c0 : Code := { maxStack := 0, maxLocals := 1, code := object_method_1_code, exceptionTable := #[], attributes := #[] }
def k0m0 : Method := { name := "<init>", desc := "()V", sig := { parameters := [], returnType := none }, accessFlags := 1, code := some k0c0 }
/-- java/lang/Object -/
def k0 : Class := { plain "java/lang/Object" none with
  accessFlags := 33
  interfaces := #[]
  cf := some (fileOf pool0 8 #[] #[{ accessFlags := 1, nameIndex := 5, descriptorIndex := 6, attributes := #[] }] 33 0 #[] #[])
  fields := #[]
  methods := #[k0m0]
  instanceTypes := #[]
  staticTypes := #[]
  resolved := Array.replicate 124 none
  statics := none }

def pool1 : Array CpInfo := pool [(2, .class_ 4), (1, u "java/lang/Object"), (0, u "<init>"), (0, u "()V"), (0, .integer 2147483647), (0, .class_ 9), (0, u "com/example/avain/avain/io/Token"), (0, .methodref 11 12), (0, .class_ 13), (0, .nameAndType 14 15), (0, u "com/example/avain/avain/io/TokenEqualsPinLaw"), (0, u "kind"), (0, u "(I)Lcom/example/avain/avain/io/TokenKind;"), (0, .methodref 11 17), (0, .nameAndType 18 19), (0, u "str"), (0, u "(ICC)Ljava/lang/String;"), (0, .methodref 8 21), (0, .nameAndType 5 22), (0, u "(Lcom/example/avain/avain/io/TokenKind;Ljava/lang/String;II)V"), (0, .methodref 8 24), (0, .nameAndType 25 26), (0, u "equals"), (0, u "(Ljava/lang/Object;)Z"), (0, .class_ 28), (0, u "java/lang/String"), (0, .methodref 27 30), (0, .nameAndType 5 31), (0, u "([C)V"), (0, .fieldref 33 34), (0, .class_ 35), (0, .nameAndType 36 37), (0, u "com/example/avain/avain/io/TokenKind"), (0, u "IDENTIFIER"), (0, u "Lcom/example/avain/avain/io/TokenKind;"), (0, .fieldref 33 39), (0, .nameAndType 40 37), (0, u "COLON"), (0, .fieldref 33 42), (0, .nameAndType 43 37), (0, u "SEMICOLON"), (0, .fieldref 33 45), (0, .nameAndType 46 37), (0, u "COMMA"), (0, .fieldref 33 48), (0, .nameAndType 49 37), (0, u "LEFT_PAREN"), (0, .fieldref 33 51), (0, .nameAndType 52 37), (0, u "RIGHT_PAREN"), (0, .fieldref 33 54), (0, .nameAndType 55 37), (0, u "LEFT_BRACE"), (0, .fieldref 33 57), (0, .nameAndType 58 37), (0, u "RIGHT_BRACE"), (0, .fieldref 33 60), (0, .nameAndType 61 37), (0, u "LEFT_SEAL"), (0, .fieldref 33 63), (0, .nameAndType 64 37), (0, u "RIGHT_SEAL"), (0, .fieldref 33 66), (0, .nameAndType 67 37), (0, u "ARROW"), (0, .fieldref 33 69), (0, .nameAndType 70 37), (0, u "AUTHENTIC_ARROW"), (0, .fieldref 33 72), (0, .nameAndType 73 37), (0, u "CONFIDENTIAL_ARROW"), (0, .fieldref 33 75), (0, .nameAndType 76 37), (0, u "SECURE_ARROW"), (0, .fieldref 33 78), (0, .nameAndType 79 37), (0, u "END"), (2, u "law"), (0, u "(IIIIII)Z")] 5

def k1m0 : Method := { name := "<init>", desc := "()V", sig := { parameters := [], returnType := none }, accessFlags := 1, code := none }
def k1c1 : Code := { maxStack := 6, maxLocals := 21, code := code, exceptionTable := #[], attributes := #[] }
def k1m1 : Method := { name := "law", desc := "(IIIIII)Z", sig := { parameters := [.int, .int, .int, .int, .int, .int], returnType := some .boolean }, accessFlags := 9, code := some k1c1 }
def k1c2 : Code := { maxStack := 4, maxLocals := 4, code := method_3_code, exceptionTable := #[], attributes := #[] }
def k1m2 : Method := { name := "str", desc := "(ICC)Ljava/lang/String;", sig := { parameters := [.int, .char, .char], returnType := some (.object "java/lang/String") }, accessFlags := 10, code := some k1c2 }
def k1c3 : Code := { maxStack := 2, maxLocals := 1, code := method_4_code, exceptionTable := #[], attributes := #[] }
def k1m3 : Method := { name := "kind", desc := "(I)Lcom/example/avain/avain/io/TokenKind;", sig := { parameters := [.int], returnType := some (.object "com/example/avain/avain/io/TokenKind") }, accessFlags := 10, code := some k1c3 }
/-- com/example/avain/avain/io/TokenEqualsPinLaw -/
def k1 : Class := { plain "com/example/avain/avain/io/TokenEqualsPinLaw" (some 0) with
  accessFlags := 49
  interfaces := #[]
  cf := some (fileOf pool1 11 #[] #[{ accessFlags := 1, nameIndex := 5, descriptorIndex := 6, attributes := #[] }, { accessFlags := 9, nameIndex := 82, descriptorIndex := 83, attributes := #[] }, { accessFlags := 10, nameIndex := 18, descriptorIndex := 19, attributes := #[] }, { accessFlags := 10, nameIndex := 14, descriptorIndex := 15, attributes := #[] }] 49 2 #[] #[])
  fields := #[]
  methods := #[k1m0, k1m1, k1m2, k1m3]
  instanceTypes := #[]
  staticTypes := #[]
  resolved := Array.replicate 89 none
  statics := none }

def pool2 : Array CpInfo := pool [(1, .methodref 2 3), (0, .class_ 4), (0, .nameAndType 5 6), (0, u "java/lang/Object"), (0, u "<init>"), (0, u "()V"), (0, .string 8), (0, u "kind"), (0, .methodref 10 11), (0, .class_ 12), (0, .nameAndType 13 14), (0, u "java/util/Objects"), (0, u "requireNonNull"), (0, u "(Ljava/lang/Object;Ljava/lang/String;)Ljava/lang/Object;"), (0, .class_ 16), (0, u "com/example/avain/avain/io/TokenKind"), (0, .fieldref 18 19), (0, .class_ 20), (0, .nameAndType 8 21), (0, u "com/example/avain/avain/io/Token"), (0, u "Lcom/example/avain/avain/io/TokenKind;"), (0, .string 23), (0, u "text"), (0, .class_ 25), (0, u "java/lang/String"), (0, .fieldref 18 27), (0, .nameAndType 23 28), (0, u "Ljava/lang/String;"), (0, .fieldref 18 30), (0, .nameAndType 31 32), (0, u "line"), (0, u "I"), (0, .fieldref 18 34), (0, .nameAndType 35 32), (0, u "column"), (0, .methodref 24 37), (0, .nameAndType 38 39), (0, u "equals"), (0, u "(Ljava/lang/Object;)Z"), (17, u "(Lcom/example/avain/avain/io/TokenKind;Ljava/lang/String;II)V")] 25

def k2c0 : Code := { maxStack := 3, maxLocals := 5, code := prog_39_method_1_code, exceptionTable := #[], attributes := #[] }
def k2m0 : Method := { name := "<init>", desc := "(Lcom/example/avain/avain/io/TokenKind;Ljava/lang/String;II)V", sig := { parameters := [(.object "com/example/avain/avain/io/TokenKind"), (.object "java/lang/String"), .int, .int], returnType := none }, accessFlags := 1, code := some k2c0 }
def k2c1 : Code := { maxStack := 2, maxLocals := 3, code := prog_39_method_6_code, exceptionTable := #[], attributes := #[] }
def k2m1 : Method := { name := "equals", desc := "(Ljava/lang/Object;)Z", sig := { parameters := [(.object "java/lang/Object")], returnType := some .boolean }, accessFlags := 1, code := some k2c1 }
/-- com/example/avain/avain/io/Token -/
def k2 : Class := { plain "com/example/avain/avain/io/Token" (some 0) with
  accessFlags := 33
  interfaces := #[]
  cf := some (fileOf pool2 18 #[] #[{ accessFlags := 1, nameIndex := 5, descriptorIndex := 57, attributes := #[] }, { accessFlags := 1, nameIndex := 38, descriptorIndex := 39, attributes := #[] }] 33 2 #[] #[{ accessFlags := 18, nameIndex := 8, descriptorIndex := 21, attributes := #[] }, { accessFlags := 18, nameIndex := 23, descriptorIndex := 28, attributes := #[] }, { accessFlags := 18, nameIndex := 31, descriptorIndex := 32, attributes := #[] }, { accessFlags := 18, nameIndex := 35, descriptorIndex := 32, attributes := #[] }])
  fields := #[{ name := "kind", type := (.object "com/example/avain/avain/io/TokenKind"), accessFlags := 18, slot := 0, constantValue := 0 }, { name := "text", type := (.object "java/lang/String"), accessFlags := 18, slot := 1, constantValue := 0 }, { name := "line", type := .int, accessFlags := 18, slot := 2, constantValue := 0 }, { name := "column", type := .int, accessFlags := 18, slot := 3, constantValue := 0 }]
  methods := #[k2m0, k2m1]
  instanceTypes := #[(.object "com/example/avain/avain/io/TokenKind"), (.object "java/lang/String"), .int, .int]
  staticTypes := #[]
  resolved := Array.replicate 83 none
  statics := none }

def pool3 : Array CpInfo := pool [(1, .class_ 2), (0, u "java/lang/constant/Constable"), (0, .class_ 4), (0, u "java/lang/Object")] 6

/-- java/lang/constant/Constable -/
def k3 : Class := { plain "java/lang/constant/Constable" (some 0) with
  accessFlags := 1537
  interfaces := #[]
  cf := some (fileOf pool3 1 #[] #[] 1537 3 #[] #[])
  fields := #[]
  methods := #[]
  instanceTypes := #[]
  staticTypes := #[]
  resolved := Array.replicate 11 none
  statics := none }

def pool4 : Array CpInfo := pool [(1, .class_ 2), (0, u "java/lang/Comparable"), (0, .class_ 4), (0, u "java/lang/Object")] 7

/-- java/lang/Comparable -/
def k4 : Class := { plain "java/lang/Comparable" (some 0) with
  accessFlags := 1537
  interfaces := #[]
  cf := some (fileOf pool4 1 #[] #[] 1537 3 #[] #[])
  fields := #[]
  methods := #[]
  instanceTypes := #[]
  staticTypes := #[]
  resolved := Array.replicate 12 none
  statics := none }

def pool5 : Array CpInfo := pool [(1, .class_ 2), (0, u "java/io/Serializable"), (0, .class_ 4), (0, u "java/lang/Object")] 2

/-- java/io/Serializable -/
def k5 : Class := { plain "java/io/Serializable" (some 0) with
  accessFlags := 1537
  interfaces := #[]
  cf := some (fileOf pool5 1 #[] #[] 1537 3 #[] #[])
  fields := #[]
  methods := #[]
  instanceTypes := #[]
  staticTypes := #[]
  resolved := Array.replicate 7 none
  statics := none }

def pool6 : Array CpInfo := pool [(2, .class_ 4), (1, u "java/lang/Enum"), (0, u "name"), (0, u "Ljava/lang/String;"), (2, u "ordinal"), (0, u "I"), (1, .class_ 14), (1, u "java/lang/Object"), (4, u "hash"), (86, .class_ 108), (1, u "java/lang/Enum$EnumDesc"), (2, .class_ 112), (0, u "java/lang/constant/Constable"), (0, .class_ 114), (0, u "java/lang/Comparable"), (0, .class_ 116), (0, u "java/io/Serializable")] 87

/-- java/lang/Enum -/
def k6 : Class := { plain "java/lang/Enum" (some 0) with
  accessFlags := 1057
  interfaces := #[3, 4, 5]
  cf := some (fileOf pool6 2 #[.nestMembers #[106]] #[] 1057 12 #[111, 113, 115] #[{ accessFlags := 18, nameIndex := 5, descriptorIndex := 6, attributes := #[] }, { accessFlags := 18, nameIndex := 9, descriptorIndex := 10, attributes := #[] }, { accessFlags := 2, nameIndex := 19, descriptorIndex := 10, attributes := #[] }])
  fields := #[{ name := "name", type := (.object "java/lang/String"), accessFlags := 18, slot := 0, constantValue := 0 }, { name := "ordinal", type := .int, accessFlags := 18, slot := 1, constantValue := 0 }, { name := "hash", type := .int, accessFlags := 2, slot := 2, constantValue := 0 }]
  methods := #[]
  instanceTypes := #[(.object "java/lang/String"), .int, .int]
  staticTypes := #[]
  resolved := Array.replicate 204 none
  statics := none }

def pool7 : Array CpInfo := pool [(1, .class_ 2), (0, u "com/example/avain/avain/io/TokenKind"), (2, u "IDENTIFIER"), (0, u "Lcom/example/avain/avain/io/TokenKind;"), (2, u "COLON"), (2, u "SEMICOLON"), (2, u "COMMA"), (2, u "LEFT_PAREN"), (2, u "RIGHT_PAREN"), (2, u "LEFT_BRACE"), (2, u "RIGHT_BRACE"), (2, u "LEFT_SEAL"), (2, u "RIGHT_SEAL"), (2, u "ARROW"), (2, u "AUTHENTIC_ARROW"), (2, u "CONFIDENTIAL_ARROW"), (2, u "SECURE_ARROW"), (2, u "END"), (2, u "$VALUES"), (0, u "[Lcom/example/avain/avain/io/TokenKind;"), (6, .class_ 61), (1, u "java/lang/Enum"), (11, u "spelling"), (0, u "Ljava/lang/String;"), (2, u "channel"), (0, u "Lcom/example/avain/avain/model/Channel;")] 77

/-- com/example/avain/avain/io/TokenKind -/
def k7 : Class := { plain "com/example/avain/avain/io/TokenKind" (some 6) with
  accessFlags := 16433
  interfaces := #[]
  cf := some (fileOf pool7 1 #[] #[] 16433 59 #[] #[{ accessFlags := 16409, nameIndex := 5, descriptorIndex := 6, attributes := #[] }, { accessFlags := 16409, nameIndex := 9, descriptorIndex := 6, attributes := #[] }, { accessFlags := 16409, nameIndex := 12, descriptorIndex := 6, attributes := #[] }, { accessFlags := 16409, nameIndex := 15, descriptorIndex := 6, attributes := #[] }, { accessFlags := 16409, nameIndex := 18, descriptorIndex := 6, attributes := #[] }, { accessFlags := 16409, nameIndex := 21, descriptorIndex := 6, attributes := #[] }, { accessFlags := 16409, nameIndex := 24, descriptorIndex := 6, attributes := #[] }, { accessFlags := 16409, nameIndex := 27, descriptorIndex := 6, attributes := #[] }, { accessFlags := 16409, nameIndex := 30, descriptorIndex := 6, attributes := #[] }, { accessFlags := 16409, nameIndex := 33, descriptorIndex := 6, attributes := #[] }, { accessFlags := 16409, nameIndex := 36, descriptorIndex := 6, attributes := #[] }, { accessFlags := 16409, nameIndex := 39, descriptorIndex := 6, attributes := #[] }, { accessFlags := 16409, nameIndex := 42, descriptorIndex := 6, attributes := #[] }, { accessFlags := 16409, nameIndex := 45, descriptorIndex := 6, attributes := #[] }, { accessFlags := 16409, nameIndex := 48, descriptorIndex := 6, attributes := #[] }, { accessFlags := 18, nameIndex := 73, descriptorIndex := 74, attributes := #[] }, { accessFlags := 18, nameIndex := 77, descriptorIndex := 78, attributes := #[] }, { accessFlags := 4122, nameIndex := 51, descriptorIndex := 52, attributes := #[] }])
  fields := #[{ name := "IDENTIFIER", type := (.object "com/example/avain/avain/io/TokenKind"), accessFlags := 16409, slot := 0, constantValue := 0 }, { name := "COLON", type := (.object "com/example/avain/avain/io/TokenKind"), accessFlags := 16409, slot := 1, constantValue := 0 }, { name := "SEMICOLON", type := (.object "com/example/avain/avain/io/TokenKind"), accessFlags := 16409, slot := 2, constantValue := 0 }, { name := "COMMA", type := (.object "com/example/avain/avain/io/TokenKind"), accessFlags := 16409, slot := 3, constantValue := 0 }, { name := "LEFT_PAREN", type := (.object "com/example/avain/avain/io/TokenKind"), accessFlags := 16409, slot := 4, constantValue := 0 }, { name := "RIGHT_PAREN", type := (.object "com/example/avain/avain/io/TokenKind"), accessFlags := 16409, slot := 5, constantValue := 0 }, { name := "LEFT_BRACE", type := (.object "com/example/avain/avain/io/TokenKind"), accessFlags := 16409, slot := 6, constantValue := 0 }, { name := "RIGHT_BRACE", type := (.object "com/example/avain/avain/io/TokenKind"), accessFlags := 16409, slot := 7, constantValue := 0 }, { name := "LEFT_SEAL", type := (.object "com/example/avain/avain/io/TokenKind"), accessFlags := 16409, slot := 8, constantValue := 0 }, { name := "RIGHT_SEAL", type := (.object "com/example/avain/avain/io/TokenKind"), accessFlags := 16409, slot := 9, constantValue := 0 }, { name := "ARROW", type := (.object "com/example/avain/avain/io/TokenKind"), accessFlags := 16409, slot := 10, constantValue := 0 }, { name := "AUTHENTIC_ARROW", type := (.object "com/example/avain/avain/io/TokenKind"), accessFlags := 16409, slot := 11, constantValue := 0 }, { name := "CONFIDENTIAL_ARROW", type := (.object "com/example/avain/avain/io/TokenKind"), accessFlags := 16409, slot := 12, constantValue := 0 }, { name := "SECURE_ARROW", type := (.object "com/example/avain/avain/io/TokenKind"), accessFlags := 16409, slot := 13, constantValue := 0 }, { name := "END", type := (.object "com/example/avain/avain/io/TokenKind"), accessFlags := 16409, slot := 14, constantValue := 0 }, { name := "spelling", type := (.object "java/lang/String"), accessFlags := 18, slot := 3, constantValue := 0 }, { name := "channel", type := (.object "com/example/avain/avain/model/Channel"), accessFlags := 18, slot := 4, constantValue := 0 }, { name := "$VALUES", type := (.array (.object "com/example/avain/avain/io/TokenKind")), accessFlags := 4122, slot := 15, constantValue := 0 }]
  methods := #[]
  instanceTypes := #[(.object "java/lang/String"), .int, .int, (.object "java/lang/String"), (.object "com/example/avain/avain/model/Channel")]
  staticTypes := #[(.object "com/example/avain/avain/io/TokenKind"), (.object "com/example/avain/avain/io/TokenKind"), (.object "com/example/avain/avain/io/TokenKind"), (.object "com/example/avain/avain/io/TokenKind"), (.object "com/example/avain/avain/io/TokenKind"), (.object "com/example/avain/avain/io/TokenKind"), (.object "com/example/avain/avain/io/TokenKind"), (.object "com/example/avain/avain/io/TokenKind"), (.object "com/example/avain/avain/io/TokenKind"), (.object "com/example/avain/avain/io/TokenKind"), (.object "com/example/avain/avain/io/TokenKind"), (.object "com/example/avain/avain/io/TokenKind"), (.object "com/example/avain/avain/io/TokenKind"), (.object "com/example/avain/avain/io/TokenKind"), (.object "com/example/avain/avain/io/TokenKind"), (.array (.object "com/example/avain/avain/io/TokenKind"))]
  resolved := Array.replicate 156 none
  statics := some 0 }

def pool8 : Array CpInfo := pool [(2, .class_ 4), (1, u "java/lang/CharSequence"), (42, .class_ 48), (0, u "java/lang/CharSequence$1CodePointIterator"), (10, .class_ 60), (0, u "java/lang/CharSequence$1CharIterator"), (5, .class_ 67), (0, u "java/lang/Object")] 63

/-- java/lang/CharSequence -/
def k8 : Class := { plain "java/lang/CharSequence" (some 0) with
  accessFlags := 1537
  interfaces := #[]
  cf := some (fileOf pool8 2 #[.nestMembers #[47, 59]] #[] 1537 66 #[] #[])
  fields := #[]
  methods := #[]
  instanceTypes := #[]
  staticTypes := #[]
  resolved := Array.replicate 131 none
  statics := none }

def pool9 : Array CpInfo := pool [(1, .class_ 2), (0, u "java/lang/constant/ConstantDesc"), (0, .class_ 4), (0, u "java/lang/Object")] 32

/-- java/lang/constant/ConstantDesc -/
def k9 : Class := { plain "java/lang/constant/ConstantDesc" (some 0) with
  accessFlags := 1537
  interfaces := #[]
  cf := some (fileOf pool9 1 #[] #[] 1537 3 #[] #[])
  fields := #[]
  methods := #[]
  instanceTypes := #[]
  staticTypes := #[]
  resolved := Array.replicate 37 none
  statics := none }

def pool10 : Array CpInfo := pool [(1, .methodref 2 3), (0, .class_ 4), (0, .nameAndType 5 6), (0, u "java/lang/Object"), (0, u "<init>"), (0, u "()V"), (0, .string 8), (0, u ""), (0, .fieldref 10 11), (0, .class_ 12), (0, .nameAndType 13 14), (0, u "java/lang/String"), (0, u "value"), (0, u "[B"), (0, .fieldref 10 16), (0, .nameAndType 17 18), (0, u "coder"), (0, u "B"), (2, u "hash"), (0, u "I"), (2, u "hashIsZero"), (0, u "Z"), (0, .methodref 10 28), (0, .nameAndType 5 29), (0, u "([CIILjava/lang/Void;)V"), (8, .fieldref 10 39), (0, .nameAndType 40 26), (0, u "COMPACT_STRINGS"), (1, .class_ 44), (1, u "java/lang/StringUTF16"), (0, u "compress"), (1, .methodref 42 48), (0, .nameAndType 49 50), (0, u "coderFromArrayLen"), (0, u "([BI)B"), (56, .class_ 109), (1, u "java/lang/StringLatin1"), (67, .methodref 42 178), (0, .nameAndType 45 179), (0, u "([CII)[B"), (361, .methodref 107 542), (0, .nameAndType 543 544), (0, u "equals"), (0, u "([B[B)Z"), (28, u "(Ljava/lang/Object;)Z"), (1, .class_ 576), (0, u "java/lang/CharSequence"), (22, u "CASE_INSENSITIVE_ORDER"), (0, u "Ljava/util/Comparator;"), (409, u "([C)V"), (90, u "serialPersistentFields"), (0, u "[Ljava/io/ObjectStreamField;"), (0, .class_ 1104), (0, u "java/lang/String$CaseInsensitiveComparator"), (1, .class_ 1107), (0, u "java/io/Serializable"), (0, .class_ 1109), (0, u "java/lang/Comparable"), (0, .class_ 1111), (0, u "java/lang/constant/Constable"), (0, .class_ 1113), (0, u "java/lang/constant/ConstantDesc"), (2, u "serialVersionUID"), (0, u "J"), (3, u "REPL"), (0, u "C"), (2, u "LATIN1"), (1, u "UTF16")] 323

def k10m0 : Method := { name := "<init>", desc := "()V", sig := { parameters := [], returnType := none }, accessFlags := 1, code := none }
def k10c1 : Code := { maxStack := 5, maxLocals := 2, code := jdk_42_method_3_code, exceptionTable := #[], attributes := #[] }
def k10m1 : Method := { name := "<init>", desc := "([C)V", sig := { parameters := [(.array .char)], returnType := none }, accessFlags := 1, code := some k10c1 }
def k10c2 : Code := { maxStack := 2, maxLocals := 3, code := jdk_42_method_66_code, exceptionTable := #[], attributes := #[] }
def k10m2 : Method := { name := "equals", desc := "(Ljava/lang/Object;)Z", sig := { parameters := [(.object "java/lang/Object")], returnType := some .boolean }, accessFlags := 1, code := some k10c2 }
def k10c3 : Code := { maxStack := 4, maxLocals := 6, code := jdk_42_method_149_code, exceptionTable := #[], attributes := #[] }
def k10m3 : Method := { name := "<init>", desc := "([CIILjava/lang/Void;)V", sig := { parameters := [(.array .char), .int, .int, (.object "java/lang/Void")], returnType := none }, accessFlags := 2, code := some k10c3 }
/-- java/lang/String -/
def k10 : Class := { plain "java/lang/String" (some 0) with
  accessFlags := 49
  interfaces := #[5, 4, 8, 3, 9]
  cf := some (fileOf pool10 10 #[.nestMembers #[1103]] #[{ accessFlags := 1, nameIndex := 5, descriptorIndex := 6, attributes := #[] }, { accessFlags := 1, nameIndex := 5, descriptorIndex := 1010, attributes := #[] }, { accessFlags := 1, nameIndex := 543, descriptorIndex := 573, attributes := #[] }, { accessFlags := 2, nameIndex := 5, descriptorIndex := 29, attributes := #[] }] 49 2 #[1106, 1108, 575, 1110, 1112] #[{ accessFlags := 18, nameIndex := 13, descriptorIndex := 14, attributes := #[] }, { accessFlags := 18, nameIndex := 17, descriptorIndex := 18, attributes := #[] }, { accessFlags := 2, nameIndex := 21, descriptorIndex := 22, attributes := #[] }, { accessFlags := 2, nameIndex := 25, descriptorIndex := 26, attributes := #[] }, { accessFlags := 26, nameIndex := 1116, descriptorIndex := 1117, attributes := #[] }, { accessFlags := 24, nameIndex := 40, descriptorIndex := 26, attributes := #[] }, { accessFlags := 26, nameIndex := 1101, descriptorIndex := 1102, attributes := #[] }, { accessFlags := 26, nameIndex := 1121, descriptorIndex := 1122, attributes := #[] }, { accessFlags := 25, nameIndex := 599, descriptorIndex := 600, attributes := #[] }, { accessFlags := 24, nameIndex := 1125, descriptorIndex := 18, attributes := #[] }, { accessFlags := 24, nameIndex := 1127, descriptorIndex := 18, attributes := #[] }])
  fields := #[{ name := "value", type := (.array .byte), accessFlags := 18, slot := 0, constantValue := 0 }, { name := "coder", type := .byte, accessFlags := 18, slot := 1, constantValue := 0 }, { name := "hash", type := .int, accessFlags := 2, slot := 2, constantValue := 0 }, { name := "hashIsZero", type := .boolean, accessFlags := 2, slot := 3, constantValue := 0 }, { name := "serialVersionUID", type := .long, accessFlags := 26, slot := 0, constantValue := 0 }, { name := "COMPACT_STRINGS", type := .boolean, accessFlags := 24, slot := 1, constantValue := 0 }, { name := "serialPersistentFields", type := (.array (.object "java/io/ObjectStreamField")), accessFlags := 26, slot := 2, constantValue := 0 }, { name := "REPL", type := .char, accessFlags := 26, slot := 3, constantValue := 0 }, { name := "CASE_INSENSITIVE_ORDER", type := (.object "java/util/Comparator"), accessFlags := 25, slot := 4, constantValue := 0 }, { name := "LATIN1", type := .byte, accessFlags := 24, slot := 5, constantValue := 0 }, { name := "UTF16", type := .byte, accessFlags := 24, slot := 6, constantValue := 0 }]
  methods := #[k10m0, k10m1, k10m2, k10m3]
  instanceTypes := #[(.array .byte), .byte, .int, .boolean]
  staticTypes := #[.long, .boolean, (.array (.object "java/io/ObjectStreamField")), .char, (.object "java/util/Comparator"), .byte, .byte]
  resolved := Array.replicate 1451 none
  statics := some 1 }

def pool11 : Array CpInfo := pool [(2, .class_ 4), (1, u "java/lang/Object"), (0, u "<init>"), (0, u "()V"), (35, .class_ 44), (1, u "java/util/Objects"), (0, u "requireNonNull"), (48, u "(Ljava/lang/Object;Ljava/lang/String;)Ljava/lang/Object;")] 89

def k11m0 : Method := { name := "<init>", desc := "()V", sig := { parameters := [], returnType := none }, accessFlags := 2, code := none }
def k11c1 : Code := { maxStack := 3, maxLocals := 2, code := jdk_31_method_11_code, exceptionTable := #[], attributes := #[] }
def k11m1 : Method := { name := "requireNonNull", desc := "(Ljava/lang/Object;Ljava/lang/String;)Ljava/lang/Object;", sig := { parameters := [(.object "java/lang/Object"), (.object "java/lang/String")], returnType := some (.object "java/lang/Object") }, accessFlags := 9, code := some k11c1 }
/-- java/util/Objects -/
def k11 : Class := { plain "java/util/Objects" (some 0) with
  accessFlags := 49
  interfaces := #[]
  cf := some (fileOf pool11 42 #[] #[{ accessFlags := 2, nameIndex := 5, descriptorIndex := 6, attributes := #[] }, { accessFlags := 9, nameIndex := 45, descriptorIndex := 94, attributes := #[] }] 49 2 #[] #[])
  fields := #[]
  methods := #[k11m0, k11m1]
  instanceTypes := #[]
  staticTypes := #[]
  resolved := Array.replicate 184 none
  statics := none }

def pool12 : Array CpInfo := pool [(4, .class_ 6), (1, u "java/lang/Object"), (0, u "<init>"), (0, u "()V"), (5, .class_ 16), (1, u "java/lang/StringLatin1"), (104, u "$assertionsDisabled"), (0, u "Z"), (98, .class_ 223), (1, u "java/lang/StringLatin1$LinesSpliterator"), (57, u "equals"), (0, u "([B[B)Z"), (107, .class_ 391), (0, u "java/lang/StringLatin1$CharsSpliterator")] 3

def k12m0 : Method := { name := "<init>", desc := "()V", sig := { parameters := [], returnType := none }, accessFlags := 0, code := none }
def k12c1 : Code := { maxStack := 3, maxLocals := 3, code := jdk_43_method_13_code, exceptionTable := #[], attributes := #[] }
def k12m1 : Method := { name := "equals", desc := "([B[B)Z", sig := { parameters := [(.array .byte), (.array .byte)], returnType := some .boolean }, accessFlags := 9, code := some k12c1 }
/-- java/lang/StringLatin1 -/
def k12 : Class := { plain "java/lang/StringLatin1" (some 0) with
  accessFlags := 48
  interfaces := #[]
  cf := some (fileOf pool12 14 #[.nestMembers #[390, 221]] #[{ accessFlags := 0, nameIndex := 7, descriptorIndex := 8, attributes := #[] }, { accessFlags := 9, nameIndex := 281, descriptorIndex := 282, attributes := #[] }] 48 4 #[] #[{ accessFlags := 4120, nameIndex := 121, descriptorIndex := 122, attributes := #[] }])
  fields := #[{ name := "$assertionsDisabled", type := .boolean, accessFlags := 4120, slot := 0, constantValue := 0 }]
  methods := #[k12m0, k12m1]
  instanceTypes := #[]
  staticTypes := #[.boolean]
  resolved := Array.replicate 395 none
  statics := none }

def pool13 : Array CpInfo := pool [(6, .class_ 8), (1, u "java/lang/Object"), (0, u "<init>"), (0, u "()V"), (1, .class_ 14), (1, u "java/lang/StringUTF16"), (31, u "$assertionsDisabled"), (0, u "Z"), (13, u "HI_BYTE_SHIFT"), (0, u "I"), (2, u "LO_BYTE_SHIFT"), (49, .methodref 12 116), (0, .nameAndType 117 118), (0, u "compress"), (0, u "([CI[BII)I"), (3, u "([CII)[B"), (138, u "coderFromArrayLen"), (0, u "([BI)B"), (106, .class_ 371), (1, u "java/lang/StringUTF16$LinesSpliterator"), (58, u "MAX_LENGTH"), (196, .class_ 628), (0, u "java/lang/StringUTF16$CodePointsSpliterator"), (0, .class_ 630), (0, u "java/lang/StringUTF16$CharsSpliterator")] 4

def k13m0 : Method := { name := "<init>", desc := "()V", sig := { parameters := [], returnType := none }, accessFlags := 0, code := none }
def k13c1 : Code := { maxStack := 2, maxLocals := 2, code := jdk_52_method_15_code, exceptionTable := #[], attributes := #[] }
def k13m1 : Method := { name := "coderFromArrayLen", desc := "([BI)B", sig := { parameters := [(.array .byte), .int], returnType := some .byte }, accessFlags := 8, code := some k13c1 }
def k13c2 : Code := { maxStack := 5, maxLocals := 6, code := jdk_52_method_16_code, exceptionTable := #[], attributes := #[] }
def k13m2 : Method := { name := "compress", desc := "([CII)[B", sig := { parameters := [(.array .char), .int, .int], returnType := some (.array .byte) }, accessFlags := 9, code := some k13c2 }
def k13c3 : Code := { maxStack := 3, maxLocals := 7, code := jdk_52_method_21_code, exceptionTable := #[], attributes := #[] }
def k13m3 : Method := { name := "compress", desc := "([CI[BII)I", sig := { parameters := [(.array .char), .int, (.array .byte), .int, .int], returnType := some .int }, accessFlags := 9, code := some k13c3 }
/-- java/lang/StringUTF16 -/
def k13 : Class := { plain "java/lang/StringUTF16" (some 0) with
  accessFlags := 48
  interfaces := #[]
  cf := some (fileOf pool13 12 #[.nestMembers #[627, 629, 369]] #[{ accessFlags := 0, nameIndex := 9, descriptorIndex := 10, attributes := #[] }, { accessFlags := 8, nameIndex := 261, descriptorIndex := 262, attributes := #[] }, { accessFlags := 9, nameIndex := 117, descriptorIndex := 122, attributes := #[] }, { accessFlags := 9, nameIndex := 117, descriptorIndex := 118, attributes := #[] }] 48 6 #[] #[{ accessFlags := 26, nameIndex := 61, descriptorIndex := 62, attributes := #[] }, { accessFlags := 26, nameIndex := 65, descriptorIndex := 62, attributes := #[] }, { accessFlags := 24, nameIndex := 430, descriptorIndex := 62, attributes := #[] }, { accessFlags := 4120, nameIndex := 46, descriptorIndex := 47, attributes := #[] }])
  fields := #[{ name := "HI_BYTE_SHIFT", type := .int, accessFlags := 26, slot := 0, constantValue := 0 }, { name := "LO_BYTE_SHIFT", type := .int, accessFlags := 26, slot := 1, constantValue := 0 }, { name := "MAX_LENGTH", type := .int, accessFlags := 24, slot := 2, constantValue := 0 }, { name := "$assertionsDisabled", type := .boolean, accessFlags := 4120, slot := 3, constantValue := 0 }]
  methods := #[k13m0, k13m1, k13m2, k13m3]
  instanceTypes := #[]
  staticTypes := #[.int, .int, .int, .boolean]
  resolved := Array.replicate 635 none
  statics := none }

def pool14 : Array CpInfo := pool [(2, .class_ 4), (1, u "java/lang/Object"), (0, u "<init>"), (0, u "()V"), (17, .class_ 26), (1, u "jdk/internal/util/Preconditions"), (28, .class_ 56), (0, u "jdk/internal/util/Preconditions$4"), (57, .class_ 115), (0, u "jdk/internal/util/Preconditions$1"), (7, u "SIOOBE_FORMATTER"), (0, u "Ljava/util/function/BiFunction;"), (0, .class_ 126), (0, u "jdk/internal/util/Preconditions$2"), (3, u "AIOOBE_FORMATTER"), (0, .class_ 132), (0, u "jdk/internal/util/Preconditions$3"), (3, u "IOOBE_FORMATTER")] 57

def k14m0 : Method := { name := "<init>", desc := "()V", sig := { parameters := [], returnType := none }, accessFlags := 1, code := none }
/-- jdk/internal/util/Preconditions -/
def k14 : Class := { plain "jdk/internal/util/Preconditions" (some 0) with
  accessFlags := 33
  interfaces := #[]
  cf := some (fileOf pool14 24 #[.nestMembers #[55, 131, 125, 114]] #[{ accessFlags := 1, nameIndex := 5, descriptorIndex := 6, attributes := #[] }] 33 2 #[] #[{ accessFlags := 25, nameIndex := 123, descriptorIndex := 124, attributes := #[] }, { accessFlags := 25, nameIndex := 130, descriptorIndex := 124, attributes := #[] }, { accessFlags := 25, nameIndex := 136, descriptorIndex := 124, attributes := #[] }])
  fields := #[{ name := "SIOOBE_FORMATTER", type := (.object "java/util/function/BiFunction"), accessFlags := 25, slot := 0, constantValue := 0 }, { name := "AIOOBE_FORMATTER", type := (.object "java/util/function/BiFunction"), accessFlags := 25, slot := 1, constantValue := 0 }, { name := "IOOBE_FORMATTER", type := (.object "java/util/function/BiFunction"), accessFlags := 25, slot := 2, constantValue := 0 }]
  methods := #[k14m0]
  instanceTypes := #[]
  staticTypes := #[(.object "java/util/function/BiFunction"), (.object "java/util/function/BiFunction"), (.object "java/util/function/BiFunction")]
  resolved := Array.replicate 194 none
  statics := some 2 }

def pool15 : Array CpInfo := pool [(9, u "<init>"), (6, .class_ 18), (1, u "java/lang/Object"), (0, u "()V"), (1, .class_ 23), (1, u "jdk/internal/util/ArraysSupport"), (0, u "LOG2_ARRAY_LONG_INDEX_SCALE"), (0, u "I"), (2, u "U"), (0, u "Ljdk/internal/misc/Unsafe;"), (8, u "BIG_ENDIAN"), (0, u "Z"), (8, u "LOG2_BYTE_BIT_SIZE"), (4, u "LOG2_ARRAY_INT_INDEX_SCALE"), (54, u "JLA"), (0, u "Ljdk/internal/access/JavaLangAccess;"), (11, u "LOG2_ARRAY_BOOLEAN_INDEX_SCALE"), (9, u "LOG2_ARRAY_BYTE_INDEX_SCALE"), (5, u "LOG2_ARRAY_CHAR_INDEX_SCALE"), (5, u "LOG2_ARRAY_SHORT_INDEX_SCALE"), (18, u "LOG2_ARRAY_FLOAT_INDEX_SCALE"), (24, u "LOG2_ARRAY_DOUBLE_INDEX_SCALE"), (89, u "T_BOOLEAN"), (2, u "T_CHAR"), (1, u "T_FLOAT"), (1, u "T_DOUBLE"), (1, u "T_BYTE"), (1, u "T_SHORT"), (1, u "T_INT"), (1, u "T_LONG"), (1, u "SOFT_MAX_ARRAY_LENGTH")] 83

def k15m0 : Method := { name := "<init>", desc := "()V", sig := { parameters := [], returnType := none }, accessFlags := 2, code := none }
/-- jdk/internal/util/ArraysSupport -/
def k15 : Class := { plain "jdk/internal/util/ArraysSupport" (some 0) with
  accessFlags := 33
  interfaces := #[]
  cf := some (fileOf pool15 21 #[] #[{ accessFlags := 2, nameIndex := 9, descriptorIndex := 19, attributes := #[] }] 33 16 #[] #[{ accessFlags := 24, nameIndex := 28, descriptorIndex := 29, attributes := #[] }, { accessFlags := 26, nameIndex := 38, descriptorIndex := 39, attributes := #[] }, { accessFlags := 25, nameIndex := 121, descriptorIndex := 25, attributes := #[] }, { accessFlags := 25, nameIndex := 131, descriptorIndex := 25, attributes := #[] }, { accessFlags := 25, nameIndex := 137, descriptorIndex := 25, attributes := #[] }, { accessFlags := 25, nameIndex := 143, descriptorIndex := 25, attributes := #[] }, { accessFlags := 25, nameIndex := 53, descriptorIndex := 25, attributes := #[] }, { accessFlags := 25, nameIndex := 24, descriptorIndex := 25, attributes := #[] }, { accessFlags := 25, nameIndex := 162, descriptorIndex := 25, attributes := #[] }, { accessFlags := 25, nameIndex := 187, descriptorIndex := 25, attributes := #[] }, { accessFlags := 26, nameIndex := 48, descriptorIndex := 25, attributes := #[] }, { accessFlags := 25, nameIndex := 277, descriptorIndex := 25, attributes := #[] }, { accessFlags := 25, nameIndex := 280, descriptorIndex := 25, attributes := #[] }, { accessFlags := 25, nameIndex := 282, descriptorIndex := 25, attributes := #[] }, { accessFlags := 25, nameIndex := 284, descriptorIndex := 25, attributes := #[] }, { accessFlags := 25, nameIndex := 286, descriptorIndex := 25, attributes := #[] }, { accessFlags := 25, nameIndex := 288, descriptorIndex := 25, attributes := #[] }, { accessFlags := 25, nameIndex := 290, descriptorIndex := 25, attributes := #[] }, { accessFlags := 25, nameIndex := 292, descriptorIndex := 25, attributes := #[] }, { accessFlags := 26, nameIndex := 108, descriptorIndex := 109, attributes := #[] }, { accessFlags := 25, nameIndex := 294, descriptorIndex := 25, attributes := #[] }])
  fields := #[{ name := "U", type := (.object "jdk/internal/misc/Unsafe"), accessFlags := 24, slot := 0, constantValue := 0 }, { name := "BIG_ENDIAN", type := .boolean, accessFlags := 26, slot := 1, constantValue := 0 }, { name := "LOG2_ARRAY_BOOLEAN_INDEX_SCALE", type := .int, accessFlags := 25, slot := 2, constantValue := 0 }, { name := "LOG2_ARRAY_BYTE_INDEX_SCALE", type := .int, accessFlags := 25, slot := 3, constantValue := 0 }, { name := "LOG2_ARRAY_CHAR_INDEX_SCALE", type := .int, accessFlags := 25, slot := 4, constantValue := 0 }, { name := "LOG2_ARRAY_SHORT_INDEX_SCALE", type := .int, accessFlags := 25, slot := 5, constantValue := 0 }, { name := "LOG2_ARRAY_INT_INDEX_SCALE", type := .int, accessFlags := 25, slot := 6, constantValue := 0 }, { name := "LOG2_ARRAY_LONG_INDEX_SCALE", type := .int, accessFlags := 25, slot := 7, constantValue := 0 }, { name := "LOG2_ARRAY_FLOAT_INDEX_SCALE", type := .int, accessFlags := 25, slot := 8, constantValue := 0 }, { name := "LOG2_ARRAY_DOUBLE_INDEX_SCALE", type := .int, accessFlags := 25, slot := 9, constantValue := 0 }, { name := "LOG2_BYTE_BIT_SIZE", type := .int, accessFlags := 26, slot := 10, constantValue := 0 }, { name := "T_BOOLEAN", type := .int, accessFlags := 25, slot := 11, constantValue := 0 }, { name := "T_CHAR", type := .int, accessFlags := 25, slot := 12, constantValue := 0 }, { name := "T_FLOAT", type := .int, accessFlags := 25, slot := 13, constantValue := 0 }, { name := "T_DOUBLE", type := .int, accessFlags := 25, slot := 14, constantValue := 0 }, { name := "T_BYTE", type := .int, accessFlags := 25, slot := 15, constantValue := 0 }, { name := "T_SHORT", type := .int, accessFlags := 25, slot := 16, constantValue := 0 }, { name := "T_INT", type := .int, accessFlags := 25, slot := 17, constantValue := 0 }, { name := "T_LONG", type := .int, accessFlags := 25, slot := 18, constantValue := 0 }, { name := "JLA", type := (.object "jdk/internal/access/JavaLangAccess"), accessFlags := 26, slot := 19, constantValue := 0 }, { name := "SOFT_MAX_ARRAY_LENGTH", type := .int, accessFlags := 25, slot := 20, constantValue := 0 }]
  methods := #[k15m0]
  instanceTypes := #[]
  staticTypes := #[(.object "jdk/internal/misc/Unsafe"), .boolean, .int, .int, .int, .int, .int, .int, .int, .int, .int, .int, .int, .int, .int, .int, .int, .int, .int, (.object "jdk/internal/access/JavaLangAccess"), .int]
  resolved := Array.replicate 378 none
  statics := none }

def pool16 : Array CpInfo := pool [(1, u "java/lang/Cloneable"), (0, .class_ 1), (0, u "java/lang/Object"), (0, .class_ 3)] 3

/-- java/lang/Cloneable -/
def k16 : Class := { plain "java/lang/Cloneable" (some 0) with
  accessFlags := 1537
  interfaces := #[]
  cf := some (fileOf pool16 2 #[] #[] 1537 4 #[] #[])
  fields := #[]
  methods := #[]
  instanceTypes := #[]
  staticTypes := #[]
  resolved := Array.replicate 8 none
  statics := none }

/-- the primitive byte -/
def k17 : Class := { plain "byte" none with kind := .primitive 'B', accessFlags := 0x411 }
/-- [B -/
def k18 : Class := { plain "[B" (some 0) with kind := .array 17 .byte, interfaces := #[16, 5], accessFlags := 1041 }

/-- the primitive char -/
def k19 : Class := { plain "char" none with kind := .primitive 'C', accessFlags := 0x411 }
/-- [C -/
def k20 : Class := { plain "[C" (some 0) with kind := .array 19 .char, interfaces := #[16, 5], accessFlags := 1041 }

/-- the primitive int -/
def k21 : Class := { plain "int" none with kind := .primitive 'I', accessFlags := 0x411 }
/-- [I -/
def k22 : Class := { plain "[I" (some 0) with kind := .array 21 .int, interfaces := #[16, 5], accessFlags := 1041 }

def heap : Heap := #[{ cls := 7, slots := #[.ref 3, .ref 15, .ref 13, .ref 5, .ref 4, .ref 7, .ref 16, .ref 12, .ref 17, .ref 10, .ref 11, .ref 8, .ref 9, .ref 6, .ref 14, .null], vm := .statics 7 },
  { cls := 10, slots := #[.long 0, .int 1, .null, .int 0, .null, .int 0, .int 0], vm := .statics 10 },
  { cls := 14, slots := #[.null, .null, .null], vm := .statics 14 },
  { cls := 7, slots := #[.null, .int 0, .int 0, .null, .null], vm := .none },
  { cls := 7, slots := #[.null, .int 4, .int 0, .null, .null], vm := .none },
  { cls := 7, slots := #[.null, .int 3, .int 0, .null, .null], vm := .none },
  { cls := 7, slots := #[.null, .int 13, .int 0, .null, .null], vm := .none },
  { cls := 7, slots := #[.null, .int 5, .int 0, .null, .null], vm := .none },
  { cls := 7, slots := #[.null, .int 11, .int 0, .null, .null], vm := .none },
  { cls := 7, slots := #[.null, .int 12, .int 0, .null, .null], vm := .none },
  { cls := 7, slots := #[.null, .int 9, .int 0, .null, .null], vm := .none },
  { cls := 7, slots := #[.null, .int 10, .int 0, .null, .null], vm := .none },
  { cls := 7, slots := #[.null, .int 7, .int 0, .null, .null], vm := .none },
  { cls := 7, slots := #[.null, .int 2, .int 0, .null, .null], vm := .none },
  { cls := 7, slots := #[.null, .int 14, .int 0, .null, .null], vm := .none },
  { cls := 7, slots := #[.null, .int 1, .int 0, .null, .null], vm := .none },
  { cls := 7, slots := #[.null, .int 6, .int 0, .null, .null], vm := .none },
  { cls := 7, slots := #[.null, .int 8, .int 0, .null, .null], vm := .none }]
def classes : Array Class := #[k0, k1, k2, k3, k4, k5, k6, k7, k8, k9, k10, k11, k12, k13, k14, k15, k16, k17, k18, k19, k20, k21, k22]
def interned : List (Array UInt16 × Addr) := []
def slotsUsed : Nat := 101
def theMethod : MethodId := ⟨1, 1⟩
def args0 : Array Value := #[.int 1, .int 2, .int 3, .int 4, .int 5, .int 6]
def aboutOver (below : List Frame) : State where
  vm := { classes := classes, interned := interned.toArray }
  heap := heap
  slotsUsed := slotsUsed
  threads := #[{ frames := .invoking theMethod args0 :: below }]
def below0 : List Frame := [.native { method := ⟨0, 0⟩, args := #[] }]
def about1 : State := aboutOver below0
def p0 : Program := .bare "" "" ""
def e0 : Env := launch0.env 0 0 0
theorem w_frames : about1.frames = Frame.invoking theMethod args0 :: below0 := rfl
set_option maxRecDepth 65536 in
theorem w_args : argsFit about1.vm theMethod args0 = true := by decide +kernel
set_option maxRecDepth 65536 in
theorem w_heap : heapFits about1 = true := by decide +kernel
set_option maxRecDepth 65536 in
theorem w_runnable : about1.curStatus? = some .runnable := by decide +kernel
set_option maxRecDepth 65536 in
theorem w_alone : about1.alone = true := by decide +kernel
set_option maxRecDepth 65536 in
theorem w_named : about1.methodNamed? x = some theMethod := by decide +kernel
set_option maxRecDepth 65536 in
theorem w_hears : about1.hears theMethod below0 = true := by decide +kernel
set_option maxRecDepth 65536 in
theorem w_ripe : about1.ripe theMethod args0 below0 = true := by decide +kernel
theorem w_running : about1.status = .running := rfl
set_option maxRecDepth 65536 in
theorem w_room : about1.hasRoom e0.platform room_1 = true :=
  launch0.hasRoom_least _ room_1 (by decide +kernel) (by decide +kernel) (by decide +kernel) (by decide +kernel) (by decide +kernel) (by decide +kernel)
theorem allAtoms_all (ts : List Jvm.Cond) (a : Array Jvm.Value) (st : Jvm.State) : (allAtoms ts).before a st = ts.all (fun c => c.before a st) := by
  induction ts with
  | nil => rfl
  | cons c t ih =>
    show (Jvm.Cond.and c (allAtoms t)).before a st = _
    rw [Jvm.Cond.before_and, ih, List.all_cons]
def words1 : List Jvm.Cond := Jvm.Cond.code x code maxLocals ret :: tables_1
/-- a 'code' word, met by the world's own term for the bytes: nothing is compared byte by byte -/
theorem code_word {y : MethodName} {bytes : ByteArray} {mx : Nat} {rt : Option FieldType} {a : Array Value} {s : State} {m : MethodId} {meth : Method} {c : Code} (h1 : s.methodNamed? y = some m) (h2 : s.vm.method? m = some meth) (h3 : meth.code = some c) (h4 : c.code = bytes)
    (h5 : (c.maxLocals == mx && c.exceptionTable.isEmpty && decide (c.maxStack ≤ mostOperands) && decide (meth.sig.returnType = rt) && !meth.locks && decide (parseMethodDescriptor y.desc = some meth.sig)) = true) : (Jvm.Cond.code y bytes mx rt).before a s = true := by
  simp only [Bool.and_eq_true, beq_iff_eq, Bool.not_eq_true', decide_eq_true_eq] at h5
  obtain ⟨⟨⟨⟨⟨g1, g2⟩, g3⟩, g4⟩, g5⟩, g6⟩ := h5
  simp [Cond.before, Cond.holds, Cond.value, h1, h2, h3, h4, g1, g2, g3, g4, g5, g6]
def isCode : Jvm.Cond → Bool
  | .code _ _ _ _ => true
  | _ => false
theorem all_split {L : List Jvm.Cond} {P : Jvm.Cond → Bool} (h1 : L.all (fun c => isCode c || P c) = true) (h2 : ∀ c ∈ L.filter isCode, P c = true) : L.all P = true := by
  refine List.all_eq_true.mpr fun c hc => ?_
  have h := List.all_eq_true.mp h1 c hc
  rcases Bool.eq_false_or_eq_true (isCode c) with hi | hi
  · exact h2 c (List.mem_filter.mpr ⟨hc, hi⟩)
  · simpa [hi] using h
set_option maxRecDepth 65536 in
theorem w_c0 : (Jvm.Cond.code x code maxLocals ret).before args0 about1 = true := code_word (m := ⟨1, 1⟩) (meth := k1m1) (c := k1c1) (by decide +kernel) rfl rfl rfl (by decide +kernel)
set_option maxRecDepth 65536 in
theorem w_c1 : (Jvm.Cond.code ({ cls := "com/example/avain/avain/io/TokenEqualsPinLaw", name := "kind", desc := "(I)Lcom/example/avain/avain/io/TokenKind;" } : Jvm.MethodName) method_4_code (1 : Nat) (Option.some (Jvm.ClassFile.FieldType.object "com/example/avain/avain/io/TokenKind"))).before args0 about1 = true := code_word (m := ⟨1, 3⟩) (meth := k1m3) (c := k1c3) (by decide +kernel) rfl rfl rfl (by decide +kernel)
set_option maxRecDepth 65536 in
theorem w_c2 : (Jvm.Cond.code ({ cls := "com/example/avain/avain/io/TokenEqualsPinLaw", name := "str", desc := "(ICC)Ljava/lang/String;" } : Jvm.MethodName) method_3_code (4 : Nat) (Option.some (Jvm.ClassFile.FieldType.object "java/lang/String"))).before args0 about1 = true := code_word (m := ⟨1, 2⟩) (meth := k1m2) (c := k1c2) (by decide +kernel) rfl rfl rfl (by decide +kernel)
set_option maxRecDepth 65536 in
theorem w_c3 : (Jvm.Cond.code ({ cls := "java/lang/String", name := "<init>", desc := "([C)V" } : Jvm.MethodName) jdk_42_method_3_code (2 : Nat) (Option.none : Option Jvm.ClassFile.FieldType)).before args0 about1 = true := code_word (m := ⟨10, 1⟩) (meth := k10m1) (c := k10c1) (by decide +kernel) rfl rfl rfl (by decide +kernel)
set_option maxRecDepth 65536 in
theorem w_c4 : (Jvm.Cond.code ({ cls := "java/lang/String", name := "<init>", desc := "([CIILjava/lang/Void;)V" } : Jvm.MethodName) jdk_42_method_149_code (6 : Nat) (Option.none : Option Jvm.ClassFile.FieldType)).before args0 about1 = true := code_word (m := ⟨10, 3⟩) (meth := k10m3) (c := k10c3) (by decide +kernel) rfl rfl rfl (by decide +kernel)
set_option maxRecDepth 65536 in
theorem w_c5 : (Jvm.Cond.code ({ cls := "java/lang/Object", name := "<init>", desc := "()V" } : Jvm.MethodName) object_method_1_code (1 : Nat) (Option.none : Option Jvm.ClassFile.FieldType)).before args0 about1 = true := code_word (m := ⟨0, 0⟩) (meth := k0m0) (c := k0c0) (by decide +kernel) rfl rfl rfl (by decide +kernel)
set_option maxRecDepth 65536 in
theorem w_c6 : (Jvm.Cond.code ({ cls := "com/example/avain/avain/io/Token", name := "<init>", desc := "(Lcom/example/avain/avain/io/TokenKind;Ljava/lang/String;II)V" } : Jvm.MethodName) prog_39_method_1_code (5 : Nat) (Option.none : Option Jvm.ClassFile.FieldType)).before args0 about1 = true := code_word (m := ⟨2, 0⟩) (meth := k2m0) (c := k2c0) (by decide +kernel) rfl rfl rfl (by decide +kernel)
set_option maxRecDepth 65536 in
theorem w_c7 : (Jvm.Cond.code ({ cls := "java/util/Objects", name := "requireNonNull", desc := "(Ljava/lang/Object;Ljava/lang/String;)Ljava/lang/Object;" } : Jvm.MethodName) jdk_31_method_11_code (2 : Nat) (Option.some (Jvm.ClassFile.FieldType.object "java/lang/Object"))).before args0 about1 = true := code_word (m := ⟨11, 1⟩) (meth := k11m1) (c := k11c1) (by decide +kernel) rfl rfl rfl (by decide +kernel)
set_option maxRecDepth 65536 in
theorem w_c8 : (Jvm.Cond.code ({ cls := "com/example/avain/avain/io/Token", name := "equals", desc := "(Ljava/lang/Object;)Z" } : Jvm.MethodName) prog_39_method_6_code (3 : Nat) (Option.some Jvm.ClassFile.FieldType.boolean)).before args0 about1 = true := code_word (m := ⟨2, 1⟩) (meth := k2m1) (c := k2c1) (by decide +kernel) rfl rfl rfl (by decide +kernel)
set_option maxRecDepth 65536 in
theorem w_c9 : (Jvm.Cond.code ({ cls := "java/lang/String", name := "equals", desc := "(Ljava/lang/Object;)Z" } : Jvm.MethodName) jdk_42_method_66_code (3 : Nat) (Option.some Jvm.ClassFile.FieldType.boolean)).before args0 about1 = true := code_word (m := ⟨10, 2⟩) (meth := k10m2) (c := k10c2) (by decide +kernel) rfl rfl rfl (by decide +kernel)
set_option maxRecDepth 65536 in
theorem w_c10 : (Jvm.Cond.code ({ cls := "java/lang/StringLatin1", name := "equals", desc := "([B[B)Z" } : Jvm.MethodName) jdk_43_method_13_code (3 : Nat) (Option.some Jvm.ClassFile.FieldType.boolean)).before args0 about1 = true := code_word (m := ⟨12, 1⟩) (meth := k12m1) (c := k12c1) (by decide +kernel) rfl rfl rfl (by decide +kernel)
set_option maxRecDepth 65536 in
theorem w_c11 : (Jvm.Cond.code ({ cls := "java/lang/StringUTF16", name := "compress", desc := "([CII)[B" } : Jvm.MethodName) jdk_52_method_16_code (6 : Nat) (Option.some (Jvm.ClassFile.FieldType.array Jvm.ClassFile.FieldType.byte))).before args0 about1 = true := code_word (m := ⟨13, 2⟩) (meth := k13m2) (c := k13c2) (by decide +kernel) rfl rfl rfl (by decide +kernel)
set_option maxRecDepth 65536 in
theorem w_c12 : (Jvm.Cond.code ({ cls := "java/lang/StringUTF16", name := "compress", desc := "([CI[BII)I" } : Jvm.MethodName) jdk_52_method_21_code (7 : Nat) (Option.some Jvm.ClassFile.FieldType.int)).before args0 about1 = true := code_word (m := ⟨13, 3⟩) (meth := k13m3) (c := k13c3) (by decide +kernel) rfl rfl rfl (by decide +kernel)
set_option maxRecDepth 65536 in
theorem w_c13 : (Jvm.Cond.code ({ cls := "java/lang/StringUTF16", name := "coderFromArrayLen", desc := "([BI)B" } : Jvm.MethodName) jdk_52_method_15_code (2 : Nat) (Option.some Jvm.ClassFile.FieldType.byte)).before args0 about1 = true := code_word (m := ⟨13, 1⟩) (meth := k13m1) (c := k13c1) (by decide +kernel) rfl rfl rfl (by decide +kernel)
def codes1 : List Jvm.Cond := [Jvm.Cond.code x code maxLocals ret, Jvm.Cond.code ({ cls := "com/example/avain/avain/io/TokenEqualsPinLaw", name := "kind", desc := "(I)Lcom/example/avain/avain/io/TokenKind;" } : Jvm.MethodName) method_4_code (1 : Nat) (Option.some (Jvm.ClassFile.FieldType.object "com/example/avain/avain/io/TokenKind")), Jvm.Cond.code ({ cls := "com/example/avain/avain/io/TokenEqualsPinLaw", name := "str", desc := "(ICC)Ljava/lang/String;" } : Jvm.MethodName) method_3_code (4 : Nat) (Option.some (Jvm.ClassFile.FieldType.object "java/lang/String")), Jvm.Cond.code ({ cls := "java/lang/String", name := "<init>", desc := "([C)V" } : Jvm.MethodName) jdk_42_method_3_code (2 : Nat) (Option.none : Option Jvm.ClassFile.FieldType), Jvm.Cond.code ({ cls := "java/lang/String", name := "<init>", desc := "([CIILjava/lang/Void;)V" } : Jvm.MethodName) jdk_42_method_149_code (6 : Nat) (Option.none : Option Jvm.ClassFile.FieldType), Jvm.Cond.code ({ cls := "java/lang/Object", name := "<init>", desc := "()V" } : Jvm.MethodName) object_method_1_code (1 : Nat) (Option.none : Option Jvm.ClassFile.FieldType), Jvm.Cond.code ({ cls := "com/example/avain/avain/io/Token", name := "<init>", desc := "(Lcom/example/avain/avain/io/TokenKind;Ljava/lang/String;II)V" } : Jvm.MethodName) prog_39_method_1_code (5 : Nat) (Option.none : Option Jvm.ClassFile.FieldType), Jvm.Cond.code ({ cls := "java/util/Objects", name := "requireNonNull", desc := "(Ljava/lang/Object;Ljava/lang/String;)Ljava/lang/Object;" } : Jvm.MethodName) jdk_31_method_11_code (2 : Nat) (Option.some (Jvm.ClassFile.FieldType.object "java/lang/Object")), Jvm.Cond.code ({ cls := "com/example/avain/avain/io/Token", name := "equals", desc := "(Ljava/lang/Object;)Z" } : Jvm.MethodName) prog_39_method_6_code (3 : Nat) (Option.some Jvm.ClassFile.FieldType.boolean), Jvm.Cond.code ({ cls := "java/lang/String", name := "equals", desc := "(Ljava/lang/Object;)Z" } : Jvm.MethodName) jdk_42_method_66_code (3 : Nat) (Option.some Jvm.ClassFile.FieldType.boolean), Jvm.Cond.code ({ cls := "java/lang/StringLatin1", name := "equals", desc := "([B[B)Z" } : Jvm.MethodName) jdk_43_method_13_code (3 : Nat) (Option.some Jvm.ClassFile.FieldType.boolean), Jvm.Cond.code ({ cls := "java/lang/StringUTF16", name := "compress", desc := "([CII)[B" } : Jvm.MethodName) jdk_52_method_16_code (6 : Nat) (Option.some (Jvm.ClassFile.FieldType.array Jvm.ClassFile.FieldType.byte)), Jvm.Cond.code ({ cls := "java/lang/StringUTF16", name := "compress", desc := "([CI[BII)I" } : Jvm.MethodName) jdk_52_method_21_code (7 : Nat) (Option.some Jvm.ClassFile.FieldType.int), Jvm.Cond.code ({ cls := "java/lang/StringUTF16", name := "coderFromArrayLen", desc := "([BI)B" } : Jvm.MethodName) jdk_52_method_15_code (2 : Nat) (Option.some Jvm.ClassFile.FieldType.byte)]
set_option maxRecDepth 65536 in
theorem codes_eq : words1.filter isCode = codes1 := rfl
theorem w_codes : ∀ c ∈ words1.filter isCode, c.before args0 about1 = true := by
  rw [codes_eq]
  intro c hc
  simp only [codes1, List.mem_cons, List.not_mem_nil, or_false] at hc
  rcases hc with rfl | rfl | rfl | rfl | rfl | rfl | rfl | rfl | rfl | rfl | rfl | rfl | rfl | rfl
  · exact w_c0
  · exact w_c1
  · exact w_c2
  · exact w_c3
  · exact w_c4
  · exact w_c5
  · exact w_c6
  · exact w_c7
  · exact w_c8
  · exact w_c9
  · exact w_c10
  · exact w_c11
  · exact w_c12
  · exact w_c13
set_option maxRecDepth 65536 in
theorem w_t1 : (words1.take 24).all (fun c => isCode c || c.before args0 about1) = true := by decide +kernel
set_option maxRecDepth 65536 in
theorem w_t2 : ((words1.drop 24).take 24).all (fun c => isCode c || c.before args0 about1) = true := by decide +kernel
set_option maxRecDepth 65536 in
theorem w_t3 : (((words1.drop 24).drop 24).take 24).all (fun c => isCode c || c.before args0 about1) = true := by decide +kernel
set_option maxRecDepth 65536 in
theorem w_t4 : ((((words1.drop 24).drop 24).drop 24).take 24).all (fun c => isCode c || c.before args0 about1) = true := by decide +kernel
set_option maxRecDepth 65536 in
theorem w_t5 : ((((words1.drop 24).drop 24).drop 24).drop 24).all (fun c => isCode c || c.before args0 about1) = true := by decide +kernel
theorem w_tables : (allAtoms (Jvm.Cond.code x code maxLocals ret :: tables_1)).before args0 about1 = true := by
  rw [allAtoms_all]
  show words1.all (fun c => c.before args0 about1) = true
  refine all_split ?_ w_codes
  rw [← List.take_append_drop 24 words1, List.all_append, w_t1, ← List.take_append_drop 24 (words1.drop 24), List.all_append, w_t2, ← List.take_append_drop 24 ((words1.drop 24).drop 24), List.all_append, w_t3, ← List.take_append_drop 24 (((words1.drop 24).drop 24).drop 24), List.all_append, w_t4, w_t5]
  rfl
set_option maxRecDepth 65536 in
theorem w_rest : rest_1_c.before args0 about1 = true := by decide +kernel
set_option maxRecDepth 65536 in
theorem w_case : (Jvm.Cond.and given_1 narrow_1).before args0 about1 = true := by decide +kernel
set_option maxRecDepth 65536 in
theorem w_consts : constsHeld consts_1 about1 := Jvm.Lit.constsHeldB_iff.mp (by decide +kernel)
theorem w_applies : (headSpec (Jvm.Cond.code x code maxLocals ret :: tables_1) room_1).applies x e0.platform about1 = true :=
  (Spec.applies_iff w_frames).mpr ⟨w_running, w_runnable, w_alone, w_named, w_hears, w_ripe, w_room, w_tables⟩
theorem atStart : AtStart classFile x code maxLocals ret World_1 tables_1 room_1 Calls_1 rest_1 Pre_1 launch0 p0 e0 about1 theMethod args0 below0 :=
  ⟨lists_1, trivial, launch0.admits_env _ _ _, launch0.least_env, fairChoices_fair.cas, fairChoices_fair.clock, w_frames, w_args, w_heap, w_applies, ⟨w_consts, trivial⟩, w_rest, w_case⟩
end start1
theorem witness_1 : WitnessClaimed_1 := ⟨start1.p0, start1.e0, start1.about1, start1.theMethod, start1.args0, start1.below0, start1.atStart⟩
end Jvm.Pilot.@@N@@
