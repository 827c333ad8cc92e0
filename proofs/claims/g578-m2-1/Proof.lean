import JvmDerived
import JvmDerived.Pilot.@@N@@Statement
import JvmDerived.Pilot.@@N@@Code
set_option linter.unusedVariables false
set_option linter.unusedSimpArgs false
namespace Jvm.Pilot.@@N@@
namespace GK
open Jvm Jvm.ClassFile Sem Op Lib Jvm.Free Jvm.Stand Jvm.LawKit Jvm.RoadKit Bundle
/-! A small program logic over the library's walks: 'Go' says that from a frame at pc the body runs to its return, and what holds there. -/
abbrev Md := Option (List (String × Nat))
def Bk0 (md : Md) (Z s : State) (sf : List Addr) (vm0 : Vm) (h : Heap) : Prop :=
  match md with
  | none => vm0 = s.vm
  | some EL => (∃ k, s.Since vm0 k ∧ k ≤ h.size) ∧ (∃ a0, EW Z a0 EL) ∧ CHr Z EL s.vm s.heap vm0 h ∧ ∀ x ∈ sf, x < h.size ∧ Safe Z EL vm0 h x
/-- what is kept along a walk: the start's cells stand; the tables' book -/
def Bok (md : Md) (Z : State) (n0 : Nat) (s : State) (sf : List Addr) (vm0 : Vm) (h : Heap) : Prop := Old Z n0 h ∧ Bk0 md Z s sf vm0 h
def SafeAll (md : Md) (Z : State) (sf : List Addr) (vm : Vm) (h : Heap) : Prop :=
  match md with
  | none => True
  | some EL => ∀ x ∈ sf, x < h.size ∧ Safe Z EL vm h x
def FinE (md : Md) (Z s : State) (o : Outcome) (t : State) (L : List Loc) (k n : Nat) : Prop :=
  match md with
  | none => FrameEnd s o t L k n
  | some EL => CHr Z EL s.vm s.heap t.vm t.heap ∧ ReturnedEndW s o t L k n
section B
variable {md : Md} {EL : List (String × Nat)} {Z s : State} {n0 : Nat} {sf sf' ws : List Addr} {vm0 vm1 : Vm} {h h' h2 : Heap} {x a : Addr} {sl : Nat} {v : Value}
theorem extR (h : Heap) : Ext h h := ⟨Nat.le_refl _, fun _ _ q => q⟩
theorem extT (E : Ext h h') (E' : Ext h' h2) : Ext h h2 := ⟨Nat.le_trans E.1 E'.1, fun a c q => E'.2 a c (E.2 a c q)⟩
/-- a write beyond h -/
theorem extW (E : Ext h h') (W : Wr h' h2 a sl v) (q : h.size ≤ a) : Ext h h2 := by
  obtain ⟨c, -, -, -, rfl⟩ := W
  refine ⟨by simpa using E.1, fun b cb hb => ?_⟩
  have hlt := (Array.getElem?_eq_some_iff.mp hb).1
  rw [Array.getElem?_setIfInBounds_ne (by omega)]
  exact E.2 b cb hb
theorem extK (E : Ext h h') (K : Keep h' h2 ws) (q : ∀ x ∈ ws, h.size ≤ x) : Ext h h2 :=
  ⟨Nat.le_trans E.1 K.1, fun b cb hb => K.2.1 b cb (E.2 b cb hb) fun z => by
    have hlt := (Array.getElem?_eq_some_iff.mp hb).1
    have := q b z; omega⟩
theorem keepE (E : Ext h h') (ws : List Addr) : Keep h h' ws := (Keep.refl h ws).ext E
theorem Bok.n0le (B : Bok md Z n0 s sf vm0 h) : n0 ≤ h.size := B.1.1 ▸ B.1.2.1
theorem Bok.sub (B : Bok md Z n0 s sf vm0 h) (q : ∀ x ∈ sf', x ∈ sf) : Bok md Z n0 s sf' vm0 h := by
  cases md with
  | none => exact B
  | some EL => exact ⟨B.1, B.2.1, B.2.2.1, B.2.2.2.1, fun x hx => B.2.2.2.2 x (q x hx)⟩
theorem Bok.keep (B : Bok md Z n0 s sf vm0 h) (K : Keep h h' ws) (q : ∀ x ∈ ws, x ∈ sf) (q0 : ∀ x ∈ ws, n0 ≤ x) : Bok md Z n0 s sf vm0 h' := by
  refine ⟨B.1.keep K q0, ?_⟩
  cases md with
  | none => exact B.2
  | some EL =>
    obtain ⟨-, ⟨k, h1, h2⟩, h3, h4, h5⟩ := B
    have C := CHr.keep K (fun x hx => (h5 x (q x hx)).2) h4.1
    exact ⟨⟨k, h1, Nat.le_trans h2 K.1⟩, h3, h4.trans C, fun x hx => ⟨Nat.lt_of_lt_of_le (h5 x hx).1 K.1, C.safe (h5 x hx).1 (h5 x hx).2⟩⟩
theorem Bok.wr (B : Bok md Z n0 s sf vm0 h) (W : Wr h h' a sl v) (q : a ∈ sf) (q0 : n0 ≤ a) : Bok md Z n0 s sf vm0 h' :=
  B.keep (Keep.of_wr W) (fun x hx => by cases List.mem_singleton.mp hx; exact q) (fun x hx => by cases List.mem_singleton.mp hx; exact q0)
theorem Bok.ext (B : Bok md Z n0 s sf vm0 h) (E : Ext h h') : Bok md Z n0 s sf vm0 h' :=
  B.keep (keepE E []) (fun x hx => nomatch hx) (fun x hx => nomatch hx)
theorem Bok.new (B : Bok md Z n0 s sf vm0 h) (E : Ext h h') (q : x < h'.size) (r : h.size ≤ x) : Bok md Z n0 s (x :: sf) vm0 h' := by
  have B' := B.ext E
  cases md with
  | none => exact B'
  | some EL =>
    refine ⟨B'.1, B'.2.1, B'.2.2.1, B'.2.2.2.1, fun y hy => ?_⟩
    rcases List.mem_cons.mp hy with rfl | hy
    · exact ⟨q, fun b => Safe.new r ((B.2.2.2.1.1.step fun _ _ _ q => E.2 _ _ q).2 _ b)⟩
    · exact B'.2.2.2.2 y hy
end B
/-- Java's x >>> y -/
def ushr (x y : Int32) : Int32 := (x.toUInt32 >>> (y &&& 31).toUInt32).toInt32
def ushrL (x : Int64) (y : Int32) : Int64 := (x.toUInt64 >>> (y &&& 0x3f).toInt64.toUInt64).toInt64
/-- (char) x -/
def chr (x : Int32) : Int32 := x.toUInt32.toUInt16.toUInt32.toInt32
def Go (md : Md) (l : Launch) (Z : State) (n0 : Nat) (R : Room) (bytes : ByteArray) (ml : Nat) (ret : Option FieldType) (own mn : String) (Ψ : Option Value → Heap → List Addr → Prop)
    (cells slots : Nat) (sf : List Addr) (h : Heap) (pc : Nat) (L : Array Slot) (S : List Value) : Prop :=
  ∀ (p : Program) (e : Env) (s : State) (m : MethodId) (args : Array Value) (below : List Frame) (meth : Method) (c : Code) (vm0 : Vm) (T : State) (locs : List Loc),
    p.tables.exec = Jvm.exec → c.code = bytes → c.maxLocals = ml → meth.sig.returnType = ret → meth.locks = false → meth.name = mn → Z.vm.findClass own = some m.cls →
    Stand p l e R (s.setVm vm0) m args below meth c T locs cells slots → T.heap = h → Z.Warmed39 vm0 → Bok md Z n0 s sf vm0 h → Fr n0 locs →
    ∃ (s₂ : State) (o : Outcome), Steps p.tables e below (T.setTop (mkF m pc L S)) s₂ ∧ s₂.status = .running ∧ Ended s₂ below o ∧
      ∃ (v : Option Value) (L' : List Loc) (sf' : List Addr), o = .returned v ∧ Ψ v s₂.heap sf' ∧ Old Z n0 s₂.heap ∧ Fr n0 L' ∧ SafeAll md Z sf' s₂.vm s₂.heap ∧ FinE md Z s o s₂ L' R.cells R.slots
section G
variable {md : Md} {EL : List (String × Nat)} {l : Launch} {Z : State} {n0 : Nat} {R : Room} {bytes : ByteArray} {ml : Nat} {ret : Option FieldType} {own mn : String} {Ψ : Option Value → Heap → List Addr → Prop}
  {cells slots : Nat} {sf : List Addr} {h h' : Heap} {pc : Nat} {L : Array Slot} {S : List Value} {a0 : Array Value}
theorem Go.more {cells' slots' : Nat} {sf' : List Addr} (G : Go md l Z n0 R bytes ml ret own mn Ψ cells' slots' sf' h pc L S) (hc : cells ≤ cells') (hs : slots ≤ slots') (q : ∀ x ∈ sf', x ∈ sf) : Go md l Z n0 R bytes ml ret own mn Ψ cells slots sf h pc L S := by
  intro p e s m args below meth c vm0 T locs hx hby hml hr hlk hn ho X eT hZ B N
  exact G p e s m args below meth c vm0 T locs hx hby hml hr hlk hn ho (X.more hc hs) eT hZ (B.sub q) N
theorem Go.old (G : Old Z n0 h → n0 ≤ h.size → Go md l Z n0 R bytes ml ret own mn Ψ cells slots sf h pc L S) : Go md l Z n0 R bytes ml ret own mn Ψ cells slots sf h pc L S := by
  intro p e s m args below meth c vm0 T locs hx hby hml hr hlk hn ho X eT hZ B N
  exact G B.1 B.n0le p e s m args below meth c vm0 T locs hx hby hml hr hlk hn ho X eT hZ B N
theorem Go.pure {L' : Array Slot} {S' : List Value} (pc' : Nat) (k : ∀ (p : Program) (e : Env) (below : List Frame) (T target : State) (m : MethodId) (c : Code), At T m c below → p.tables.exec = Jvm.exec → c.code = bytes → Steps p.tables e below (T.setTop (mkF m pc' L' S')) target → Steps p.tables e below (T.setTop (mkF m pc L S)) target)
    (G : Go md l Z n0 R bytes ml ret own mn Ψ cells slots sf h pc' L' S') : Go md l Z n0 R bytes ml ret own mn Ψ cells slots sf h pc L S := by
  intro p e s m args below meth c vm0 T locs hx hby hml hr hlk hn ho X eT hZ B N
  obtain ⟨s₂, o, h1, r⟩ := G p e s m args below meth c vm0 T locs hx hby hml hr hlk hn ho X eT hZ B N
  exact ⟨s₂, o, k _ _ _ _ _ _ _ X.here hx hby h1, r⟩
/-- a step that may warm the tables and leaves the heap as it was -/
theorem Go.warm {L' : Array Slot} {S' : List Value} (pc' : Nat) (k : ∀ (p : Program) (e : Env) (s : State) (m : MethodId) (args : Array Value) (below : List Frame) (meth : Method) (c : Code) (T : State) (locs : List Loc), p.tables.exec = Jvm.exec → c.code = bytes → c.maxLocals = ml → Z.Warmed39 s.vm → s.vm.findClass own = some m.cls →
      Stand p l e R s m args below meth c T locs cells slots → T.heap = h → ∃ T', Stand p l e R s m args below meth c T' locs cells slots ∧ T'.heap = h ∧ ∀ target, Steps p.tables e below (T'.setTop (mkF m pc' L' S')) target → Steps p.tables e below (T.setTop (mkF m pc L S)) target)
    (G : Go md l Z n0 R bytes ml ret own mn Ψ cells slots sf h pc' L' S') : Go md l Z n0 R bytes ml ret own mn Ψ cells slots sf h pc L S := by
  intro p e s m args below meth c vm0 T locs hx hby hml hr hlk hn ho X eT hZ B N
  obtain ⟨T', X', e', st⟩ := k p e (s.setVm vm0) m args below meth c T locs hx hby hml hZ (by rw [show (s.setVm vm0).vm = vm0 from rfl, hZ.alike.findClass]; exact ho) X eT
  obtain ⟨s₂, o, h1, r⟩ := G p e s m args below meth c vm0 T' locs hx hby hml hr hlk hn ho X' e' hZ B N
  exact ⟨s₂, o, st _ h1, r⟩
/-- a write at a place of the object a -/
theorem Go.write {L' : Array Slot} {S' : List Value} {a : Addr} {sl : Nat} {v : Value} (pc' : Nat) (ha : a ∈ sf) (hn0 : n0 ≤ a) (k : ∀ (p : Program) (e : Env) (s : State) (m : MethodId) (args : Array Value) (below : List Frame) (meth : Method) (c : Code) (T : State) (locs : List Loc), p.tables.exec = Jvm.exec → c.code = bytes → c.maxLocals = ml → meth.name = mn → Z.Warmed39 s.vm → s.vm.findClass own = some m.cls →
      Stand p l e R s m args below meth c T locs cells slots → T.heap = h → ∃ T' h', Stand p l e R s m args below meth c T' (locs ++ [⟨a, sl⟩]) cells slots ∧ T'.heap = h' ∧ Wr h h' a sl v ∧ ∀ target, Steps p.tables e below (T'.setTop (mkF m pc' L' S')) target → Steps p.tables e below (T.setTop (mkF m pc L S)) target)
    (G : ∀ h', Wr h h' a sl v → Go md l Z n0 R bytes ml ret own mn Ψ cells slots sf h' pc' L' S') : Go md l Z n0 R bytes ml ret own mn Ψ cells slots sf h pc L S := by
  intro p e s m args below meth c vm0 T locs hx hby hml hr hlk hn ho X eT hZ B N
  obtain ⟨T', h', X', e', W, st⟩ := k p e (s.setVm vm0) m args below meth c T locs hx hby hml hn hZ (by rw [show (s.setVm vm0).vm = vm0 from rfl, hZ.alike.findClass]; exact ho) X eT
  obtain ⟨s₂, o, h1, r⟩ := G h' W p e s m args below meth c vm0 T' _ hx hby hml hr hlk hn ho X' e' hZ (B.wr W ha hn0) (Fr.snoc X' N hn0)
  exact ⟨s₂, o, st _ h1, r⟩
/-! the ends -/
theorem fin_ret {p : Program} {e : Env} {s : State} {m : MethodId} {args : Array Value} {below : List Frame} {meth : Method} {c : Code} {vm0 : Vm} {T : State} {locs : List Loc} {sf' : List Addr} {g : JFrame}
    (X : Stand p l e R (s.setVm vm0) m args below meth c T locs cells slots) (eT : T.heap = h) (hZ : Z.Warmed39 vm0) (B : Bok md Z n0 s sf vm0 h) (N : Fr n0 locs) {v : Option Value} (hv : meth.sig.returnType = none → v = none) (hlk : meth.locks = false) (hc : cells ≤ R.cells) (hs : slots ≤ R.slots)
    (Q : Ψ v h sf') (hsub : ∀ x ∈ sf', x ∈ sf)
    (st : ∀ fs, (∀ (f : JFrame) (acts : List Action), f.method = m → f.locked = none → f.entered = [] → (doReturn e (T.setTop f) acts v).1 = T.setFrames fs) → Steps p.tables e below (T.setTop g) (T.setFrames fs)) :
    ∃ (s₂ : State) (o : Outcome), Steps p.tables e below (T.setTop g) s₂ ∧ s₂.status = .running ∧ Ended s₂ below o ∧
      ∃ (v : Option Value) (L' : List Loc) (sf' : List Addr), o = .returned v ∧ Ψ v s₂.heap sf' ∧ Old Z n0 s₂.heap ∧ Fr n0 L' ∧ SafeAll md Z sf' s₂.vm s₂.heap ∧ FinE md Z s o s₂ L' R.cells R.slots := by
  have eh : ∀ fs, (T.setFrames fs).heap = h := fun fs => eT
  cases md with
  | none =>
    obtain rfl : vm0 = s.vm := B.2
    obtain ⟨fs, hr, hrun, hended, hW, hsame⟩ := X.leave hv hlk
    exact ⟨_, _, st fs hr, hrun, hended, v, locs, sf', rfl, by rw [eh]; exact Q, by rw [eh]; exact B.1, N, trivial, ⟨_, rfl⟩, hW, hsame.mono hc hs⟩
  | some EL =>
    obtain ⟨h0, ⟨k, h1, h2⟩, ⟨a0, h3⟩, h4, h5⟩ := B
    obtain ⟨fs, hr, hrun, hended, hW⟩ := X.leaveW h1 (by rw [eT]; exact h2) hv hlk
    have C : CHr Z EL vm0 h T.vm h := CHv.at X hZ h3 h4.1
    refine ⟨_, _, st fs hr, hrun, hended, v, locs, sf', rfl, by rw [eh]; exact Q, by rw [eh]; exact h0, N, fun x hx => ?_, ?_, hW.1, hW.2.1, hW.2.2.1, hW.2.2.2.mono hc hs⟩
    · rw [eh]; exact ⟨(h5 x (hsub x hx)).1, C.safe (h5 x (hsub x hx)).1 (h5 x (hsub x hx)).2⟩
    · rw [eh]; exact h4.trans C
theorem Go.ret0 (hd : decode bytes pc = .ok (.return_, 1)) (hret : ret = none) {sf' : List Addr} (Q : Ψ none h sf') (hsub : ∀ x ∈ sf', x ∈ sf) (hc : cells ≤ R.cells) (hs : slots ≤ R.slots) : Go md l Z n0 R bytes ml ret own mn Ψ cells slots sf h pc L [] := by
  intro p e s m args below meth c vm0 T locs hx hby hml hr hlk hn ho X eT hZ B N
  exact fin_ret X eT hZ B N (fun _ => rfl) hlk hc hs Q hsub fun fs hl => X.returnOut hx (hr.trans hret) (hb hby hd) hl
theorem Go.retW {t : FieldType} {w : Value} {i : Instr} (hd : decode bytes pc = .ok (i, 1)) (hret : ret = some t) (hn' : narrow t w = w)
    (hi : (i = .ireturn ∧ (t = .int ∨ t = .boolean ∨ t = .byte ∨ t = .char ∨ t = .short) ∧ ∃ z, w = .int z) ∨ (i = .lreturn ∧ t = .long ∧ ∃ z, w = .long z) ∨ (i = .dreturn ∧ t = .double ∧ ∃ z, w = .double z) ∨ (i = .freturn ∧ t = .float ∧ ∃ z, w = .float z) ∨ (i = .areturn ∧ t.isReference = true ∧ w.isRef = true))
    {sf' : List Addr} (Q : Ψ (some w) h sf') (hsub : ∀ x ∈ sf', x ∈ sf) (hc : cells ≤ R.cells) (hs : slots ≤ R.slots) : Go md l Z n0 R bytes ml ret own mn Ψ cells slots sf h pc L (w :: S) := by
  intro p e s m args below meth c vm0 T locs hx hby hml hr hlk hn ho X eT hZ B N
  exact fin_ret X eT hZ B N (fun q => by rw [hr, hret] at q; cases q) hlk hc hs Q hsub fun fs hl => retOut X hx (hr.trans hret) hn' hi (hb hby hd) hl
theorem Go.retI {z : Int32} (hd : decode bytes pc = .ok (.ireturn, 1)) (hret : ret = some .int) {sf' : List Addr} (Q : Ψ (some (.int z)) h sf') (hsub : ∀ x ∈ sf', x ∈ sf) (hc : cells ≤ R.cells) (hs : slots ≤ R.slots) : Go md l Z n0 R bytes ml ret own mn Ψ cells slots sf h pc L (.int z :: S) :=
  Go.retW hd hret rfl (Or.inl ⟨rfl, Or.inl rfl, _, rfl⟩) Q hsub hc hs
theorem Go.retJ {z : Int64} (hd : decode bytes pc = .ok (.lreturn, 1)) (hret : ret = some .long) {sf' : List Addr} (Q : Ψ (some (.long z)) h sf') (hsub : ∀ x ∈ sf', x ∈ sf) (hc : cells ≤ R.cells) (hs : slots ≤ R.slots) : Go md l Z n0 R bytes ml ret own mn Ψ cells slots sf h pc L (.long z :: S) :=
  Go.retW hd hret rfl (Or.inr (Or.inl ⟨rfl, rfl, _, rfl⟩)) Q hsub hc hs
theorem Go.retA {t : FieldType} {w : Value} (hd : decode bytes pc = .ok (.areturn, 1)) (hret : ret = some t) (ht : t.isReference = true) (hw : w.isRef = true) {sf' : List Addr} (Q : Ψ (some w) h sf') (hsub : ∀ x ∈ sf', x ∈ sf) (hc : cells ≤ R.cells) (hs : slots ≤ R.slots) : Go md l Z n0 R bytes ml ret own mn Ψ cells slots sf h pc L (w :: S) :=
  Go.retW hd hret (by cases t <;> cases w <;> first | rfl | cases ht | cases hw) (Or.inr (Or.inr (Or.inr (Or.inr ⟨rfl, ht, hw⟩)))) Q hsub hc hs
theorem Go.retN {t : FieldType} {z : Int32} (v : Int32) (hd : decode bytes pc = .ok (.ireturn, 1)) (hret : ret = some t) (ht : t = .boolean ∨ t = .byte ∨ t = .char ∨ t = .short) (hv : nar t z = v) {sf' : List Addr} (Q : Ψ (some (.int v)) h sf') (hsub : ∀ x ∈ sf', x ∈ sf) (hc : cells ≤ R.cells) (hs : slots ≤ R.slots) :
    Go md l Z n0 R bytes ml ret own mn Ψ cells slots sf h pc L (.int z :: S) := by
  subst hv
  intro p e s m args below meth c vm0 T locs hx hby hml hr hlk hn ho X eT hZ B N
  exact fin_ret X eT hZ B N (fun q => by rw [hr, hret] at q; cases q) hlk hc hs Q hsub fun fs hl => Jvm.RoadKit.retN X hx (hr.trans hret) ht (hb hby hd) hl
/-! plain steps -/
theorem Go.aload {k : Nat} {v : Value} (pc' : Nat) (hd : decode bytes pc = .ok (.aload k, 2)) (hp : pc + 2 = pc') (hl : L[k]? = some (.val v)) (hv : v.isRef = true) (G : Go md l Z n0 R bytes ml ret own mn Ψ cells slots sf h pc' L (v :: S)) : Go md l Z n0 R bytes ml ret own mn Ψ cells slots sf h pc L S := by
  subst hp; exact Go.pure _ (fun p e below T target m c A hx hby k => XS.aload A hx rfl (hb hby hd) hl hv k) G
theorem Go.aloadN {k : Fin 4} {v : Value} (pc' : Nat) (hd : decode bytes pc = .ok (.aload_n k, 1)) (hp : pc + 1 = pc') (hl : L[k.val]? = some (.val v)) (hv : v.isRef = true) (G : Go md l Z n0 R bytes ml ret own mn Ψ cells slots sf h pc' L (v :: S)) : Go md l Z n0 R bytes ml ret own mn Ψ cells slots sf h pc L S := by
  subst hp; exact Go.pure _ (fun p e below T target m c A hx hby k => XS.aloadN A hx rfl (hb hby hd) hl hv k) G
theorem Go.iload {k : Nat} {v : Int32} (pc' : Nat) (hd : decode bytes pc = .ok (.iload k, 2)) (hp : pc + 2 = pc') (hl : L[k]? = some (.val (.int v))) (G : Go md l Z n0 R bytes ml ret own mn Ψ cells slots sf h pc' L (.int v :: S)) : Go md l Z n0 R bytes ml ret own mn Ψ cells slots sf h pc L S := by
  subst hp; exact Go.pure _ (fun p e below T target m c A hx hby k => XS.iload A hx rfl (hb hby hd) hl k) G
theorem Go.iloadN {k : Fin 4} {v : Int32} (pc' : Nat) (hd : decode bytes pc = .ok (.iload_n k, 1)) (hp : pc + 1 = pc') (hl : L[k.val]? = some (.val (.int v))) (G : Go md l Z n0 R bytes ml ret own mn Ψ cells slots sf h pc' L (.int v :: S)) : Go md l Z n0 R bytes ml ret own mn Ψ cells slots sf h pc L S := by
  subst hp; exact Go.pure _ (fun p e below T target m c A hx hby k => XS.iloadN A hx rfl (hb hby hd) hl k) G
theorem Go.lload {k : Nat} {v : Int64} (pc' : Nat) (hd : decode bytes pc = .ok (.lload k, 2)) (hp : pc + 2 = pc') (hl : L[k]? = some (.val (.long v))) (G : Go md l Z n0 R bytes ml ret own mn Ψ cells slots sf h pc' L (.long v :: S)) : Go md l Z n0 R bytes ml ret own mn Ψ cells slots sf h pc L S := by
  subst hp; exact Go.pure _ (fun p e below T target m c A hx hby k => XS.lload A hx rfl (hb hby hd) hl k) G
theorem Go.lloadN {k : Fin 4} {v : Int64} (pc' : Nat) (hd : decode bytes pc = .ok (.lload_n k, 1)) (hp : pc + 1 = pc') (hl : L[k.val]? = some (.val (.long v))) (G : Go md l Z n0 R bytes ml ret own mn Ψ cells slots sf h pc' L (.long v :: S)) : Go md l Z n0 R bytes ml ret own mn Ψ cells slots sf h pc L S := by
  subst hp; exact Go.pure _ (fun p e below T target m c A hx hby k => XS.lloadN A hx rfl (hb hby hd) hl k) G
theorem Go.astore {k : Nat} {v : Value} (pc' : Nat) (L' : Array Slot) (hd : decode bytes pc = .ok (.astore k, 2)) (hp : pc + 2 = pc') (hv : v.isRef = true) (hl : storeLocals L k v = some L') (G : Go md l Z n0 R bytes ml ret own mn Ψ cells slots sf h pc' L' S) : Go md l Z n0 R bytes ml ret own mn Ψ cells slots sf h pc L (v :: S) := by
  subst hp; exact Go.pure _ (fun p e below T target m c A hx hby k => XS.astore A hx rfl (hb hby hd) rfl hv hl k) G
theorem Go.astoreN {k : Fin 4} {v : Value} (pc' : Nat) (L' : Array Slot) (hd : decode bytes pc = .ok (.astore_n k, 1)) (hp : pc + 1 = pc') (hv : v.isRef = true) (hl : storeLocals L k.val v = some L') (G : Go md l Z n0 R bytes ml ret own mn Ψ cells slots sf h pc' L' S) : Go md l Z n0 R bytes ml ret own mn Ψ cells slots sf h pc L (v :: S) := by
  subst hp; exact Go.pure _ (fun p e below T target m c A hx hby k => XS.astoreN A hx rfl (hb hby hd) rfl hv hl k) G
theorem Go.istore {k : Nat} {x : Int32} (pc' : Nat) (L' : Array Slot) (hd : decode bytes pc = .ok (.istore k, 2)) (hp : pc + 2 = pc') (hl : storeLocals L k (.int x) = some L') (G : Go md l Z n0 R bytes ml ret own mn Ψ cells slots sf h pc' L' S) : Go md l Z n0 R bytes ml ret own mn Ψ cells slots sf h pc L (.int x :: S) := by
  subst hp; exact Go.pure _ (fun p e below T target m c A hx hby k => XS.istore A hx rfl (hb hby hd) rfl hl k) G
theorem Go.istoreN {k : Fin 4} {x : Int32} (pc' : Nat) (L' : Array Slot) (hd : decode bytes pc = .ok (.istore_n k, 1)) (hp : pc + 1 = pc') (hl : storeLocals L k.val (.int x) = some L') (G : Go md l Z n0 R bytes ml ret own mn Ψ cells slots sf h pc' L' S) : Go md l Z n0 R bytes ml ret own mn Ψ cells slots sf h pc L (.int x :: S) := by
  subst hp; exact Go.pure _ (fun p e below T target m c A hx hby k => XS.istoreN A hx rfl (hb hby hd) rfl hl k) G
theorem Go.lstore {k : Nat} {x : Int64} (pc' : Nat) (L' : Array Slot) (hd : decode bytes pc = .ok (.lstore k, 2)) (hp : pc + 2 = pc') (hl : storeLocals L k (.long x) = some L') (G : Go md l Z n0 R bytes ml ret own mn Ψ cells slots sf h pc' L' S) : Go md l Z n0 R bytes ml ret own mn Ψ cells slots sf h pc L (.long x :: S) := by
  subst hp; exact Go.pure _ (fun p e below T target m c A hx hby k => XS.lstore A hx rfl (hb hby hd) rfl hl k) G
theorem Go.lstoreN {k : Fin 4} {x : Int64} (pc' : Nat) (L' : Array Slot) (hd : decode bytes pc = .ok (.lstore_n k, 1)) (hp : pc + 1 = pc') (hl : storeLocals L k.val (.long x) = some L') (G : Go md l Z n0 R bytes ml ret own mn Ψ cells slots sf h pc' L' S) : Go md l Z n0 R bytes ml ret own mn Ψ cells slots sf h pc L (.long x :: S) := by
  subst hp; exact Go.pure _ (fun p e below T target m c A hx hby k => XS.lstoreN A hx rfl (hb hby hd) rfl hl k) G
theorem Go.iinc {k : Nat} {cst : Int} {x : Int32} (pc' : Nat) (L' : Array Slot) (v : Int32) (hd : decode bytes pc = .ok (.iinc k cst, 3)) (hp : pc + 3 = pc') (hl : L[k]? = some (.val (.int x))) (hv : Int32.ofInt cst = v) (hl' : storeLocals L k (.int (x + v)) = some L') (G : Go md l Z n0 R bytes ml ret own mn Ψ cells slots sf h pc' L' S) : Go md l Z n0 R bytes ml ret own mn Ψ cells slots sf h pc L S := by
  subst hp; subst hv; exact Go.pure _ (fun p e below T target m c A hx hby k => XS.iinc A hx rfl (hb hby hd) hl hl' k) G
theorem Go.iconst {i : Int} (pc' : Nat) (v : Int32) (hd : decode bytes pc = .ok (.iconst i, 1)) (hp : pc + 1 = pc') (hv : Int32.ofInt i = v) (G : Go md l Z n0 R bytes ml ret own mn Ψ cells slots sf h pc' L (.int v :: S)) : Go md l Z n0 R bytes ml ret own mn Ψ cells slots sf h pc L S := by
  subst hp; subst hv; exact Go.pure _ (fun p e below T target m c A hx hby k => XS.iconst A hx rfl (hb hby hd) k) G
theorem Go.bipush {i : Int} (pc' : Nat) (v : Int32) (hd : decode bytes pc = .ok (.bipush i, 2)) (hp : pc + 2 = pc') (hv : (Int8.ofInt i).toInt32 = v) (G : Go md l Z n0 R bytes ml ret own mn Ψ cells slots sf h pc' L (.int v :: S)) : Go md l Z n0 R bytes ml ret own mn Ψ cells slots sf h pc L S := by
  subst hp; subst hv; exact Go.pure _ (fun p e below T target m c A hx hby k => XS.bipush A hx rfl (hb hby hd) k) G
theorem Go.sipush {i : Int} (pc' : Nat) (v : Int32) (hd : decode bytes pc = .ok (.sipush i, 3)) (hp : pc + 3 = pc') (hv : (Int16.ofInt i).toInt32 = v) (G : Go md l Z n0 R bytes ml ret own mn Ψ cells slots sf h pc' L (.int v :: S)) : Go md l Z n0 R bytes ml ret own mn Ψ cells slots sf h pc L S := by
  subst hp; subst hv; exact Go.pure _ (fun p e below T target m c A hx hby k => XS.sipush A hx rfl (hb hby hd) k) G
theorem Go.lconst {i : Fin 2} (pc' : Nat) (v : Int64) (hd : decode bytes pc = .ok (.lconst i, 1)) (hp : pc + 1 = pc') (hv : Int64.ofNat i = v) (G : Go md l Z n0 R bytes ml ret own mn Ψ cells slots sf h pc' L (.long v :: S)) : Go md l Z n0 R bytes ml ret own mn Ψ cells slots sf h pc L S := by
  subst hp; subst hv; exact Go.pure _ (fun p e below T target m c A hx hby k => XS.lconst A hx rfl (hb hby hd) k) G
theorem Go.aconstNull (pc' : Nat) (hd : decode bytes pc = .ok (.aconst_null, 1)) (hp : pc + 1 = pc') (G : Go md l Z n0 R bytes ml ret own mn Ψ cells slots sf h pc' L (.null :: S)) : Go md l Z n0 R bytes ml ret own mn Ψ cells slots sf h pc L S := by
  subst hp; exact Go.pure _ (fun p e below T target m c A hx hby k => XS.aconstNull A hx rfl (hb hby hd) k) G
theorem Go.dup {v : Value} (pc' : Nat) (hd : decode bytes pc = .ok (.dup, 1)) (hp : pc + 1 = pc') (hv : v.category = 1) (G : Go md l Z n0 R bytes ml ret own mn Ψ cells slots sf h pc' L (v :: v :: S)) : Go md l Z n0 R bytes ml ret own mn Ψ cells slots sf h pc L (v :: S) := by
  subst hp; exact Go.pure _ (fun p e below T target m c A hx hby k => XS.dup A hx rfl (hb hby hd) rfl hv k) G
theorem Go.pop {v : Value} (pc' : Nat) (hd : decode bytes pc = .ok (.pop, 1)) (hp : pc + 1 = pc') (hv : v.category = 1) (G : Go md l Z n0 R bytes ml ret own mn Ψ cells slots sf h pc' L S) : Go md l Z n0 R bytes ml ret own mn Ψ cells slots sf h pc L (v :: S) := by
  subst hp; exact Go.pure _ (fun p e below T target m c A hx hby k => XS.pop A hx rfl (hb hby hd) rfl hv k) G
theorem Go.goto {o : Int} (pc' : Nat) (hd : decode bytes pc = .ok (.goto o, 3)) (ho' : 0 ≤ (pc : Int) + o) (hp : ((pc : Int) + o).toNat = pc') (G : Go md l Z n0 R bytes ml ret own mn Ψ cells slots sf h pc' L S) : Go md l Z n0 R bytes ml ret own mn Ψ cells slots sf h pc L S :=
  Go.pure pc' (fun p e below T target m c A hx hby k => XS.goto A hx rfl (pc0 := pc) (pc' := pc') rfl (hb hby hd) ho' hp k) G
theorem Go.ifY {cd : ClassFile.Cond} {x : Int32} {o : Int} (pc' : Nat) (hd : decode bytes pc = .ok (.ifCond cd o, 3)) (ho' : 0 ≤ (pc : Int) + o) (hp : ((pc : Int) + o).toNat = pc') (hc : if_icmp.holds cd x 0 = true) (G : Go md l Z n0 R bytes ml ret own mn Ψ cells slots sf h pc' L S) : Go md l Z n0 R bytes ml ret own mn Ψ cells slots sf h pc L (.int x :: S) :=
  Go.pure pc' (fun p e below T target m c A hx hby k => XS.ifYes A hx rfl (pc0 := pc) (pc' := pc') rfl (hb hby hd) rfl ((if0 _ _).trans hc) ho' hp k) G
theorem Go.ifN {cd : ClassFile.Cond} {x : Int32} {o : Int} (pc' : Nat) (hd : decode bytes pc = .ok (.ifCond cd o, 3)) (hp : pc + 3 = pc') (hc : if_icmp.holds cd x 0 = false) (G : Go md l Z n0 R bytes ml ret own mn Ψ cells slots sf h pc' L S) : Go md l Z n0 R bytes ml ret own mn Ψ cells slots sf h pc L (.int x :: S) := by
  subst hp; exact Go.pure _ (fun p e below T target m c A hx hby k => XS.ifNo A hx rfl (hb hby hd) rfl ((if0 _ _).trans hc) k) G
theorem Go.icmpY {cd : ClassFile.Cond} {x y : Int32} {o : Int} (pc' : Nat) (hd : decode bytes pc = .ok (.if_icmp cd o, 3)) (ho' : 0 ≤ (pc : Int) + o) (hp : ((pc : Int) + o).toNat = pc') (hc : if_icmp.holds cd x y = true) (G : Go md l Z n0 R bytes ml ret own mn Ψ cells slots sf h pc' L S) : Go md l Z n0 R bytes ml ret own mn Ψ cells slots sf h pc L (.int y :: .int x :: S) :=
  Go.pure pc' (fun p e below T target m c A hx hby k => XS.icmpYes A hx rfl (pc0 := pc) (pc' := pc') rfl (hb hby hd) rfl hc ho' hp k) G
theorem Go.icmpN {cd : ClassFile.Cond} {x y : Int32} {o : Int} (pc' : Nat) (hd : decode bytes pc = .ok (.if_icmp cd o, 3)) (hp : pc + 3 = pc') (hc : if_icmp.holds cd x y = false) (G : Go md l Z n0 R bytes ml ret own mn Ψ cells slots sf h pc' L S) : Go md l Z n0 R bytes ml ret own mn Ψ cells slots sf h pc L (.int y :: .int x :: S) := by
  subst hp; exact Go.pure _ (fun p e below T target m c A hx hby k => XS.icmpNo A hx rfl (hb hby hd) rfl hc k) G
theorem Go.acmpY {cd : ClassFile.ACond} {x y : Value} {o : Int} (pc' : Nat) (hd : decode bytes pc = .ok (.if_acmp cd o, 3)) (ho' : 0 ≤ (pc : Int) + o) (hp : ((pc : Int) + o).toNat = pc') (hx' : x.isRef = true) (hy' : y.isRef = true) (hc : acV cd (decide (x = y)) = true) (G : Go md l Z n0 R bytes ml ret own mn Ψ cells slots sf h pc' L S) : Go md l Z n0 R bytes ml ret own mn Ψ cells slots sf h pc L (y :: x :: S) :=
  Go.warm pc' (fun p e s m args below meth c T locs hx hby hml hZ hown X eT => ⟨T, X, eT, fun target k => Jvm.RoadKit.acmp (g := mkF m pc L (y :: x :: S)) X hx rfl hx' hy' (pc0 := pc) rfl (hb hby hd) rfl rfl ho' (by rw [if_pos hc]; exact hp.symm) k⟩) G
theorem Go.acmpN {cd : ClassFile.ACond} {x y : Value} {o : Int} (pc' : Nat) (hd : decode bytes pc = .ok (.if_acmp cd o, 3)) (ho' : 0 ≤ (pc : Int) + o) (hp : pc + 3 = pc') (hx' : x.isRef = true) (hy' : y.isRef = true) (hc : acV cd (decide (x = y)) = false) (G : Go md l Z n0 R bytes ml ret own mn Ψ cells slots sf h pc' L S) : Go md l Z n0 R bytes ml ret own mn Ψ cells slots sf h pc L (y :: x :: S) :=
  Go.warm pc' (fun p e s m args below meth c T locs hx hby hml hZ hown X eT => ⟨T, X, eT, fun target k => Jvm.RoadKit.acmp (g := mkF m pc L (y :: x :: S)) X hx rfl hx' hy' (pc0 := pc) rfl (hb hby hd) rfl rfl ho' (by rw [if_neg (by rw [hc]; exact Bool.false_ne_true)]; exact hp.symm) k⟩) G
theorem Go.nullY {o : Int} (pc' : Nat) (hd : decode bytes pc = .ok (.ifnull o, 3)) (ho' : 0 ≤ (pc : Int) + o) (hp : ((pc : Int) + o).toNat = pc') (G : Go md l Z n0 R bytes ml ret own mn Ψ cells slots sf h pc' L S) : Go md l Z n0 R bytes ml ret own mn Ψ cells slots sf h pc L (.null :: S) :=
  Go.pure pc' (fun p e below T target m c A hx hby k => XS.ifnullYes A hx rfl (pc0 := pc) (pc' := pc') rfl (hb hby hd) rfl ho' hp k) G
theorem Go.nullN {o : Int} {a : Addr} (pc' : Nat) (hd : decode bytes pc = .ok (.ifnull o, 3)) (hp : pc + 3 = pc') (G : Go md l Z n0 R bytes ml ret own mn Ψ cells slots sf h pc' L S) : Go md l Z n0 R bytes ml ret own mn Ψ cells slots sf h pc L (.ref a :: S) := by
  subst hp; exact Go.pure _ (fun p e below T target m c A hx hby k => XS.ifnullNo A hx rfl (hb hby hd) rfl k) G
theorem Go.nonnullY {o : Int} {a : Addr} (pc' : Nat) (hd : decode bytes pc = .ok (.ifnonnull o, 3)) (ho' : 0 ≤ (pc : Int) + o) (hp : ((pc : Int) + o).toNat = pc') (G : Go md l Z n0 R bytes ml ret own mn Ψ cells slots sf h pc' L S) : Go md l Z n0 R bytes ml ret own mn Ψ cells slots sf h pc L (.ref a :: S) :=
  Go.pure pc' (fun p e below T target m c A hx hby k => XS.ifnonnullYes A hx rfl (pc0 := pc) (pc' := pc') rfl (hb hby hd) rfl ho' hp k) G
theorem Go.nonnullN {o : Int} (pc' : Nat) (hd : decode bytes pc = .ok (.ifnonnull o, 3)) (hp : pc + 3 = pc') (G : Go md l Z n0 R bytes ml ret own mn Ψ cells slots sf h pc' L S) : Go md l Z n0 R bytes ml ret own mn Ψ cells slots sf h pc L (.null :: S) := by
  subst hp; exact Go.pure _ (fun p e below T target m c A hx hby k => XS.ifnonnullNo A hx rfl (hb hby hd) rfl k) G
theorem Go.iadd {x y : Int32} (pc' : Nat) (hd : decode bytes pc = .ok (.iadd, 1)) (hp : pc + 1 = pc') (G : Go md l Z n0 R bytes ml ret own mn Ψ cells slots sf h pc' L (.int (x + y) :: S)) : Go md l Z n0 R bytes ml ret own mn Ψ cells slots sf h pc L (.int y :: .int x :: S) := by
  subst hp; exact Go.pure _ (fun p e below T target m c A hx hby k => XS.iadd A hx rfl (hb hby hd) rfl k) G
theorem Go.isub {x y : Int32} (pc' : Nat) (hd : decode bytes pc = .ok (.isub, 1)) (hp : pc + 1 = pc') (G : Go md l Z n0 R bytes ml ret own mn Ψ cells slots sf h pc' L (.int (x - y) :: S)) : Go md l Z n0 R bytes ml ret own mn Ψ cells slots sf h pc L (.int y :: .int x :: S) := by
  subst hp; exact Go.pure _ (fun p e below T target m c A hx hby k => XS.isub A hx rfl (hb hby hd) rfl k) G
theorem Go.imul {x y : Int32} (pc' : Nat) (hd : decode bytes pc = .ok (.imul, 1)) (hp : pc + 1 = pc') (G : Go md l Z n0 R bytes ml ret own mn Ψ cells slots sf h pc' L (.int (x * y) :: S)) : Go md l Z n0 R bytes ml ret own mn Ψ cells slots sf h pc L (.int y :: .int x :: S) := by
  subst hp; exact Go.pure _ (fun p e below T target m c A hx hby k => XS.imul A hx rfl (hb hby hd) rfl k) G
theorem Go.iand {x y : Int32} (pc' : Nat) (hd : decode bytes pc = .ok (.iand, 1)) (hp : pc + 1 = pc') (G : Go md l Z n0 R bytes ml ret own mn Ψ cells slots sf h pc' L (.int (x &&& y) :: S)) : Go md l Z n0 R bytes ml ret own mn Ψ cells slots sf h pc L (.int y :: .int x :: S) := by
  subst hp; exact Go.pure _ (fun p e below T target m c A hx hby k => XS.iand A hx rfl (hb hby hd) rfl k) G
theorem Go.ior {x y : Int32} (pc' : Nat) (hd : decode bytes pc = .ok (.ior, 1)) (hp : pc + 1 = pc') (G : Go md l Z n0 R bytes ml ret own mn Ψ cells slots sf h pc' L (.int (x ||| y) :: S)) : Go md l Z n0 R bytes ml ret own mn Ψ cells slots sf h pc L (.int y :: .int x :: S) := by
  subst hp; exact Go.pure _ (fun p e below T target m c A hx hby k => XS.ior A hx rfl (hb hby hd) rfl k) G
theorem Go.ixor {x y : Int32} (pc' : Nat) (hd : decode bytes pc = .ok (.ixor, 1)) (hp : pc + 1 = pc') (G : Go md l Z n0 R bytes ml ret own mn Ψ cells slots sf h pc' L (.int (x ^^^ y) :: S)) : Go md l Z n0 R bytes ml ret own mn Ψ cells slots sf h pc L (.int y :: .int x :: S) := by
  subst hp; exact Go.pure _ (fun p e below T target m c A hx hby k => XS.ixor A hx rfl (hb hby hd) rfl k) G
theorem Go.ishl {x y : Int32} (pc' : Nat) (hd : decode bytes pc = .ok (.ishl, 1)) (hp : pc + 1 = pc') (G : Go md l Z n0 R bytes ml ret own mn Ψ cells slots sf h pc' L (.int (x <<< (y &&& 31)) :: S)) : Go md l Z n0 R bytes ml ret own mn Ψ cells slots sf h pc L (.int y :: .int x :: S) := by
  subst hp; exact Go.pure _ (fun p e below T target m c A hx hby k => XS.ishl A hx rfl (hb hby hd) rfl k) G
theorem Go.ishr {x y : Int32} (pc' : Nat) (hd : decode bytes pc = .ok (.ishr, 1)) (hp : pc + 1 = pc') (G : Go md l Z n0 R bytes ml ret own mn Ψ cells slots sf h pc' L (.int (x >>> (y &&& 31)) :: S)) : Go md l Z n0 R bytes ml ret own mn Ψ cells slots sf h pc L (.int y :: .int x :: S) := by
  subst hp; exact Go.pure _ (fun p e below T target m c A hx hby k => XS.ishr A hx rfl (hb hby hd) rfl k) G
theorem Go.iushr {x y : Int32} (pc' : Nat) (hd : decode bytes pc = .ok (.iushr, 1)) (hp : pc + 1 = pc') (G : Go md l Z n0 R bytes ml ret own mn Ψ cells slots sf h pc' L (.int (ushr x y) :: S)) : Go md l Z n0 R bytes ml ret own mn Ψ cells slots sf h pc L (.int y :: .int x :: S) := by
  subst hp; exact Go.pure _ (fun p e below T target m c A hx hby k => XS.iushr A hx rfl (hb hby hd) rfl k) G
theorem Go.idiv {x y : Int32} (pc' : Nat) (hd : decode bytes pc = .ok (.idiv, 1)) (hp : pc + 1 = pc') (hy : y ≠ 0) (G : Go md l Z n0 R bytes ml ret own mn Ψ cells slots sf h pc' L (.int (x / y) :: S)) : Go md l Z n0 R bytes ml ret own mn Ψ cells slots sf h pc L (.int y :: .int x :: S) := by
  subst hp; exact Go.pure _ (fun p e below T target m c A hx hby k => XS.idiv A hx rfl (hb hby hd) rfl hy k) G
theorem Go.ineg {x : Int32} (pc' : Nat) (hd : decode bytes pc = .ok (.ineg, 1)) (hp : pc + 1 = pc') (G : Go md l Z n0 R bytes ml ret own mn Ψ cells slots sf h pc' L (.int (-x) :: S)) : Go md l Z n0 R bytes ml ret own mn Ψ cells slots sf h pc L (.int x :: S) := by
  subst hp; exact Go.pure _ (fun p e below T target m c A hx hby k => XS.ineg A hx rfl (hb hby hd) rfl k) G
theorem Go.ladd {x y : Int64} (pc' : Nat) (hd : decode bytes pc = .ok (.ladd, 1)) (hp : pc + 1 = pc') (G : Go md l Z n0 R bytes ml ret own mn Ψ cells slots sf h pc' L (.long (x + y) :: S)) : Go md l Z n0 R bytes ml ret own mn Ψ cells slots sf h pc L (.long y :: .long x :: S) := by
  subst hp; exact Go.pure _ (fun p e below T target m c A hx hby k => XS.ladd A hx rfl (hb hby hd) rfl k) G
theorem Go.lsub {x y : Int64} (pc' : Nat) (hd : decode bytes pc = .ok (.lsub, 1)) (hp : pc + 1 = pc') (G : Go md l Z n0 R bytes ml ret own mn Ψ cells slots sf h pc' L (.long (x - y) :: S)) : Go md l Z n0 R bytes ml ret own mn Ψ cells slots sf h pc L (.long y :: .long x :: S) := by
  subst hp; exact Go.pure _ (fun p e below T target m c A hx hby k => XS.lsub A hx rfl (hb hby hd) rfl k) G
theorem Go.lmul {x y : Int64} (pc' : Nat) (hd : decode bytes pc = .ok (.lmul, 1)) (hp : pc + 1 = pc') (G : Go md l Z n0 R bytes ml ret own mn Ψ cells slots sf h pc' L (.long (x * y) :: S)) : Go md l Z n0 R bytes ml ret own mn Ψ cells slots sf h pc L (.long y :: .long x :: S) := by
  subst hp; exact Go.pure _ (fun p e below T target m c A hx hby k => XS.lmul A hx rfl (hb hby hd) rfl k) G
theorem Go.land {x y : Int64} (pc' : Nat) (hd : decode bytes pc = .ok (.land, 1)) (hp : pc + 1 = pc') (G : Go md l Z n0 R bytes ml ret own mn Ψ cells slots sf h pc' L (.long (x &&& y) :: S)) : Go md l Z n0 R bytes ml ret own mn Ψ cells slots sf h pc L (.long y :: .long x :: S) := by
  subst hp; exact Go.pure _ (fun p e below T target m c A hx hby k => XS.land A hx rfl (hb hby hd) rfl k) G
theorem Go.lor {x y : Int64} (pc' : Nat) (hd : decode bytes pc = .ok (.lor, 1)) (hp : pc + 1 = pc') (G : Go md l Z n0 R bytes ml ret own mn Ψ cells slots sf h pc' L (.long (x ||| y) :: S)) : Go md l Z n0 R bytes ml ret own mn Ψ cells slots sf h pc L (.long y :: .long x :: S) := by
  subst hp; exact Go.pure _ (fun p e below T target m c A hx hby k => XS.lor A hx rfl (hb hby hd) rfl k) G
theorem Go.lxor {x y : Int64} (pc' : Nat) (hd : decode bytes pc = .ok (.lxor, 1)) (hp : pc + 1 = pc') (G : Go md l Z n0 R bytes ml ret own mn Ψ cells slots sf h pc' L (.long (x ^^^ y) :: S)) : Go md l Z n0 R bytes ml ret own mn Ψ cells slots sf h pc L (.long y :: .long x :: S) := by
  subst hp; exact Go.pure _ (fun p e below T target m c A hx hby k => XS.lxor A hx rfl (hb hby hd) rfl k) G
theorem Go.lneg {x : Int64} (pc' : Nat) (hd : decode bytes pc = .ok (.lneg, 1)) (hp : pc + 1 = pc') (G : Go md l Z n0 R bytes ml ret own mn Ψ cells slots sf h pc' L (.long (-x) :: S)) : Go md l Z n0 R bytes ml ret own mn Ψ cells slots sf h pc L (.long x :: S) := by
  subst hp; exact Go.pure _ (fun p e below T target m c A hx hby k => XS.lneg A hx rfl (hb hby hd) rfl k) G
theorem Go.lcmp {x y : Int64} (pc' : Nat) (hd : decode bytes pc = .ok (.lcmp, 1)) (hp : pc + 1 = pc') (G : Go md l Z n0 R bytes ml ret own mn Ψ cells slots sf h pc' L (.int (lcmpW x y) :: S)) : Go md l Z n0 R bytes ml ret own mn Ψ cells slots sf h pc L (.long y :: .long x :: S) := by
  subst hp; exact Go.pure _ (fun p e below T target m c A hx hby k => XS.lcmp A hx rfl (hb hby hd) rfl k) G
theorem Go.lushr {x : Int64} {y : Int32} (pc' : Nat) (hd : decode bytes pc = .ok (.lushr, 1)) (hp : pc + 1 = pc') (G : Go md l Z n0 R bytes ml ret own mn Ψ cells slots sf h pc' L (.long (ushrL x y) :: S)) : Go md l Z n0 R bytes ml ret own mn Ψ cells slots sf h pc L (.int y :: .long x :: S) := by
  subst hp; exact Go.pure _ (fun p e below T target m c A hx hby k => XS.lushr A hx rfl (hb hby hd) rfl k) G
theorem Go.lshl {x : Int64} {y : Int32} (pc' : Nat) (hd : decode bytes pc = .ok (.lshl, 1)) (hp : pc + 1 = pc') (G : Go md l Z n0 R bytes ml ret own mn Ψ cells slots sf h pc' L (.long (x <<< (y &&& 0x3f).toInt64) :: S)) : Go md l Z n0 R bytes ml ret own mn Ψ cells slots sf h pc L (.int y :: .long x :: S) := by
  subst hp; exact Go.pure _ (fun p e below T target m c A hx hby k => XS.lshl A hx rfl (hb hby hd) rfl k) G
theorem Go.lrem {x y : Int64} (pc' : Nat) (hd : decode bytes pc = .ok (.lrem, 1)) (hp : pc + 1 = pc') (hy : y ≠ 0) (G : Go md l Z n0 R bytes ml ret own mn Ψ cells slots sf h pc' L (.long (x - (x / y) * y) :: S)) : Go md l Z n0 R bytes ml ret own mn Ψ cells slots sf h pc L (.long y :: .long x :: S) := by
  subst hp; exact Go.pure _ (fun p e below T target m c A hx hby k => XS.lrem A hx rfl (hb hby hd) rfl hy k) G
theorem Go.i2l {x : Int32} (pc' : Nat) (hd : decode bytes pc = .ok (.i2l, 1)) (hp : pc + 1 = pc') (G : Go md l Z n0 R bytes ml ret own mn Ψ cells slots sf h pc' L (.long x.toInt64 :: S)) : Go md l Z n0 R bytes ml ret own mn Ψ cells slots sf h pc L (.int x :: S) := by
  subst hp; exact Go.pure _ (fun p e below T target m c A hx hby k => XS.i2l A hx rfl (hb hby hd) rfl k) G
theorem Go.l2i {x : Int64} (pc' : Nat) (hd : decode bytes pc = .ok (.l2i, 1)) (hp : pc + 1 = pc') (G : Go md l Z n0 R bytes ml ret own mn Ψ cells slots sf h pc' L (.int x.toInt32 :: S)) : Go md l Z n0 R bytes ml ret own mn Ψ cells slots sf h pc L (.long x :: S) := by
  subst hp; exact Go.pure _ (fun p e below T target m c A hx hby k => XS.l2i A hx rfl (hb hby hd) rfl k) G
theorem Go.i2b {x : Int32} (pc' : Nat) (hd : decode bytes pc = .ok (.i2b, 1)) (hp : pc + 1 = pc') (G : Go md l Z n0 R bytes ml ret own mn Ψ cells slots sf h pc' L (.int x.toInt8.toInt32 :: S)) : Go md l Z n0 R bytes ml ret own mn Ψ cells slots sf h pc L (.int x :: S) := by
  subst hp; exact Go.pure _ (fun p e below T target m c A hx hby k => XS.i2b A hx rfl (hb hby hd) rfl k) G
theorem Go.i2c {x : Int32} (pc' : Nat) (hd : decode bytes pc = .ok (.i2c, 1)) (hp : pc + 1 = pc') (G : Go md l Z n0 R bytes ml ret own mn Ψ cells slots sf h pc' L (.int (chr x) :: S)) : Go md l Z n0 R bytes ml ret own mn Ψ cells slots sf h pc L (.int x :: S) := by
  subst hp; exact Go.pure _ (fun p e below T target m c A hx hby k => XS.i2c A hx rfl (hb hby hd) rfl k) G
theorem Go.dupX1 {v w : Value} (pc' : Nat) (hd : decode bytes pc = .ok (.dup_x1, 1)) (hp : pc + 1 = pc') (hv : v.category = 1) (hw : w.category = 1) (G : Go md l Z n0 R bytes ml ret own mn Ψ cells slots sf h pc' L (v :: w :: v :: S)) : Go md l Z n0 R bytes ml ret own mn Ψ cells slots sf h pc L (v :: w :: S) := by
  subst hp; exact Go.pure _ (fun p e below T target m c A hx hby k => XS.dupX1 A hx rfl (hb hby hd) rfl hv hw k) G
theorem sub1 {x : Addr} (q : x ∈ sf) : ∀ y ∈ [x], y ∈ sf := fun y hy => by cases List.mem_singleton.mp hy; exact q
/-- one field of an ordinary object known, each laid one holds something -/
theorem Fld.any {a : Addr} {C O n d O' n' d' : String} {v : Value} {k : Nat} (F : Fld Z h a O' n' d' v) (E : Exa Z h a C) (wi : (Jvm.Cond.instantiable C k).before a0 Z = true) (Lw : Laid Z a0 C O n d) : ∃ w, Fld Z h a O n d w := by
  obtain ⟨cell, cf, kk, i, f, h1, -, -, h4, h5, -, -⟩ := F
  obtain ⟨c2, k2, g1, g2, g3, g4, g5⟩ := E
  cases h1.symm.trans g1
  obtain ⟨c3, k3, i1, i2, i3, -⟩ := Cond.instantiable_spec wi
  cases g2.symm.trans i1
  cases g3.symm.trans i2
  obtain ⟨c, kc, cf', kf, j, f', a1, a2, a3, a4, a5, a6, -⟩ := Lw.spec
  cases g2.symm.trans a1
  cases g3.symm.trans a2
  have hs := g5 i3
  have hlt : f'.slot < cell.slots.size := by rw [hs]; exact (Array.getElem?_eq_some_iff.mp a6).1
  exact ⟨cell.slots[f'.slot], cell, cf', kf, j, f', h1, a3, a4, h4, h5, a5, Array.getElem?_eq_getElem hlt⟩
theorem Go.irem {x y : Int32} (pc' : Nat) (hd : decode bytes pc = .ok (.irem, 1)) (hp : pc + 1 = pc') (hy : y ≠ 0) (G : Go md l Z n0 R bytes ml ret own mn Ψ cells slots sf h pc' L (.int (x % y) :: S)) : Go md l Z n0 R bytes ml ret own mn Ψ cells slots sf h pc L (.int y :: .int x :: S) := by
  subst hp; exact Go.warm _ (fun p e s m args below meth c T locs hx hby hml hZ hown X eT => ⟨T, X, eT, fun target k => iremM (g := mkF m pc L (.int y :: .int x :: S)) X hx rfl (hb hby hd) rfl hy k⟩) G
theorem Go.ldcI {index : Nat} {v : Int32} (pc' : Nat) (hd : decode bytes pc = .ok (.ldc index, 2)) (hp : pc + 2 = pc') (w : (Jvm.Cond.constant own index v).before a0 Z = true) (G : Go md l Z n0 R bytes ml ret own mn Ψ cells slots sf h pc' L (.int v :: S)) : Go md l Z n0 R bytes ml ret own mn Ψ cells slots sf h pc L S := by
  subst hp; exact Go.warm _ (fun p e s m args below meth c T locs hx hby hml hZ hown X eT => ⟨T, X, eT, fun target k => X.ldcI (g := mkF m pc L S) hx hown (mvT hZ w) rfl (hb hby hd) k⟩) G
theorem Go.ldc2J {index : Nat} {v : Int64} (pc' : Nat) (hd : decode bytes pc = .ok (.ldc2_w index, 3)) (hp : pc + 3 = pc') (w : (Jvm.Cond.constantLong own index v).before a0 Z = true) (G : Go md l Z n0 R bytes ml ret own mn Ψ cells slots sf h pc' L (.long v :: S)) : Go md l Z n0 R bytes ml ret own mn Ψ cells slots sf h pc L S := by
  subst hp; exact Go.warm _ (fun p e s m args below meth c T locs hx hby hml hZ hown X eT => ⟨T, X, eT, fun target k => X.ldc2J (g := mkF m pc L S) hx hown (mvT hZ w) rfl (hb hby hd) k⟩) G
/-! fields -/
theorem Go.getF {R0 O n d : String} {index : Nat} {a : Addr} {v : Value} (pc' : Nat) (hd : decode bytes pc = .ok (.getfield index, 3)) (hp : pc + 3 = pc') (w : (Jvm.Cond.fieldLink own index R0 n d).before a0 Z = true) (via : Via Z R0 O n d) (F : Fld Z h a O n d v) (G : Go md l Z n0 R bytes ml ret own mn Ψ cells slots sf h pc' L (v :: S)) :
    Go md l Z n0 R bytes ml ret own mn Ψ cells slots sf h pc L (.ref a :: S) := by
  subst hp; exact Go.warm _ (fun p e s m args below meth c T locs hx hby hml hZ hown X eT => Jvm.RoadKit.getF X hx hZ hown (host := "") (Or.inl w) via eT F (g := mkF m pc L (.ref a :: S)) rfl rfl (hb hby hd)) G
theorem Go.getS {R0 O n d : String} {index : Nat} {v : Value} (pc' : Nat) (hd : decode bytes pc = .ok (.getstatic index, 3)) (hp : pc + 3 = pc') (w : (Jvm.Cond.fieldLink own index R0 n d).before a0 Z = true) (via : Via Z R0 O n d) (F : Sta Z Z.heap O n d v) (G : Go md l Z n0 R bytes ml ret own mn Ψ cells slots sf h pc' L (v :: S)) :
    Go md l Z n0 R bytes ml ret own mn Ψ cells slots sf h pc L S := by
  subst hp; exact Go.old fun o _ => Go.warm _ (fun p e s m args below meth c T locs hx hby hml hZ hown X eT => Jvm.RoadKit.getS (host := "") X hx hZ hown w via eT (F.ext o.2) (g := mkF m pc L S) rfl (hb hby hd)) G
theorem Go.putF {R0 O n d C : String} {index kk : Nat} {ty : FieldType} {a : Addr} {v old : Value} (pc' : Nat) (v' : Value) (hd : decode bytes pc = .ok (.putfield index, 3)) (hp : pc + 3 = pc') (w : (Jvm.Cond.fieldLink own index R0 n d).before a0 Z = true) (via : Via Z R0 O n d) (F : Fld Z h a O n d old) (E : Exa Z h a C)
    (Lw : (Jvm.Cond.lays C O n d).before a0 Z = true ∨ ((Jvm.Cond.laysFinal C O n d).before a0 Z = true ∧ own = O ∧ mn = "<init>")) (wi : (Jvm.Cond.instantiable C kk).before a0 Z = true) (hty : parseFieldDescriptor d = some ty) (hnw : narrow ty v = v') (hf : fits ty v' = true) (ha : a ∈ sf) (hn0 : n0 ≤ a)
    (G : ∀ h', Wr h h' a (Jvm.RoadKit.slotOf Z O n d) v' → Go md l Z n0 R bytes ml ret own mn Ψ cells slots sf h' pc' L S) : Go md l Z n0 R bytes ml ret own mn Ψ cells slots sf h pc L (v :: .ref a :: S) := by
  subst hp; exact Go.write _ ha hn0 (fun p e s m args below meth c T locs hx hby hml hnm hZ hown X eT => putFN X hx hZ hown w via eT F E (Lw.imp id fun q => ⟨q.1, q.2.1, hnm.trans q.2.2⟩) wi hty hnw hf (g := mkF m pc L (v :: .ref a :: S)) rfl rfl (hb hby hd)) G
/-! classes -/
theorem Go.castY {K : String} {index : Nat} {a : Addr} (pc' : Nat) (hd : decode bytes pc = .ok (.checkcast index, 3)) (hp : pc + 3 = pc') (w : (Jvm.Cond.classLink own index K).before a0 Z = true) (F : Ins Z h a K true) (G : Go md l Z n0 R bytes ml ret own mn Ψ cells slots sf h pc' L (.ref a :: S)) :
    Go md l Z n0 R bytes ml ret own mn Ψ cells slots sf h pc L (.ref a :: S) := by
  subst hp; exact Go.warm _ (fun p e s m args below meth c T locs hx hby hml hZ hown X eT => Jvm.RoadKit.castY X hx hZ hown w eT F (g := mkF m pc L (.ref a :: S)) rfl rfl (hb hby hd)) G
theorem Go.instY {K : String} {index : Nat} {a : Addr} (pc' : Nat) (hd : decode bytes pc = .ok (.instanceof index, 3)) (hp : pc + 3 = pc') (w : (Jvm.Cond.classLink own index K).before a0 Z = true) (F : Ins Z h a K true) (G : Go md l Z n0 R bytes ml ret own mn Ψ cells slots sf h pc' L (.int 1 :: S)) :
    Go md l Z n0 R bytes ml ret own mn Ψ cells slots sf h pc L (.ref a :: S) := by
  subst hp; exact Go.warm _ (fun p e s m args below meth c T locs hx hby hml hZ hown X eT => Jvm.RoadKit.instY X hx hZ hown w eT F (g := mkF m pc L (.ref a :: S)) rfl rfl (hb hby hd)) G
theorem Go.instNo {K C : String} {index : Nat} {a : Addr} (pc' : Nat) (hd : decode bytes pc = .ok (.instanceof index, 3)) (hp : pc + 3 = pc') (w : (Jvm.Cond.classLink own index K).before a0 Z = true) (E : Exa Z h a C) (F : ∃ c t, Z.vm.findClass C = some c ∧ Z.vm.findClass K = some t ∧ Z.vm.assignable c t = false) (G : Go md l Z n0 R bytes ml ret own mn Ψ cells slots sf h pc' L (.int 0 :: S)) :
    Go md l Z n0 R bytes ml ret own mn Ψ cells slots sf h pc L (.ref a :: S) := by
  subst hp; exact Go.warm _ (fun p e s m args below meth c T locs hx hby hml hZ hown X eT => Jvm.RoadKit.instNo X hx hZ hown w eT E F (g := mkF m pc L (.ref a :: S)) rfl rfl (hb hby hd)) G
theorem Go.instNull {index : Nat} (pc' : Nat) (hd : decode bytes pc = .ok (.instanceof index, 3)) (hp : pc + 3 = pc') (G : Go md l Z n0 R bytes ml ret own mn Ψ cells slots sf h pc' L (.int 0 :: S)) : Go md l Z n0 R bytes ml ret own mn Ψ cells slots sf h pc L (.null :: S) := by
  subst hp; exact Go.warm _ (fun p e s m args below meth c T locs hx hby hml hZ hown X eT => ⟨T, X, eT, fun target k => X.instanceofNull (g := mkF m pc L (.null :: S)) hx rfl rfl (hb hby hd) target k⟩) G
theorem Go.castNull {index : Nat} (pc' : Nat) (hd : decode bytes pc = .ok (.checkcast index, 3)) (hp : pc + 3 = pc') (G : Go md l Z n0 R bytes ml ret own mn Ψ cells slots sf h pc' L (.null :: S)) : Go md l Z n0 R bytes ml ret own mn Ψ cells slots sf h pc L (.null :: S) := by
  subst hp; exact Go.warm _ (fun p e s m args below meth c T locs hx hby hml hZ hown X eT => ⟨T, X, eT, fun target k => X.checkcastNull (g := mkF m pc L (.null :: S)) hx rfl rfl (hb hby hd) target k⟩) G
/-- Object's constructor -/
theorem Go.initO {idx : Nat} {a : Addr} {W : Nat} (pc' : Nat) (hd : decode bytes pc = .ok (.invokespecial idx, 3)) (hp : pc + 3 = pc') (w1 : (Jvm.Cond.methodLink own idx Lib.objectInit).before a0 Z = true) (w2 : (Jvm.Cond.instanceMethod Lib.objectInit).before a0 Z = true) (w3 : (Jvm.Cond.code Lib.objectInit ⟨#[0xb1]⟩ 1 none).before a0 Z = true)
    (hsz : L.size = ml) (hf : 1 ≤ R.frames) (hW : (S.map fun v => v.category).sum ≤ W) (hl : W + 12 ≤ R.locals) (G : Go md l Z n0 R bytes ml ret own mn Ψ cells slots sf h pc' L S) : Go md l Z n0 R bytes ml ret own mn Ψ cells slots sf h pc L (.ref a :: S) := by
  subst hp; exact Go.warm _ (fun p e s m args below meth c T locs hx hby hml hZ hown X eT => Jvm.RoadKit.initO X hx hZ hown w1 w2 w3 eT (g := mkF m pc L (.ref a :: S)) rfl (hsz.trans hml.symm) rfl (hb hby hd) hf (W := W) (by simpa using hW) hl) G
/-! what is made -/
theorem Go.new {C : String} {index n : Nat} (pc' : Nat) (hd : decode bytes pc = .ok (.new index, 3)) (hp : pc + 3 = pc') (w : (Jvm.Cond.classLink own index C).before a0 Z = true) (wi : (Jvm.Cond.instantiable C n).before a0 Z = true) (wz : (Jvm.Cond.initialized C).before a0 Z = true) (hc : cells + 1 ≤ R.cells) (hl : slots + n ≤ R.slots)
    (G : ∀ h' x, h.size = x → n0 ≤ x → Ext h h' → x < h'.size → Exa Z h' x C → (∀ {O nm d : String} {ty : FieldType}, Laid Z a0 C O nm d → parseFieldDescriptor d = some ty → Fld Z h' x O nm d (defaultValue ty)) → Go md l Z n0 R bytes ml ret own mn Ψ (cells + 1) (slots + n) (x :: sf) h' pc' L (.ref x :: S)) :
    Go md l Z n0 R bytes ml ret own mn Ψ cells slots sf h pc L S := by
  subst hp
  intro p e s m args below meth c vm0 T locs hx hby hml hr hlk hn ho X eT hZ B N
  obtain ⟨T', h', X', e', E, A, D, -, st⟩ := newO X hx hZ (by rw [show (s.setVm vm0).vm = vm0 from rfl, hZ.alike.findClass]; exact ho) w wi wz eT (g := mkF m pc L S) rfl (hb hby hd) hc hl
  obtain ⟨s₂, o, h1, r⟩ := G h' _ rfl B.n0le E A.lt A D p e s m args below meth c vm0 T' locs hx hby hml hr hlk hn ho X' e' hZ (B.new E A.lt (Nat.le_refl _)) N
  exact ⟨s₂, o, st _ h1, r⟩
/-- the array at a holds just these -/
def Ary (Z : State) (h : Heap) (a : Addr) (ty : FieldType) (vs : List Value) : Prop := ∃ c : Cell, Arr Z h a c ty ∧ c.slots.toList = vs ∧ vs.length < 2147483648 ∧ ∀ v ∈ vs, fits ty v = true
theorem Ary.lt {a : Addr} {ty : FieldType} {vs : List Value} (A : Ary Z h a ty vs) : a < h.size := by obtain ⟨c, A, -⟩ := A; exact A.lt
theorem Ary.ext {a : Addr} {ty : FieldType} {vs : List Value} (E : Ext h h') (A : Ary Z h a ty vs) : Ary Z h' a ty vs := by obtain ⟨c, A, r⟩ := A; exact ⟨c, A.ext E, r⟩
theorem Ary.other {a b : Addr} {ty : FieldType} {vs : List Value} {sl : Nat} {v : Value} (W : Wr h h' a sl v) (A : Ary Z h b ty vs) (q : b ≠ a) : Ary Z h' b ty vs := by obtain ⟨c, A, r⟩ := A; exact ⟨c, A.other W q, r⟩
theorem Ary.keep {a : Addr} {ty : FieldType} {vs : List Value} {ws : List Addr} (K : Keep h h' ws) (A : Ary Z h a ty vs) (q : a ∉ ws) : Ary Z h' a ty vs := by obtain ⟨c, A, r⟩ := A; exact ⟨c, ⟨K.2.1 a c A.1 q, A.2⟩, r⟩
theorem Ary.set {a : Addr} {ty : FieldType} {vs : List Value} {i : Nat} {v : Value} (W : Wr h h' a i v) (A : Ary Z h a ty vs) (hf : fits ty v = true) : Ary Z h' a ty (vs.set i v) := by
  obtain ⟨c, A, e1, e2, e3⟩ := A
  refine ⟨_, A.same W, by rw [← e1]; simp [Cell.setSlot, Array.toList_setIfInBounds], by simpa using e2, fun w hw => ?_⟩
  rcases List.mem_or_eq_of_mem_set hw with q | rfl
  · exact e3 w q
  · exact hf
theorem clamp_of {j : Int32} {i : Nat} (q : j.toInt = (i : Int)) : ¬ j < 0 ∧ j.toNatClampNeg = i := by
  refine ⟨fun z => ?_, ?_⟩
  · rw [Int32.lt_iff_toInt_lt] at z; rw [q] at z; have : (0 : Int32).toInt = 0 := rfl; omega
  · show j.toInt.toNat = i; rw [q]; rfl
theorem Ary.inb {a : Addr} {ty : FieldType} {vs : List Value} {c : Cell} {j : Int32} {i : Nat} (e1 : c.slots.toList = vs) (q : j.toInt = (i : Int)) (hi : i < vs.length) : ¬ (j < 0 ∨ c.slots.size ≤ j.toNatClampNeg) := by
  obtain ⟨q1, q2⟩ := clamp_of q
  rintro (z | z)
  · exact q1 z
  · rw [q2] at z; subst e1; simp at hi; omega
theorem Ary.at {c : Cell} {vs : List Value} {j : Int32} {i : Nat} {v : Value} (e1 : c.slots.toList = vs) (q : j.toInt = (i : Int)) (hv : vs[i]? = some v) : c.slots[j.toNatClampNeg]? = some v := by
  rw [(clamp_of q).2]; subst e1; rw [← hv]; simp
theorem Go.newA {aty : ArrayType} {n : Int32} {ty : FieldType} (k : Nat) (pc' : Nat) (hd : decode bytes pc = .ok (.newarray aty, 2)) (hp : pc + 2 = pc') (hty : newarray.typeOf aty = ty) (w : (Jvm.Cond.arrayClass ty).before a0 Z = true) (hk : n.toInt = (k : Int)) (cap : Nat) (hcap : k ≤ cap) (hb8 : cap * 8 ≤ 536870912) (hc : cells + 1 ≤ R.cells) (hl : slots + cap ≤ R.slots)
    (G : ∀ h' x, h.size = x → n0 ≤ x → Ext h h' → x < h'.size → Ary Z h' x ty (List.replicate k (defaultValue ty)) → Go md l Z n0 R bytes ml ret own mn Ψ (cells + 1) (slots + cap) (x :: sf) h' pc' L (.ref x :: S)) :
    Go md l Z n0 R bytes ml ret own mn Ψ cells slots sf h pc L (.int n :: S) := by
  subst hp; subst hty
  obtain ⟨q1, q2⟩ := clamp_of hk
  intro p e s m args below meth c vm0 T locs hx hby hml hr hlk hn ho X eT hZ B N
  obtain ⟨T', h', cA, X', e', E, A, st⟩ := newP X hx hZ w eT (g := mkF m pc L (.int n :: S)) rfl (hb hby hd) rfl q1 (cap := cap) (by rw [q2]; exact hcap) hb8 hc hl
  have A' : Ary Z h' h.size (newarray.typeOf aty) (List.replicate k (defaultValue (newarray.typeOf aty))) := ⟨_, A, by simp [Jvm.RoadKit.newA, q2], by simp; omega, fun v hv => by
    rw [(List.mem_replicate.mp hv).2]; cases aty <;> rfl⟩
  obtain ⟨s₂, o, h1, r⟩ := G h' _ rfl B.n0le E A'.lt A' p e s m args below meth c vm0 T' locs hx hby hml hr hlk hn ho X' e' hZ (B.new E A'.lt (Nat.le_refl _)) N
  exact ⟨s₂, o, st _ h1, r⟩
theorem Go.alen {a : Addr} {ty : FieldType} {vs : List Value} (pc' : Nat) (n : Int32) (hd : decode bytes pc = .ok (.arraylength, 1)) (hp : pc + 1 = pc') (A : Ary Z h a ty vs) (hn : Int32.ofNat vs.length = n) (G : Go md l Z n0 R bytes ml ret own mn Ψ cells slots sf h pc' L (.int n :: S)) :
    Go md l Z n0 R bytes ml ret own mn Ψ cells slots sf h pc L (.ref a :: S) := by
  subst hp; subst hn
  obtain ⟨c0, A, e1, e2, e3⟩ := A
  refine Go.warm _ (fun p e s m args below meth c T locs hx hby hml hZ hown X eT => ⟨T, X, eT, fun target k => X.arraylength hx (by rw [eT]; exact A.1) (State.isArrayOf_alike hZ.alike A.2.1) (g := mkF m pc L (.ref a :: S)) rfl rfl (hb hby hd) target ?_⟩) G
  subst e1; simpa using k
theorem Go.caload {a : Addr} {vs : List Value} {j : Int32} (i : Nat) {v : Value} (pc' : Nat) (hd : decode bytes pc = .ok (.caload, 1)) (hp : pc + 1 = pc') (A : Ary Z h a .char vs) (hj : j.toInt = (i : Int)) (hv : vs[i]? = some v) (G : Go md l Z n0 R bytes ml ret own mn Ψ cells slots sf h pc' L (v :: S)) :
    Go md l Z n0 R bytes ml ret own mn Ψ cells slots sf h pc L (.int j :: .ref a :: S) := by
  subst hp
  obtain ⟨c0, A, e1, e2, e3⟩ := A
  have hi := (List.getElem?_eq_some_iff.mp hv).1
  exact Go.warm _ (fun p e s m args below meth c T locs hx hby hml hZ hown X eT => ⟨T, X, eT, fun target k => X.caload hx (by rw [eT]; exact A.1) (State.isArrayOf_alike hZ.alike A.2.1) A.2.2 (Ary.inb (a := a) (ty := .char) e1 hj hi) (Ary.at e1 hj hv) (g := mkF m pc L (.int j :: .ref a :: S)) rfl rfl (hb hby hd) target k⟩) G
theorem Go.baload {a : Addr} {vs : List Value} {j : Int32} (i : Nat) {v : Value} (pc' : Nat) (hd : decode bytes pc = .ok (.baload, 1)) (hp : pc + 1 = pc') (A : Ary Z h a .byte vs) (hj : j.toInt = (i : Int)) (hv : vs[i]? = some v) (G : Go md l Z n0 R bytes ml ret own mn Ψ cells slots sf h pc' L (v :: S)) :
    Go md l Z n0 R bytes ml ret own mn Ψ cells slots sf h pc L (.int j :: .ref a :: S) := by
  subst hp
  obtain ⟨c0, A, e1, e2, e3⟩ := A
  have hi := (List.getElem?_eq_some_iff.mp hv).1
  exact Go.warm _ (fun p e s m args below meth c T locs hx hby hml hZ hown X eT => ⟨T, X, eT, fun target k => X.baloadBytes hx (by rw [eT]; exact A.1) (State.isArrayOf_alike hZ.alike A.2.1) A.2.2 (Ary.inb (a := a) (ty := .byte) e1 hj hi) (Ary.at e1 hj hv) (g := mkF m pc L (.int j :: .ref a :: S)) rfl rfl (hb hby hd) target k⟩) G
theorem Go.laload {a : Addr} {vs : List Value} {j : Int32} (i : Nat) {v : Value} (pc' : Nat) (hd : decode bytes pc = .ok (.laload, 1)) (hp : pc + 1 = pc') (A : Ary Z h a .long vs) (hj : j.toInt = (i : Int)) (hv : vs[i]? = some v) (G : Go md l Z n0 R bytes ml ret own mn Ψ cells slots sf h pc' L (v :: S)) :
    Go md l Z n0 R bytes ml ret own mn Ψ cells slots sf h pc L (.int j :: .ref a :: S) := by
  subst hp
  obtain ⟨c0, A, e1, e2, e3⟩ := A
  have hi := (List.getElem?_eq_some_iff.mp hv).1
  exact Go.warm _ (fun p e s m args below meth c T locs hx hby hml hZ hown X eT => ⟨T, X, eT, fun target k => X.laload hx (by rw [eT]; exact A.1) (State.isArrayOf_alike hZ.alike A.2.1) A.2.2 (Ary.inb (a := a) (ty := .long) e1 hj hi) (Ary.at e1 hj hv) (g := mkF m pc L (.int j :: .ref a :: S)) rfl rfl (hb hby hd) target k⟩) G
theorem Go.aaload {a : Addr} {vs : List Value} {j : Int32} {ty : FieldType} (i : Nat) {v : Value} (pc' : Nat) (hd : decode bytes pc = .ok (.aaload, 1)) (hp : pc + 1 = pc') (hty : ty.isReference = true) (A : Ary Z h a ty vs) (hj : j.toInt = (i : Int)) (hv : vs[i]? = some v) (G : Go md l Z n0 R bytes ml ret own mn Ψ cells slots sf h pc' L (v :: S)) :
    Go md l Z n0 R bytes ml ret own mn Ψ cells slots sf h pc L (.int j :: .ref a :: S) := by
  subst hp
  obtain ⟨c0, A, e1, e2, e3⟩ := A
  have hi := (List.getElem?_eq_some_iff.mp hv).1
  exact Go.warm _ (fun p e s m args below meth c T locs hx hby hml hZ hown X eT => ⟨T, X, eT, fun target k => X.aaload hx (by rw [eT]; exact A.1) (State.isArrayOf_alike hZ.alike A.2.1) hty A.2.2 (Ary.inb (a := a) (ty := ty) e1 hj hi) (Ary.at e1 hj hv) (g := mkF m pc L (.int j :: .ref a :: S)) rfl rfl (hb hby hd) target k⟩) G
theorem Go.castore {a : Addr} {vs : List Value} {j x : Int32} (i : Nat) (pc' : Nat) (hd : decode bytes pc = .ok (.castore, 1)) (hp : pc + 1 = pc') (A : Ary Z h a .char vs) (hj : j.toInt = (i : Int)) (hi : i < vs.length) (ha : a ∈ sf) (hn0 : n0 ≤ a)
    (G : ∀ h', Wr h h' a i (.int (nar .char x)) → Ary Z h' a .char (vs.set i (.int (nar .char x))) → Go md l Z n0 R bytes ml ret own mn Ψ cells slots sf h' pc' L S) : Go md l Z n0 R bytes ml ret own mn Ψ cells slots sf h pc L (.int x :: .int j :: .ref a :: S) := by
  subst hp
  obtain ⟨c0, A0, e1, e2, e3⟩ := A
  obtain ⟨-, q2⟩ := clamp_of hj
  exact Go.write _ ha hn0 (sl := i) (fun p e s m args below meth c T locs hx hby hml hnm hZ hown X eT => by rw [← q2]; exact stC X hx hZ eT A0 (Ary.inb (a := a) (ty := .char) e1 hj hi) (g := mkF m pc L (.int x :: .int j :: .ref a :: S)) rfl rfl (hb hby hd)) (fun h' W => G h' W (Ary.set W ⟨c0, A0, e1, e2, e3⟩ (fits_nar_char _)))
theorem Go.bastore {a : Addr} {vs : List Value} {j x : Int32} (i : Nat) (pc' : Nat) (hd : decode bytes pc = .ok (.bastore, 1)) (hp : pc + 1 = pc') (A : Ary Z h a .byte vs) (hj : j.toInt = (i : Int)) (hi : i < vs.length) (ha : a ∈ sf) (hn0 : n0 ≤ a)
    (G : ∀ h', Wr h h' a i (.int x.toInt8.toInt32) → Ary Z h' a .byte (vs.set i (.int x.toInt8.toInt32)) → Go md l Z n0 R bytes ml ret own mn Ψ cells slots sf h' pc' L S) : Go md l Z n0 R bytes ml ret own mn Ψ cells slots sf h pc L (.int x :: .int j :: .ref a :: S) := by
  subst hp
  obtain ⟨c0, A0, e1, e2, e3⟩ := A
  obtain ⟨-, q2⟩ := clamp_of hj
  exact Go.write _ ha hn0 (sl := i) (fun p e s m args below meth c T locs hx hby hml hnm hZ hown X eT => by rw [← q2]; exact stB X hx hZ eT A0 (Ary.inb (a := a) (ty := .byte) e1 hj hi) (g := mkF m pc L (.int x :: .int j :: .ref a :: S)) rfl rfl (hb hby hd)) (fun h' W => G h' W (Ary.set W ⟨c0, A0, e1, e2, e3⟩ (fits_nar_byte _)))
/-! calls -/
abbrev CPre (R : Room) (as : Array Value) (h : Heap) (kc ks : Nat) : Pt → Array Value → Prop := fun A a => a = as ∧ A.U.heap = h ∧ A.cells + kc ≤ R.cells ∧ A.slots + ks ≤ R.slots
abbrev CPost (Z : State) (n0 : Nat) (Q : Option Value → Heap → List Addr → Prop) (kc ks : Nat) : Pt → Array Value → Option Value → Pt → Prop := fun A _ v B => ∃ (L : List Loc) (sf' : List Addr), Q v B.U.heap sf' ∧ Old Z n0 B.U.heap ∧ Fr n0 L ∧ B.locs = A.locs ++ L ∧ B.cells = A.cells + kc ∧ B.slots = A.slots + ks
abbrev CPostW (Z : State) (EL : List (String × Nat)) (vm0 : Vm) (h : Heap) (n0 : Nat) (Q : Option Value → Heap → List Addr → Prop) (kc ks : Nat) : Pt → Array Value → Option Value → Pt → Prop := fun A _ v B => ∃ (L : List Loc) (sf' : List Addr), Q v B.U.heap sf' ∧ Old Z n0 B.U.heap ∧ Fr n0 L ∧ B.locs = A.locs ++ L ∧ B.cells = A.cells + kc ∧ B.slots = A.slots + ks ∧ CHr Z EL vm0 h B.U.vm B.U.heap ∧ ∀ x ∈ sf', x < B.U.heap.size ∧ Safe Z EL B.U.vm B.U.heap x
def Call (md : Md) (l : Launch) (Z : State) (n0 : Nat) (R : Room) (y : MethodName) (len W : Nat) (as : Array Value) (h : Heap) (sf : List Addr) (kc ks : Nat) (Q : Option Value → Heap → List Addr → Prop) : Prop :=
  ∀ (p : Program) (e : Env) (below : List Frame) (s : State) (vm0 : Vm) (sargs : Array Value), Z.Warmed39 vm0 → Bok md Z n0 s sf vm0 h →
    match md with
    | none => Back l R p e below (s.setVm vm0) sargs y len W (CPre R as h kc ks) (CPost Z n0 Q kc ks)
    | some EL => BackS l R p e below (s.setVm vm0) sargs y len W (CPre R as h kc ks) (CPostW Z EL vm0 h n0 Q kc ks)
theorem Bok.called {s U : State} {vm0 : Vm} {sf' : List Addr} (B : Bok (some EL) Z n0 s sf vm0 h) (h2 : (s.setVm vm0).Since U.vm U.heap.size) (o : Old Z n0 U.heap) (C : CHr Z EL vm0 h U.vm U.heap) (q : ∀ x ∈ sf', x < U.heap.size ∧ Safe Z EL U.vm U.heap x) : Bok (some EL) Z n0 s (sf' ++ sf) U.vm U.heap := by
  obtain ⟨-, ⟨k, b1, b2⟩, b3, b4, b5⟩ := B
  refine ⟨o, ⟨_, b1.trans h2 (Nat.le_trans b2 C.2.1), Nat.le_refl _⟩, b3, b4.trans C, fun x hx => ?_⟩
  rcases List.mem_append.mp hx with hx | hx
  · exact q x hx
  · exact ⟨Nat.lt_of_lt_of_le (b5 x hx).1 C.2.1, C.safe (b5 x hx).1 (b5 x hx).2⟩
theorem Go.callS {y : MethodName} {index maxY kc ks W : Nat} {bytesY : ByteArray} {retY : Option FieldType} {sfc : List Addr} {Q : Option Value → Heap → List Addr → Prop} {St : List Value} (pc' : Nat) (argsL : List Value) (hd : decode bytes pc = .ok (.invokestatic index, 3)) (hp : pc + 3 = pc') (hst : St = argsL.reverse ++ S)
    (wl : (Jvm.Cond.methodLink own index y).before a0 Z = true) (ws : (Jvm.Cond.static y).before a0 Z = true) (wi : (Jvm.Cond.initialized y.cls).before a0 Z = true) (wc : (Jvm.Cond.code y bytesY maxY retY).before a0 Z = true) (hy : y.cls ≠ "java/lang/invoke/MethodHandle" ∧ y.cls ≠ "java/lang/invoke/VarHandle")
    (hC : Call md l Z n0 R y 3 W argsL.toArray h sfc kc ks Q) (hlen : ∀ sig, parseMethodDescriptor y.desc = some sig → argsL.length = sig.parameters.length) (hW : (S.map fun v => v.category).sum ≤ W) (hsz : L.size = ml) (hc : cells + kc ≤ R.cells) (hs : slots + ks ≤ R.slots) (hsf : ∀ x ∈ sfc, x ∈ sf)
    (G : ∀ v h' sf', Q v h' sf' → Go md l Z n0 R bytes ml ret own mn Ψ (cells + kc) (slots + ks) (sf' ++ sf) h' pc' L (v.toList ++ S)) : Go md l Z n0 R bytes ml ret own mn Ψ cells slots sf h pc L St := by
  subst hp; subst hst
  intro p e s m args below meth c vm0 T locs hx hby hml hr hlk hn ho X eT hZ B N
  have hown : (s.setVm vm0).vm.findClass own = some m.cls := by rw [show (s.setVm vm0).vm = vm0 from rfl, hZ.alike.findClass]; exact ho
  have K := hC p e below s vm0 args hZ (B.sub hsf)
  cases md with
  | none =>
    obtain ⟨v, vm₁, ⟨U, L1, c1, n1⟩, -, X', ⟨L', sf', q1, q0, q2, q3, q4, q5⟩, st⟩ := Jvm.LawKit.callS X hx hown (mvT hZ wl) (mvT hZ ws) (mvT hZ wi) (mvT hZ wc) hy K (g := mkF m pc L (argsL.reverse ++ S)) rfl (hsz.trans hml.symm) hlen rfl (by simpa using hW) (hb hby hd) (fun _ _ => ⟨rfl, eT, hc, hs⟩)
    dsimp only [Pt.U, Pt.locs, Pt.cells, Pt.slots] at q1 q0 q3 q4 q5 X' st
    subst q3 q4 q5
    obtain ⟨s₂, o, h1, r⟩ := G v U.heap sf' q1 p e s m args below meth c vm0 U _ hx hby hml hr hlk hn ho X' rfl hZ ⟨q0, B.2⟩ (N.app q2)
    exact ⟨s₂, o, st _ h1, r⟩
  | some EL =>
    obtain ⟨v, vm₁, ⟨U, L1, c1, n1⟩, -, X', hS, hgr, ⟨L', sf', q1, q0, q2, q3, q4, q5, q6, q7⟩, st⟩ := callSS X hx hown (mvT hZ wl) (mvT hZ ws) (mvT hZ wi) (mvT hZ wc) hy K (g := mkF m pc L (argsL.reverse ++ S)) rfl (hsz.trans hml.symm) hlen rfl (by simpa using hW) (hb hby hd) (fun _ _ => ⟨rfl, eT, hc, hs⟩)
    dsimp only [Pt.U, Pt.locs, Pt.cells, Pt.slots] at q1 q0 q3 q4 q5 q6 q7 X' st hS hgr
    subst q3 q4 q5
    obtain ⟨s₂, o, h1, r⟩ := G v U.heap sf' q1 p e s m args below meth c U.vm U _ hx hby hml hr hlk hn ho X' rfl (State.Warmed39.trans (t := s.setVm vm0) hZ hS.1) (B.called hS q0 q6 q7) (N.app q2)
    exact ⟨s₂, o, st.trans h1, r⟩
theorem Go.callC {y : MethodName} {index maxY kc ks W : Nat} {bytesY : ByteArray} {sfc : List Addr} {Q : Option Value → Heap → List Addr → Prop} {St : List Value} {a : Addr} (pc' : Nat) (argsL : List Value) (hd : decode bytes pc = .ok (.invokespecial index, 3)) (hp : pc + 3 = pc') (hst : St = argsL.reverse ++ .ref a :: S) (hy1 : y.name = "<init>")
    (wl : (Jvm.Cond.methodLink own index y).before a0 Z = true) (ws : (Jvm.Cond.instanceMethod y).before a0 Z = true) (wc : (Jvm.Cond.code y bytesY maxY none).before a0 Z = true) (hy : y.cls ≠ "java/lang/invoke/MethodHandle" ∧ y.cls ≠ "java/lang/invoke/VarHandle")
    (hC : Call md l Z n0 R y 3 W (.ref a :: argsL).toArray h sfc kc ks Q) (hlen : ∀ sig, parseMethodDescriptor y.desc = some sig → argsL.length = sig.parameters.length) (hW : (S.map fun v => v.category).sum ≤ W) (hsz : L.size = ml) (hc : cells + kc ≤ R.cells) (hs : slots + ks ≤ R.slots) (hsf : ∀ x ∈ sfc, x ∈ sf)
    (G : ∀ v h' sf', Q v h' sf' → Go md l Z n0 R bytes ml ret own mn Ψ (cells + kc) (slots + ks) (sf' ++ sf) h' pc' L (v.toList ++ S)) : Go md l Z n0 R bytes ml ret own mn Ψ cells slots sf h pc L St := by
  subst hp; subst hst
  intro p e s m args below meth c vm0 T locs hx hby hml hr hlk hn ho X eT hZ B N
  have hown : (s.setVm vm0).vm.findClass own = some m.cls := by rw [show (s.setVm vm0).vm = vm0 from rfl, hZ.alike.findClass]; exact ho
  have K := hC p e below s vm0 args hZ (B.sub hsf)
  cases md with
  | none =>
    obtain ⟨v, vm₁, ⟨U, L1, c1, n1⟩, -, X', ⟨L', sf', q1, q0, q2, q3, q4, q5⟩, st⟩ := X.specialBack hx hy1 hown (mvT hZ wl) (mvT hZ ws) (mvT hZ wc) hy K (g := mkF m pc L (argsL.reverse ++ .ref a :: S)) rfl (hsz.trans hml.symm) (Steps.refl _) hlen rfl (by simpa using hW) (hb hby hd) (fun _ _ => ⟨rfl, eT, hc, hs⟩)
    dsimp only [Pt.U, Pt.locs, Pt.cells, Pt.slots] at q1 q0 q3 q4 q5 X' st
    subst q3 q4 q5
    obtain ⟨s₂, o, h1, r⟩ := G v U.heap sf' q1 p e s m args below meth c vm0 U _ hx hby hml hr hlk hn ho X' rfl hZ ⟨q0, B.2⟩ (N.app q2)
    exact ⟨s₂, o, st.trans h1, r⟩
  | some EL =>
    obtain ⟨v, vm₁, ⟨U, L1, c1, n1⟩, -, X', hS, hgr, ⟨L', sf', q1, q0, q2, q3, q4, q5, q6, q7⟩, st⟩ := X.specialBackS hx hy1 hown (mvT hZ wl) (mvT hZ ws) (mvT hZ wc) hy K (g := mkF m pc L (argsL.reverse ++ .ref a :: S)) rfl (hsz.trans hml.symm) (Steps.refl _) hlen rfl (by simpa using hW) (hb hby hd) (fun _ _ => ⟨rfl, eT, hc, hs⟩)
    dsimp only [Pt.U, Pt.locs, Pt.cells, Pt.slots] at q1 q0 q3 q4 q5 q6 q7 X' st hS hgr
    subst q3 q4 q5
    obtain ⟨s₂, o, h1, r⟩ := G v U.heap sf' q1 p e s m args below meth c U.vm U _ hx hby hml hr hlk hn ho X' rfl (State.Warmed39.trans (t := s.setVm vm0) hZ hS.1) (B.called hS q0 q6 q7) (N.app q2)
    exact ⟨s₂, o, st.trans h1, r⟩
theorem Go.callV {y z : MethodName} {index kc ks W : Nat} {C : String} {sfc : List Addr} {Q : Option Value → Heap → List Addr → Prop} {St : List Value} {a : Addr} (pc' : Nat) (argsL : List Value) (hd : decode bytes pc = .ok (.invokevirtual index, 3)) (hp : pc + 3 = pc') (hst : St = argsL.reverse ++ .ref a :: S)
    (wl : (Jvm.Cond.methodLink own index y).before a0 Z = true) (wd : (Jvm.Cond.declares y).before a0 Z = true) (wse : (Jvm.Cond.selects C y z).before a0 Z = true) (ws : (Jvm.Cond.instanceMethod z).before a0 Z = true) (hnf : ∀ (s : State), Z.Warmed39 s.vm → NotFace s y) (hy : y.cls ≠ "java/lang/invoke/MethodHandle" ∧ y.cls ≠ "java/lang/invoke/VarHandle")
    (E : Exa Z h a C) (hC : Call md l Z n0 R z 3 W (.ref a :: argsL).toArray h sfc kc ks Q) (hlen : ∀ sig, parseMethodDescriptor y.desc = some sig → argsL.length = sig.parameters.length) (hW : (S.map fun v => v.category).sum ≤ W) (hsz : L.size = ml) (hc : cells + kc ≤ R.cells) (hs : slots + ks ≤ R.slots) (hsf : ∀ x ∈ sfc, x ∈ sf)
    (G : ∀ v h' sf', Q v h' sf' → Go md l Z n0 R bytes ml ret own mn Ψ (cells + kc) (slots + ks) (sf' ++ sf) h' pc' L (v.toList ++ S)) : Go md l Z n0 R bytes ml ret own mn Ψ cells slots sf h pc L St := by
  subst hp; subst hst
  intro p e s m args below meth c vm0 T locs hx hby hml hr hlk hn ho X eT hZ B N
  have hown : (s.setVm vm0).vm.findClass own = some m.cls := by rw [show (s.setVm vm0).vm = vm0 from rfl, hZ.alike.findClass]; exact ho
  have K := hC p e below s vm0 args hZ (B.sub hsf)
  obtain ⟨cB, kB, i1, -, i3⟩ := isOf (s := s.setVm vm0) hZ eT E
  cases md with
  | none =>
    obtain ⟨v, vm₁, ⟨U, L1, c1, n1⟩, -, X', ⟨L', sf', q1, q0, q2, q3, q4, q5⟩, st⟩ := X.virtualBack hx hown (mvT hZ wl) (mvT hZ wd) (hnf _ hZ) (mvT hZ wse) (mvT hZ ws) hy K i1 i3 (g := mkF m pc L (argsL.reverse ++ .ref a :: S)) rfl (hsz.trans hml.symm) (Steps.refl _) hlen rfl (by simpa using hW) (hb hby hd) (fun _ _ => ⟨rfl, eT, hc, hs⟩)
    dsimp only [Pt.U, Pt.locs, Pt.cells, Pt.slots] at q1 q0 q3 q4 q5 X' st
    subst q3 q4 q5
    obtain ⟨s₂, o, h1, r⟩ := G v U.heap sf' q1 p e s m args below meth c vm0 U _ hx hby hml hr hlk hn ho X' rfl hZ ⟨q0, B.2⟩ (N.app q2)
    exact ⟨s₂, o, st.trans h1, r⟩
  | some EL =>
    obtain ⟨v, vm₁, ⟨U, L1, c1, n1⟩, -, X', hS, hgr, ⟨L', sf', q1, q0, q2, q3, q4, q5, q6, q7⟩, st⟩ := X.virtualBackS hx hown (mvT hZ wl) (mvT hZ wd) (hnf _ hZ) (mvT hZ wse) (mvT hZ ws) hy K i1 i3 (g := mkF m pc L (argsL.reverse ++ .ref a :: S)) rfl (hsz.trans hml.symm) (Steps.refl _) hlen rfl (by simpa using hW) (hb hby hd) (fun _ _ => ⟨rfl, eT, hc, hs⟩)
    dsimp only [Pt.U, Pt.locs, Pt.cells, Pt.slots] at q1 q0 q3 q4 q5 q6 q7 X' st hS hgr
    subst q3 q4 q5
    obtain ⟨s₂, o, h1, r⟩ := G v U.heap sf' q1 p e s m args below meth c U.vm U _ hx hby hml hr hlk hn ho X' rfl (State.Warmed39.trans (t := s.setVm vm0) hZ hS.1) (B.called hS q0 q6 q7) (N.app q2)
    exact ⟨s₂, o, st.trans h1, r⟩
/-! from a body to a call -/
theorem met_of_go {cls name desc : String} {as : Array Value} {L0 : Array Slot} {Q : Option Value → Heap → List Addr → Prop} {ws : List Jvm.Cond} (hpn : plainFor ⟨cls, name, desc⟩ = true) (hef : ∀ m, entryFrame m as ml = mkF m 0 L0 []) (G : Go md l Z n0 R bytes ml ret cls name Q 0 0 sf h 0 L0 []) :
    MetFree l ⟨cls, name, desc⟩ (head1 (Jvm.Cond.code ⟨cls, name, desc⟩ bytes ml ret :: ws) R) (fun a U => a = as ∧ Z.Warmed39 U.vm ∧ U.heap = h ∧ Bok md Z n0 U sf U.vm h) (fun _ _ _ _ _ => True)
      (fun _ U o U' => ∃ (v : Option Value) (L' : List Loc) (sf' : List Addr), o = .returned v ∧ Q v U'.heap sf' ∧ Old Z n0 U'.heap ∧ Fr n0 L' ∧ SafeAll md Z sf' U'.vm U'.heap ∧ FinE md Z U o U' L' R.cells R.slots) := by
  refine MetFree.of_bodySF hpn hisR ?_
  intro p e s m args below meth c s₁ Bd hml0 hP hK
  obtain ⟨rfl, hZ, hh, hB⟩ := hP
  have X0 : Stand p l e R s m args below meth c s₁ [] 0 0 := Stand.of_body Bd
  have e0 : s₁.heap = h := by rw [← hh, Bd.state]; rfl
  have q := G p e s m args below meth c s.vm s₁ [] Bd.exec Bd.bytes hml0 Bd.returns (BodyLoose.notSynchronized Bd) (name_of_methodNamed Bd.named Bd.method).1 (by rw [← hZ.alike.findClass]; exact findClass_of_methodNamed Bd.named) X0 e0 hZ hB (Fr.nil n0)
  rw [hef]; exact q
theorem call_of_go {cls name desc : String} {as : Array Value} {L0 : Array Slot} {Q : Option Value → Heap → List Addr → Prop} {rm : Room} {len W : Nat} (hpn : plainFor ⟨cls, name, desc⟩ = true) (hef : ∀ m, entryFrame m as ml = mkF m 0 L0 []) (G : Go md l Z n0 rm bytes ml ret cls name Q 0 0 sf h 0 L0 [])
    (wc : (Jvm.Cond.code ⟨cls, name, desc⟩ bytes ml ret).before a0 Z = true) (wz : (Jvm.Cond.initialized cls).before a0 Z = true) (hf : rm.frames + 1 ≤ R.frames) (hl : W + (ml + 11) + rm.locals ≤ R.locals) :
    Call md l Z n0 R ⟨cls, name, desc⟩ len W as h sf rm.cells rm.slots Q := by
  have hM := met_of_go (desc := desc) (ws := []) hpn hef G
  intro p e below s vm0 sargs hZ B
  cases md with
  | none =>
    have hM' : MetFree l ⟨cls, name, desc⟩ (head1 [Jvm.Cond.code ⟨cls, name, desc⟩ bytes ml ret] rm) (fun a U => a = as ∧ Z.Warmed39 U.vm ∧ U.heap = h) (fun _ _ _ _ _ => True) (fun _ U o U' => ∃ v L, o = .returned v ∧ (fun v h' L => ∃ sf', Q v h' sf' ∧ Old Z n0 h' ∧ Fr n0 L) v U'.heap L ∧ FrameEnd U o U' L rm.cells rm.slots) :=
      fun p e ha hc hk s m args below hfr happ hP hK => by
        obtain ⟨n, o, h1, h2, h3, v, L', sf', e1, q1, q0, q2, -, q4⟩ := hM p e ha hc hk s m args below hfr happ ⟨hP.1, hP.2.1, hP.2.2, B.1, rfl⟩ hK
        exact ⟨n, o, h1, h2, h3, v, L', e1, ⟨sf', q1, q0, q2⟩, q4⟩
    have K := backOf (Q := fun v h' L => ∃ sf', Q v h' sf' ∧ Old Z n0 h' ∧ Fr n0 L) (R := R) (p := p) (e := e) (below := below) (s := s.setVm vm0) (args := sargs) (len := len) (W := W) hM' hZ wc wz hf hl
    intro m meth c A g ig mk a X hg hsize hdg hW hn hp
    obtain ⟨v, P, X', ⟨L', ⟨sf', q1, q0, q2⟩, q3, q4, q5⟩, st⟩ := K m meth c A g ig mk a X hg hsize hdg hW hn hp
    exact ⟨v, P, X', ⟨L', sf', q1, q0, q2, q3, q4, q5⟩, st⟩
  | some EL =>
    obtain ⟨b0, ⟨k, b1, b2⟩, ⟨a1, b3⟩, b4, b5⟩ := B
    exact BackS.of_freeW (bytes := bytes) (maxL := ml) (ret := ret) (E := fun _ first o t L k n => k = rm.cells ∧ n = rm.slots ∧ (∃ v sf', o = .returned v ∧ Q v t.heap sf' ∧ Old Z n0 t.heap ∧ Fr n0 L ∧ ∀ x ∈ sf', x < t.heap.size ∧ Safe Z EL t.vm t.heap x) ∧ CHr Z EL first.vm first.heap t.vm t.heap) hM hf hl
      (fun m meth c A a Y hp => have hU : Z.Warmed39 A.U.vm := wtrans (s := s.setVm vm0) hZ Y.warmed
        ⟨by show (Jvm.Cond.and _ .tt).before a A.U = true; rw [Cond.before_and, mv hU wc]; rfl, mv hU wc, mv hU wz, hp.2.2.1, hp.2.2.2⟩)
      (fun m meth c A a g mk Y hp => by
        have C := CHv.at Y hZ b3 b4.1
        exact ⟨hp.1, wtrans (s := s.setVm vm0) hZ Y.warmed, hp.2.1, b0, ⟨_, (State.WarmedH.refl _).since _, Nat.le_refl _⟩, ⟨a1, b3⟩, by show CHr Z EL A.U.vm A.U.heap A.U.vm h; rw [hp.2.1]; exact CHr.refl C.1, fun x hx => ⟨(b5 x hx).1, C.safe (b5 x hx).1 (b5 x hx).2⟩⟩)
      (fun _ _ _ _ _ _ _ _ _ => trivial)
      (fun _ _ _ _ ⟨v, L', sf', e1, q1, q0, q2, q3, q4, q5⟩ => ⟨L', _, _, q5, rfl, rfl, ⟨v, sf', e1, q1, q0, q2, q3⟩, q4⟩)
      (fun m meth c A a g mk v t L' k n Y hp _ _ ⟨e1, e2, ⟨v', sf', e3, q1, q0, q2, q3⟩, q4⟩ => by
        cases e3; subst e1 e2
        refine ⟨L', sf', q1, q0, q2, rfl, rfl, rfl, (CHv.at Y hZ b3 b4.1).trans ?_, q3⟩
        rw [← hp.2.1]; exact q4)
/-- a law of the library or of a pasted text, in backOf's shape -/
theorem call_of_back {y : MethodName} {as : Array Value} {len W kc ks : Nat} {QB : Option Value → Heap → List Loc → Prop} {Q : Option Value → Heap → List Addr → Prop} (ws : List Addr)
    (hB : ∀ (p : Program) (e : Env) (below : List Frame) (s : State) (sargs : Array Value), Z.Warmed39 s.vm → Back l R p e below s sargs y len W (fun A a => a = as ∧ A.U.heap = h ∧ A.cells + kc ≤ R.cells ∧ A.slots + ks ≤ R.slots) (fun A _ v B => ∃ L, QB v B.U.heap L ∧ B.locs = A.locs ++ L ∧ B.cells = A.cells + kc ∧ B.slots = A.slots + ks))
    (hQ : ∀ v h' L, QB v h' L → Fr n0 L ∧ Keep h h' ws ∧ Q v h' []) (hws : ∀ x ∈ ws, x ∈ sf) (hw0 : ∀ x ∈ ws, n0 ≤ x) : Call md l Z n0 R y len W as h sf kc ks Q := by
  intro p e below s vm0 sargs hZ B
  have K := hB p e below (s.setVm vm0) sargs hZ
  cases md with
  | none =>
    intro m meth c A g ig mk a X hg hsize hdg hW hn hp
    obtain ⟨v, P, X', ⟨L', q1, q3, q4, q5⟩, st⟩ := K m meth c A g ig mk a X hg hsize hdg hW hn hp
    obtain ⟨r1, r2, r3⟩ := hQ _ _ _ q1
    exact ⟨v, P, X', ⟨L', [], r3, B.1.keep r2 hw0, r1, q3, q4, q5⟩, st⟩
  | some EL =>
    obtain ⟨b0, ⟨k, b1, b2⟩, ⟨a1, b3⟩, b4, b5⟩ := B
    intro m meth c A g ig mk a X hg hsize hdg hW hn hp
    obtain ⟨v, P, X', ⟨L', q1, q3, q4, q5⟩, st⟩ := K m meth c A g ig mk a X hg hsize hdg hW hn hp
    obtain ⟨r1, r2, r3⟩ := hQ _ _ _ q1
    have C1 : CHr Z EL vm0 h vm0 P.U.heap := CHr.keep r2 (fun x hx => (b5 x (hws x hx)).2) b4.1
    have C2 : CHr Z EL vm0 P.U.heap P.U.vm P.U.heap := CHv.at X' hZ b3 C1.1
    exact ⟨v, P, X'.retabled X'.warmed.wide, X'.warmed.since _, by rw [hp.2.1]; exact r2.1, ⟨L', [], r3, b0.keep r2 hw0, r1, q3, q4, q5, C1.trans C2, fun x hx => nomatch hx⟩, st⟩
/-! String constants -/
theorem Go.ldcL {index : Nat} {text : String} {vs : List Value} {z : Int32} (n : Nat) (pc' : Nat) (hd : decode bytes pc = .ok (.ldc index, 2)) (hp : pc + 2 = pc') (w : (Jvm.Cond.stringLink own index text).before a0 Z = true) (wS : ∀ a ∈ Bundle.stringAtoms, a.before a0 Z = true) (hmem : (own, index) ∈ EL)
    (ht : (∀ c ∈ text.toList, c.toNat < 256) ∧ text.toList.map (fun c => Value.int (Jvm.Lit.byteI c.toNat.toUInt16)) = vs) (hz : ¬ z < 0) (hl : z.toNatClampNeg = vs.length) (hn : 4 * text.toList.length ≤ n) (hbig : n ≤ 536870912) (hc : cells + 2 ≤ R.cells) (hl' : slots + (n + 4) ≤ R.slots)
    (G : ∀ h' a b k, Ext h h' → Exa Z h' a "java/lang/String" → Fld Z h' a "java/lang/String" "coder" "B" (.int 0) → Fld Z h' a "java/lang/String" "value" "[B" (.ref b) → Arv Z h' b k .byte z vs (.int 0) → (∀ x ∈ sf, x ≠ a ∧ x ≠ b) → Go (some EL) l Z n0 R bytes ml ret own mn Ψ (cells + 2) (slots + (n + 4)) sf h' pc' L (.ref a :: S)) :
    Go (some EL) l Z n0 R bytes ml ret own mn Ψ cells slots sf h pc L S := by
  subst hp
  intro p e s m args below meth c vm0 T locs hx hby hml hr hlk hnm ho X eT hZ B N
  obtain ⟨b0, ⟨k0, b1, b2⟩, ⟨a1, b3⟩, b4, b5⟩ := B
  have hown : vm0.findClass own = some m.cls := by rw [hZ.alike.findClass]; exact ho
  obtain ⟨a, T', h', k1, b, k, X', e', E, hS, hk1, hZ', hown', x1, x2, x3, x4, x5, x6, C, -, hsf, st⟩ := ldcCH X hx hZ hown w wS eT b1 b2 b3 hmem b4.1 ht hz hl (g := mkF m pc L S) rfl (hb hby hd) hn hbig hc hl'
  obtain ⟨s₂, o, h1, r⟩ := G h' a b k E x1 x2 x3 x4 (fun x hx => hsf x (C.safe (b5 x hx).1 (b5 x hx).2)) p e s m args below meth c T'.vm T' locs hx hby hml hr hlk hnm ho X' e' hZ' ⟨b0.ext E, ⟨k1, hS, hk1⟩, ⟨a1, b3⟩, b4.trans C, fun x hx => ⟨Nat.lt_of_lt_of_le (b5 x hx).1 C.2.1, C.safe (b5 x hx).1 (b5 x hx).2⟩⟩ N
  exact ⟨s₂, o, st _ h1, r⟩
theorem ofNat_toInt {n : Nat} (q : n < 2147483648) : (Int32.ofNat n).toInt = (n : Int) := Int32.toInt_ofNat_of_lt (by omega)
theorem Ary.arv {a : Addr} {ty : FieldType} {vs : List Value} (A : Ary Z h a ty vs) (d : Value) : ∃ k, Arv Z h a k ty (Int32.ofNat vs.length) vs d := by
  obtain ⟨c, A, e1, e2, e3⟩ := A
  obtain ⟨q1, q2⟩ := clamp_of (ofNat_toInt e2)
  subst e1
  refine ⟨c.cls, c, A, rfl, by rw [q2]; simp, q1, fun k hk => ?_, fun i hi => ?_⟩
  · simp [List.getD, hk]
  · have : c.slots.toList.getD i d = c.slots[i] := by simp [List.getD, hi]
    rw [this]; exact e3 _ (by simp)
theorem Ary.ofArv {a : Addr} {ty : FieldType} {vs : List Value} {k : ClassId} {z : Int32} {d : Value} (A : Arv Z h a k ty z vs d) (hl : z.toNatClampNeg = vs.length) (hb31 : vs.length < 2147483648) : Ary Z h a ty vs := by
  obtain ⟨c, A, -, e2, -, e4, e5⟩ := A
  have hs : c.slots.size = vs.length := e2.trans hl
  have e1 : c.slots.toList = vs := by
    refine List.ext_getElem? fun i => ?_
    by_cases hi : i < vs.length
    · have := e4 i (by omega)
      simp only [List.getD, List.getElem?_eq_getElem hi, Option.getD_some] at this
      rw [List.getElem?_eq_getElem hi, ← this]; simp
    · rw [List.getElem?_eq_none (by simpa using by omega), List.getElem?_eq_none (by omega)]
  refine ⟨c, A, e1, hb31, fun v hv => ?_⟩
  obtain ⟨i, hi, rfl⟩ := List.mem_iff_getElem.mp hv
  have := e5 i (by omega)
  simpa [List.getD, List.getElem?_eq_getElem hi] using this
theorem fld_int {args : Array Value} {s : State} {t : Term} {O n d : String} {v : Int32} {a : Addr} (hv : (Jvm.Cond.eq (Term.field t O n d) (Term.int v)).value args s none s [] = some true) (ev : t.eval args s none [] s = some (.ref a)) : Fld s s.heap a O n d (.int v) := by
  obtain ⟨x, y, e1, e2, k1, k2⟩ := cmp_v (Or.inl hv)
  cases (Term.int_eval v).symm.trans e2
  obtain ⟨z, rfl⟩ := k2
  have := gotT (Cond.eq_ints e1 (Term.int_eval v)) hv
  subst this
  exact Fld.start ((fld_at ev).symm.trans e1)
theorem no_sub {C O K : String} {k : Nat} (w : (Jvm.Cond.superclass C O).before a0 Z = true) (w0 : (Jvm.Cond.noSuperclass O).before a0 Z = true) (wi : (Jvm.Cond.instantiable K k).before a0 Z = true) (hn : C ≠ K) (hn2 : O ≠ K) : ∃ c t, Z.vm.findClass C = some c ∧ Z.vm.findClass K = some t ∧ Z.vm.assignable c t = false := by
  obtain ⟨c, h0⟩ := found_sup w
  obtain ⟨p, kc, kp, h1, h2, h3, h4, h5, -, h7⟩ := Cond.superclass_spec h0 w
  obtain ⟨c', k', g1, g2, g3, -, -⟩ := Cond.noSuperclass_spec w0
  cases h1.symm.trans g1
  obtain ⟨t, kt, i1, i2, i3, i4, -⟩ := Cond.instantiable_spec wi
  have ne1 := ids_ne h0 i1 hn
  have ne2 := ids_ne g1 i1 hn2
  have i5 : kt.isInterface = false := by simp only [Bool.or_eq_false_iff] at i4; exact i4.1
  refine ⟨c, t, h0, i1, ?_⟩
  show Z.vm.assignableAux (255 + 1) c t = false
  have j1 : ∀ f, Z.vm.isSubclassAux f p t = false := fun f => by cases f <;> simp [Vm.isSubclassAux, ne2, g2, g3]
  have j2 : ∀ f, Z.vm.isSubclassAux f c t = false := fun f => by cases f <;> simp [Vm.isSubclassAux, ne1, h2, h4, j1]
  simp [Vm.assignableAux, ne1, h2, i2, h5, i3, i5, Vm.isSubclass, j2]
theorem range_take {vs : List Value} {i n : Nat} {dv : Value} (q : i + n ≤ vs.length) : (List.range n).map (fun k => vs.getD (i + k) dv) = (vs.drop i).take n := by
  refine List.ext_getElem (by simp; omega) fun k h1 h2 => ?_
  have hk : i + k < vs.length := by simp at h1; omega
  simp [List.getD, List.getElem?_eq_getElem hk]
/-- System.arraycopy between two arrays of one primitive kind -/
theorem Go.acopy {index : Nat} {a b : Addr} {ty : FieldType} {vs vd : List Value} {sp dp nn : Int32} {W : Nat} (i j n : Nat) (pc' : Nat) (hd : decode bytes pc = .ok (.invokestatic index, 3)) (hp : pc + 3 = pc') (w1 : (Jvm.Cond.methodLink own index Jvm.Stand.acN).before a0 Z = true) (w2 : (Jvm.Cond.native Jvm.Stand.acN).before a0 Z = true) (w3 : (Jvm.Cond.static Jvm.Stand.acN).before a0 Z = true) (w4 : (Jvm.Cond.initialized "java/lang/System").before a0 Z = true)
    (A : Ary Z h a ty vs) (B : Ary Z h b ty vd) (hty : refKind ty = false) (hi : sp.toInt = (i : Int)) (hj : dp.toInt = (j : Int)) (hn : nn.toInt = (n : Int)) (h4 : i + n ≤ vs.length) (h5 : j + n ≤ vd.length) (hb' : b ∈ sf) (hn0 : n0 ≤ b) (hsz : L.size = ml) (hf : 1 ≤ R.frames) (hW : (S.map fun v => v.category).sum ≤ W) (hlo : W + (nativeFrameWords "java/lang/System" "arraycopy" 5 + 11) ≤ R.locals)
    (G : ∀ h', Keep h h' [b] → Ary Z h' b ty (vd.take j ++ (vs.drop i).take n ++ vd.drop (j + n)) → Go md l Z n0 R bytes ml ret own mn Ψ cells slots sf h' pc' L S) : Go md l Z n0 R bytes ml ret own mn Ψ cells slots sf h pc L (.int nn :: .int dp :: .ref b :: .int sp :: .ref a :: S) := by
  subst hp
  intro p e s m args below meth c vm0 T locs hx hby hml hr hlk hnm ho X eT hZ B0 N
  obtain ⟨i1, i2⟩ := clamp_of hi
  obtain ⟨j1, j2⟩ := clamp_of hj
  obtain ⟨n1, n2⟩ := clamp_of hn
  have la : vs.length < 2147483648 := by obtain ⟨_, _, _, q, _⟩ := A; exact q
  have lb : vd.length < 2147483648 := by obtain ⟨_, _, _, q, _⟩ := B; exact q
  obtain ⟨ka, KA⟩ := A.arv (.int 0)
  obtain ⟨kb, KB⟩ := B.arv (.int 0)
  have za := (clamp_of (ofNat_toInt la)).2
  have zb := (clamp_of (ofNat_toInt lb)).2
  obtain ⟨T', h', L', X', e', N', K, B', st⟩ := cpA X hx hZ (by rw [show (s.setVm vm0).vm = vm0 from rfl, hZ.alike.findClass]; exact ho) w1 w2 w3 w4 eT (us := (vs.drop i).take n) KA KB (Or.inl ⟨rfl, hty⟩) i1 j1 n1 (by rw [i2, n2, za]; exact h4) (by rw [j2, n2, zb]; exact h5) (by rw [i2, n2]; exact (range_take h4).symm) (by rw [j2, n2]; exact h5) N hn0 (g := mkF m pc L (.int nn :: .int dp :: .ref b :: .int sp :: .ref a :: S)) rfl (hsz.trans hml.symm) rfl (hb hby hd) hf (W := W) (by simpa using hW) hlo
  rw [j2, n2] at B'
  have lz : (vd.take j ++ (vs.drop i).take n ++ vd.drop (j + n)).length = vd.length := by simp; omega
  obtain ⟨s₂, o, h1, r⟩ := G h' K (Ary.ofArv B' (by rw [zb, lz]) (by rw [lz]; exact lb)) p e s m args below meth c vm0 T' L' hx hby hml hr hlk hnm ho X' e' hZ (B0.keep K (sub1 hb') (fun y hy => by cases List.mem_singleton.mp hy; exact hn0)) N'
  exact ⟨s₂, o, st _ h1, r⟩
/-- one place of an array known -/
def At1 (Z : State) (h : Heap) (a : Addr) (ty : FieldType) (i : Nat) (v : Value) : Prop := ∃ c : Cell, Arr Z h a c ty ∧ c.slots[i]? = some v
theorem At1.ext {a : Addr} {ty : FieldType} {i : Nat} {v : Value} (A : At1 Z h a ty i v) (E : Ext h h') : At1 Z h' a ty i v := by obtain ⟨c, A, r⟩ := A; exact ⟨c, A.ext E, r⟩
theorem Go.laload1 {a : Addr} {j : Int32} (i : Nat) {v : Value} (pc' : Nat) (hd : decode bytes pc = .ok (.laload, 1)) (hp : pc + 1 = pc') (A : At1 Z h a .long i v) (hj : j.toInt = (i : Int)) (G : Go md l Z n0 R bytes ml ret own mn Ψ cells slots sf h pc' L (v :: S)) :
    Go md l Z n0 R bytes ml ret own mn Ψ cells slots sf h pc L (.int j :: .ref a :: S) := by
  subst hp
  obtain ⟨c0, A, e1⟩ := A
  obtain ⟨q1, q2⟩ := clamp_of hj
  have hi := (Array.getElem?_eq_some_iff.mp e1).1
  exact Go.warm _ (fun p e s m args below meth c T locs hx hby hml hZ hown X eT => ⟨T, X, eT, fun target k => X.laload hx (by rw [eT]; exact A.1) (State.isArrayOf_alike hZ.alike A.2.1) A.2.2 (by rw [q2]; rintro (z | z); exact q1 z; omega) (by rw [q2]; exact e1) (g := mkF m pc L (.int j :: .ref a :: S)) rfl rfl (hb hby hd) target k⟩) G
/-! arrays of references, longs stored, switches -/
/-- the array at a is one over the class C -/
def Ova (Z : State) (h : Heap) (a : Addr) (C : String) : Prop := ∃ c : Cell, h[a]? = some c ∧ Ovr Z c.cls C
theorem Ova.ext {a : Addr} {C : String} (O : Ova Z h a C) (E : Ext h h') : Ova Z h' a C := by obtain ⟨c, q, r⟩ := O; exact ⟨c, E.2 _ _ q, r⟩
theorem Ova.wr {a b : Addr} {C : String} {sl : Nat} {v : Value} (O : Ova Z h a C) (W : Wr h h' b sl v) : Ova Z h' a C := by
  obtain ⟨c, q, r⟩ := O
  obtain ⟨c', e1, e2, -⟩ := wr_at W q
  exact ⟨c', e1, by rw [e2]; exact r⟩
theorem Ova.keep {a : Addr} {C : String} {ws : List Addr} (O : Ova Z h a C) (K : Keep h h' ws) : Ova Z h' a C := by
  obtain ⟨c, q, r⟩ := O
  obtain ⟨c', e1, e2, -⟩ := K.2.2 a c q
  exact ⟨c', e1, by rw [e2]; exact r⟩
theorem sto_of {a y : Addr} {ty : FieldType} {C : String} {vs : List Value} (A : Ary Z h a ty vs) (O : Ova Z h a C) (I : Ins Z h y C true) : Sto Z h a (.ref y) := by
  obtain ⟨c, A, -⟩ := A
  obtain ⟨c', q, r⟩ := O
  cases A.1.symm.trans q
  exact Sto.of A r I
theorem Go.newR {C : String} {index : Nat} {n : Int32} (k : Nat) (pc' : Nat) (hd : decode bytes pc = .ok (.anewarray index, 3)) (hp : pc + 3 = pc') (w1 : (Jvm.Cond.classLink own index C).before a0 Z = true) (w2 : (Jvm.Cond.arrayOver (.object C)).before a0 Z = true) (hk : n.toInt = (k : Int)) (cap : Nat) (hcap : k ≤ cap) (hb8 : cap * 8 ≤ 536870912) (hc : cells + 1 ≤ R.cells) (hl : slots + cap ≤ R.slots)
    (G : ∀ h' x, h.size = x → n0 ≤ x → Ext h h' → x < h'.size → Ary Z h' x (.object C) (List.replicate k .null) → Ova Z h' x C → Go md l Z n0 R bytes ml ret own mn Ψ (cells + 1) (slots + cap) (x :: sf) h' pc' L (.ref x :: S)) :
    Go md l Z n0 R bytes ml ret own mn Ψ cells slots sf h pc L (.int n :: S) := by
  subst hp
  obtain ⟨q1, q2⟩ := clamp_of hk
  intro p e s m args below meth c vm0 T locs hx hby hml hr hlk hn ho X eT hZ B N
  obtain ⟨T', h', cA, X', e', E, A, O, st⟩ := Jvm.RoadKit.newR X hx hZ (by rw [show (s.setVm vm0).vm = vm0 from rfl, hZ.alike.findClass]; exact ho) w1 w2 eT (g := mkF m pc L (.int n :: S)) rfl (hb hby hd) rfl q1 (cap := cap) (by rw [q2]; exact hcap) hb8 hc hl
  have A' : Ary Z h' h.size (.object C) (List.replicate k .null) := ⟨_, A, by simp [Jvm.RoadKit.newA, q2, defaultValue], by simp; omega, fun v hv => by
    rw [(List.mem_replicate.mp hv).2]; rfl⟩
  obtain ⟨s₂, o, h1, r⟩ := G h' _ rfl B.n0le E A'.lt A' ⟨_, A.1, O⟩ p e s m args below meth c vm0 T' locs hx hby hml hr hlk hn ho X' e' hZ (B.new E A'.lt (Nat.le_refl _)) N
  exact ⟨s₂, o, st _ h1, r⟩
theorem Go.aastore {a : Addr} {C : String} {vs : List Value} {j : Int32} {v : Value} (i : Nat) (pc' : Nat) (hd : decode bytes pc = .ok (.aastore, 1)) (hp : pc + 1 = pc') (A : Ary Z h a (.object C) vs) (hj : j.toInt = (i : Int)) (hi : i < vs.length) (F : Sto Z h a v) (hf : fits (.object C) v = true) (ha : a ∈ sf) (hn0 : n0 ≤ a)
    (G : ∀ h', Wr h h' a i v → Ary Z h' a (.object C) (vs.set i v) → Go md l Z n0 R bytes ml ret own mn Ψ cells slots sf h' pc' L S) : Go md l Z n0 R bytes ml ret own mn Ψ cells slots sf h pc L (v :: .int j :: .ref a :: S) := by
  subst hp
  obtain ⟨c0, A0, e1, e2, e3⟩ := A
  obtain ⟨-, q2⟩ := clamp_of hj
  exact Go.write _ ha hn0 (sl := i) (fun p e s m args below meth c T locs hx hby hml hnm hZ hown X eT => by rw [← q2]; exact stR X hx hZ eT A0 (Ary.inb (a := a) (ty := .object C) e1 hj hi) rfl F (g := mkF m pc L (v :: .int j :: .ref a :: S)) rfl rfl (hb hby hd)) (fun h' W => G h' W (Ary.set W ⟨c0, A0, e1, e2, e3⟩ hf))
theorem Go.lastore {a : Addr} {vs : List Value} {j : Int32} {x : Int64} (i : Nat) (pc' : Nat) (hd : decode bytes pc = .ok (.lastore, 1)) (hp : pc + 1 = pc') (A : Ary Z h a .long vs) (hj : j.toInt = (i : Int)) (hi : i < vs.length) (ha : a ∈ sf) (hn0 : n0 ≤ a)
    (G : ∀ h', Wr h h' a i (.long x) → Ary Z h' a .long (vs.set i (.long x)) → Go md l Z n0 R bytes ml ret own mn Ψ cells slots sf h' pc' L S) : Go md l Z n0 R bytes ml ret own mn Ψ cells slots sf h pc L (.long x :: .int j :: .ref a :: S) := by
  subst hp
  obtain ⟨c0, A0, e1, e2, e3⟩ := A
  obtain ⟨-, q2⟩ := clamp_of hj
  exact Go.write _ ha hn0 (sl := i) (fun p e s m args below meth c T locs hx hby hml hnm hZ hown X eT => by rw [← q2]; exact stJ X hx hZ eT A0 (Ary.inb (a := a) (ty := .long) e1 hj hi) (g := mkF m pc L (.long x :: .int j :: .ref a :: S)) rfl rfl (hb hby hd)) (fun h' W => G h' W (Ary.set W ⟨c0, A0, e1, e2, e3⟩ rfl))
theorem Go.dup2 {v w : Value} (pc' : Nat) (hd : decode bytes pc = .ok (.dup2, 1)) (hp : pc + 1 = pc') (hv : v.category = 1) (hw : w.category = 1) (G : Go md l Z n0 R bytes ml ret own mn Ψ cells slots sf h pc' L (v :: w :: v :: w :: S)) : Go md l Z n0 R bytes ml ret own mn Ψ cells slots sf h pc L (v :: w :: S) := by
  subst hp; exact Go.pure _ (fun p e below T target m c A hx hby k => Jvm.Free.XT.dup2 A hx rfl (hb hby hd) rfl hv hw k) G
theorem Go.lswY {k : Int32} {default : Int} {pairs : Array (Int × Int)} {len : Nat} {b off : Int} (pc' : Nat) (hd : decode bytes pc = .ok (.lookupswitch default pairs, len)) (hs : (pairs.toList.zip (pairs.toList.drop 1)).all (fun (a, next) => a.1 < next.1) = true) (hf : pairs.find? (·.1 == k.toInt) = some (b, off)) (h0 : 0 ≤ (pc : Int) + off) (hp : ((pc : Int) + off).toNat = pc')
    (G : Go md l Z n0 R bytes ml ret own mn Ψ cells slots sf h pc' L S) : Go md l Z n0 R bytes ml ret own mn Ψ cells slots sf h pc L (.int k :: S) := by
  subst hp
  exact Go.warm _ (fun p e s m args below meth c T locs hx hby hml hZ hown X eT => ⟨T, X, eT, fun target q => X.lookupswitchHit hx (g := mkF m pc L (.int k :: S)) rfl rfl (hb hby hd) hs hf h0 target q⟩) G
theorem Go.lswN {k : Int32} {default : Int} {pairs : Array (Int × Int)} {len : Nat} (pc' : Nat) (hd : decode bytes pc = .ok (.lookupswitch default pairs, len)) (hs : (pairs.toList.zip (pairs.toList.drop 1)).all (fun (a, next) => a.1 < next.1) = true) (hf : pairs.find? (·.1 == k.toInt) = none) (h0 : 0 ≤ (pc : Int) + default) (hp : ((pc : Int) + default).toNat = pc')
    (G : Go md l Z n0 R bytes ml ret own mn Ψ cells slots sf h pc' L S) : Go md l Z n0 R bytes ml ret own mn Ψ cells slots sf h pc L (.int k :: S) := by
  subst hp
  exact Go.warm _ (fun p e s m args below meth c T locs hx hby hml hZ hown X eT => ⟨T, X, eT, fun target q => X.lookupswitchMiss hx (g := mkF m pc L (.int k :: S)) rfl rfl (hb hby hd) hs hf h0 target q⟩) G
theorem Go.tswY {k : Int32} {default low high : Int} {offs : Array Int} {len : Nat} {off : Int} (pc' : Nat) (hd : decode bytes pc = .ok (.tableswitch default low high offs, len)) (hi : ¬ (k.toInt < low ∨ k.toInt > high)) (hf : offs[(k.toInt - low).toNat]? = some off) (h0 : 0 ≤ (pc : Int) + off) (hp : ((pc : Int) + off).toNat = pc')
    (G : Go md l Z n0 R bytes ml ret own mn Ψ cells slots sf h pc' L S) : Go md l Z n0 R bytes ml ret own mn Ψ cells slots sf h pc L (.int k :: S) := by
  subst hp
  exact Go.warm _ (fun p e s m args below meth c T locs hx hby hml hZ hown X eT => ⟨T, X, eT, fun target q => X.tableswitchIn hx (g := mkF m pc L (.int k :: S)) rfl rfl (hb hby hd) hi hf h0 target q⟩) G
theorem Go.getFN {R0 O n d host : String} {index : Nat} {a : Addr} {v : Value} (pc' : Nat) (hd : decode bytes pc = .ok (.getfield index, 3)) (hp : pc + 3 = pc') (w : (Jvm.Cond.fieldLinkNest own index R0 n d host).before a0 Z = true) (via : Via Z R0 O n d) (F : Fld Z h a O n d v) (G : Go md l Z n0 R bytes ml ret own mn Ψ cells slots sf h pc' L (v :: S)) :
    Go md l Z n0 R bytes ml ret own mn Ψ cells slots sf h pc L (.ref a :: S) := by
  subst hp; exact Go.warm _ (fun p e s m args below meth c T locs hx hby hml hZ hown X eT => Jvm.RoadKit.getF X hx hZ hown (Or.inr w) via eT F (g := mkF m pc L (.ref a :: S)) rfl rfl (hb hby hd)) G
/-- without String constants every address may be written that is new -/
theorem Go.sfN (sf' : List Addr) (G : Go none l Z n0 R bytes ml ret own mn Ψ cells slots sf' h pc L S) : Go none l Z n0 R bytes ml ret own mn Ψ cells slots sf h pc L S := by
  intro p e s m args below meth c vm0 T locs hx hby hml hr hlk hn ho X eT hZ B N
  exact G p e s m args below meth c vm0 T locs hx hby hml hr hlk hn ho X eT hZ B N
theorem Go.callP {y : MethodName} {index maxY kc ks W : Nat} {bytesY : ByteArray} {retY : Option FieldType} {C : String} {sfc : List Addr} {Q : Option Value → Heap → List Addr → Prop} {St : List Value} {a : Addr} (pc' : Nat) (argsL : List Value) (hd : decode bytes pc = .ok (.invokevirtual index, 3)) (hp : pc + 3 = pc') (hst : St = argsL.reverse ++ .ref a :: S)
    (wl : (Jvm.Cond.methodLink own index y).before a0 Z = true) (ws : (Jvm.Cond.instanceMethod y).before a0 Z = true) (wse : (Jvm.Cond.selects y.cls y y).before a0 Z = true) (wp : (Jvm.Cond.privateMethod y).before a0 Z = true) (wc : (Jvm.Cond.code y bytesY maxY retY).before a0 Z = true) (hy : y.cls ≠ "java/lang/invoke/MethodHandle" ∧ y.cls ≠ "java/lang/invoke/VarHandle")
    (E : Exa Z h a C) (hC : Call md l Z n0 R y 3 W (.ref a :: argsL).toArray h sfc kc ks Q) (hlen : ∀ sig, parseMethodDescriptor y.desc = some sig → argsL.length = sig.parameters.length) (hW : (S.map fun v => v.category).sum ≤ W) (hsz : L.size = ml) (hc : cells + kc ≤ R.cells) (hs : slots + ks ≤ R.slots) (hsf : ∀ x ∈ sfc, x ∈ sf)
    (G : ∀ v h' sf', Q v h' sf' → Go md l Z n0 R bytes ml ret own mn Ψ (cells + kc) (slots + ks) (sf' ++ sf) h' pc' L (v.toList ++ S)) : Go md l Z n0 R bytes ml ret own mn Ψ cells slots sf h pc L St := by
  subst hp; subst hst
  intro p e s m args below meth c vm0 T locs hx hby hml hr hlk hn ho X eT hZ B N
  have hown : (s.setVm vm0).vm.findClass own = some m.cls := by rw [show (s.setVm vm0).vm = vm0 from rfl, hZ.alike.findClass]; exact ho
  have K := hC p e below s vm0 args hZ (B.sub hsf)
  obtain ⟨cell, g1, g2⟩ := E.cell
  have g1' : T.heap[a]? = some cell := by rw [eT]; exact g1
  cases md with
  | none =>
    obtain ⟨v, vm₁, ⟨U, L1, c1, n1⟩, -, X', ⟨L', sf', q1, q0, q2, q3, q4, q5⟩, st⟩ := X.privateBack hx hown (mvT hZ wl) (mvT hZ ws) (mvT hZ wse) (Cond.privateMethod_at (mvP (args := args) (s := s.setVm vm0) hZ wp)) (mvT hZ wc) hy K (g := mkF m pc L (argsL.reverse ++ .ref a :: S)) rfl (hsz.trans hml.symm) (Steps.refl _) g1' g2 hlen rfl (by simpa using hW) (hb hby hd) (fun _ _ => ⟨rfl, eT, hc, hs⟩)
    dsimp only [Pt.U, Pt.locs, Pt.cells, Pt.slots] at q1 q0 q3 q4 q5 X' st
    subst q3 q4 q5
    obtain ⟨s₂, o, h1, r⟩ := G v U.heap sf' q1 p e s m args below meth c vm0 U _ hx hby hml hr hlk hn ho X' rfl hZ ⟨q0, B.2⟩ (N.app q2)
    exact ⟨s₂, o, st.trans h1, r⟩
  | some EL =>
    obtain ⟨v, vm₁, ⟨U, L1, c1, n1⟩, -, X', hS, hgr, ⟨L', sf', q1, q0, q2, q3, q4, q5, q6, q7⟩, st⟩ := X.privateBackS hx hown (mvT hZ wl) (mvT hZ ws) (mvT hZ wse) (Cond.privateMethod_at (mvP (args := args) (s := s.setVm vm0) hZ wp)) (mvT hZ wc) hy K (g := mkF m pc L (argsL.reverse ++ .ref a :: S)) rfl (hsz.trans hml.symm) (Steps.refl _) g1' g2 hlen rfl (by simpa using hW) (hb hby hd) (fun _ _ => ⟨rfl, eT, hc, hs⟩)
    dsimp only [Pt.U, Pt.locs, Pt.cells, Pt.slots] at q1 q0 q3 q4 q5 q6 q7 X' st hS hgr
    subst q3 q4 q5
    obtain ⟨s₂, o, h1, r⟩ := G v U.heap sf' q1 p e s m args below meth c U.vm U _ hx hby hml hr hlk hn ho X' rfl (State.Warmed39.trans (t := s.setVm vm0) hZ hS.1) (B.called hS q0 q6 q7) (N.app q2)
    exact ⟨s₂, o, st.trans h1, r⟩
theorem Go.ldcWI {index : Nat} {v : Int32} (pc' : Nat) (hd : decode bytes pc = .ok (.ldc_w index, 3)) (hp : pc + 3 = pc') (w : (Jvm.Cond.constant own index v).before a0 Z = true) (G : Go md l Z n0 R bytes ml ret own mn Ψ cells slots sf h pc' L (.int v :: S)) : Go md l Z n0 R bytes ml ret own mn Ψ cells slots sf h pc L S := by
  subst hp; exact Go.warm _ (fun p e s m args below meth c T locs hx hby hml hZ hown X eT => ⟨T, X, eT, fun target k => X.ldcWI (g := mkF m pc L S) hx hown (mvT hZ w) rfl (hb hby hd) k⟩) G
/-- ldc of a String constant of which nothing is asked -/
theorem Go.ldcO {EL : List (String × Nat)} {index : Nat} {text : String} (n : Nat) (pc' : Nat) (hd : decode bytes pc = .ok (.ldc index, 2)) (hp : pc + 2 = pc') (w : (Jvm.Cond.stringLink own index text).before a0 Z = true) (wS : ∀ a ∈ Bundle.stringAtoms, a.before a0 Z = true) (hn : 4 * text.toList.length ≤ n) (hbig : n ≤ 536870912) (hc : cells + 2 ≤ R.cells) (hl' : slots + (n + 4) ≤ R.slots)
    (G : ∀ h' a, Ext h h' → Go (some EL) l Z n0 R bytes ml ret own mn Ψ (cells + 2) (slots + (n + 4)) sf h' pc' L (.ref a :: S)) : Go (some EL) l Z n0 R bytes ml ret own mn Ψ cells slots sf h pc L S := by
  subst hp
  intro p e s m args below meth c vm0 T locs hx hby hml hr hlk hnm ho X eT hZ B N
  obtain ⟨b0, ⟨k0, b1, b2⟩, ⟨a1, b3⟩, b4, b5⟩ := B
  have hown : vm0.findClass own = some m.cls := by rw [hZ.alike.findClass]; exact ho
  obtain ⟨a, T', h', k1, X', e', E, hS, hk1, hZ', hown', C, -, st⟩ := ldcOH X hx hZ hown w wS eT b1 b2 b3 b4.1 (g := mkF m pc L S) rfl (hb hby hd) hn hbig hc hl'
  obtain ⟨s₂, o, h1, r⟩ := G h' a E p e s m args below meth c T'.vm T' locs hx hby hml hr hlk hnm ho X' e' hZ' ⟨b0.ext E, ⟨k1, hS, hk1⟩, ⟨a1, b3⟩, b4.trans C, fun x hx => ⟨Nat.lt_of_lt_of_le (b5 x hx).1 C.2.1, C.safe (b5 x hx).1 (b5 x hx).2⟩⟩ N
  exact ⟨s₂, o, st _ h1, r⟩
/-- newarray: the array's class by its name too -/
theorem Go.newE {aty : ArrayType} {n : Int32} {ty : FieldType} {C : String} (k : Nat) (pc' : Nat) (hd : decode bytes pc = .ok (.newarray aty, 2)) (hp : pc + 2 = pc') (hty : newarray.typeOf aty = ty) (hC : "[" ++ ty.toString = C) (w : (Jvm.Cond.arrayClass ty).before a0 Z = true) (hk : n.toInt = (k : Int)) (cap : Nat) (hcap : k ≤ cap) (hb8 : cap * 8 ≤ 536870912) (hc : cells + 1 ≤ R.cells) (hl : slots + cap ≤ R.slots)
    (G : ∀ h' x, h.size = x → n0 ≤ x → Ext h h' → x < h'.size → Ary Z h' x ty (List.replicate k (defaultValue ty)) → Exa Z h' x C → Go md l Z n0 R bytes ml ret own mn Ψ (cells + 1) (slots + cap) (x :: sf) h' pc' L (.ref x :: S)) :
    Go md l Z n0 R bytes ml ret own mn Ψ cells slots sf h pc L (.int n :: S) := by
  subst hp; subst hty; subst hC
  obtain ⟨q1, q2⟩ := clamp_of hk
  intro p e s m args below meth c vm0 T locs hx hby hml hr hlk hn ho X eT hZ B N
  obtain ⟨T', h', cA, X', e', E, A, EX, st⟩ := newPE X hx hZ w eT (g := mkF m pc L (.int n :: S)) rfl (hb hby hd) rfl q1 (cap := cap) (by rw [q2]; exact hcap) hb8 hc hl rfl
  have A' : Ary Z h' h.size (newarray.typeOf aty) (List.replicate k (defaultValue (newarray.typeOf aty))) := ⟨_, A, by simp [Jvm.RoadKit.newA, q2], by simp; omega, fun v hv => by
    rw [(List.mem_replicate.mp hv).2]; cases aty <;> rfl⟩
  obtain ⟨s₂, o, h1, r⟩ := G h' _ rfl B.n0le E A'.lt A' EX p e s m args below meth c vm0 T' locs hx hby hml hr hlk hn ho X' e' hZ (B.new E A'.lt (Nat.le_refl _)) N
  exact ⟨s₂, o, st _ h1, r⟩
/-- a virtual call whose name stands under the entry's class by inheritance (W-mode) -/
theorem Go.callU {EL : List (String × Nat)} {y z : MethodName} {index kc ks W : Nat} {C owner : String} {sfc : List Addr} {Q : Option Value → Heap → List Addr → Prop} {St : List Value} {a : Addr} (pc' : Nat) (argsL : List Value) (hd : decode bytes pc = .ok (.invokevirtual index, 3)) (hp : pc + 3 = pc') (hst : St = argsL.reverse ++ .ref a :: S)
    (wl : (Jvm.Cond.methodLink own index y).before a0 Z = true) (wsm : (Jvm.Cond.sameMethod y.cls owner y.name y.desc).before a0 Z = true) (wd : (Jvm.Cond.declares ⟨owner, y.name, y.desc⟩).before a0 Z = true) (wse : (Jvm.Cond.selects C y z).before a0 Z = true) (ws : (Jvm.Cond.instanceMethod z).before a0 Z = true) (hy : owner ≠ "java/lang/invoke/MethodHandle" ∧ owner ≠ "java/lang/invoke/VarHandle")
    (E : Exa Z h a C) (hC : Call (some EL) l Z n0 R z 3 W (.ref a :: argsL).toArray h sfc kc ks Q) (hlen : ∀ sig, parseMethodDescriptor y.desc = some sig → argsL.length = sig.parameters.length) (hW : (S.map fun v => v.category).sum ≤ W) (hsz : L.size = ml) (hc : cells + kc ≤ R.cells) (hs : slots + ks ≤ R.slots) (hsf : ∀ x ∈ sfc, x ∈ sf)
    (G : ∀ v h' sf', Q v h' sf' → Go (some EL) l Z n0 R bytes ml ret own mn Ψ (cells + kc) (slots + ks) (sf' ++ sf) h' pc' L (v.toList ++ S)) : Go (some EL) l Z n0 R bytes ml ret own mn Ψ cells slots sf h pc L St := by
  subst hp; subst hst
  intro p e s m args below meth c vm0 T locs hx hby hml hr hlk hn ho X eT hZ B N
  have hown : (s.setVm vm0).vm.findClass own = some m.cls := by rw [show (s.setVm vm0).vm = vm0 from rfl, hZ.alike.findClass]; exact ho
  have K := hC p e below s vm0 args hZ (B.sub hsf)
  obtain ⟨cB, kB, i1, -, i3⟩ := isOf (s := s.setVm vm0) hZ eT E
  obtain ⟨v, vm₁, ⟨U, L1, c1, n1⟩, -, X', hS, hgr, ⟨L', sf', q1, q0, q2, q3, q4, q5, q6, q7⟩, st⟩ := X.virtualBackUpS hx hown (mvT hZ wl) (mvT hZ wsm) (mvT hZ wd) hy (mvT hZ wse) (mvT hZ ws) K i1 i3 (g := mkF m pc L (argsL.reverse ++ .ref a :: S)) rfl (hsz.trans hml.symm) (Steps.refl _) hlen rfl (by simpa using hW) (hb hby hd) (fun _ _ => ⟨rfl, eT, hc, hs⟩)
  dsimp only [Pt.U, Pt.locs, Pt.cells, Pt.slots] at q1 q0 q3 q4 q5 q6 q7 X' st hS hgr
  subst q3 q4 q5
  obtain ⟨s₂, o, h1, r⟩ := G v U.heap sf' q1 p e s m args below meth c U.vm U _ hx hby hml hr hlk hn ho X' rfl (State.Warmed39.trans (t := s.setVm vm0) hZ hS.1) (B.called hS q0 q6 q7) (N.app q2)
  exact ⟨s₂, o, st.trans h1, r⟩
theorem Go.aaload1 {a : Addr} {j : Int32} {ty : FieldType} (i : Nat) {v : Value} (pc' : Nat) (hd : decode bytes pc = .ok (.aaload, 1)) (hp : pc + 1 = pc') (hty : ty.isReference = true) (A : At1 Z h a ty i v) (hj : j.toInt = (i : Int)) (G : Go md l Z n0 R bytes ml ret own mn Ψ cells slots sf h pc' L (v :: S)) :
    Go md l Z n0 R bytes ml ret own mn Ψ cells slots sf h pc L (.int j :: .ref a :: S) := by
  subst hp
  obtain ⟨c0, A, e1⟩ := A
  obtain ⟨q1, q2⟩ := clamp_of hj
  have hi := (Array.getElem?_eq_some_iff.mp e1).1
  exact Go.warm _ (fun p e s m args below meth c T locs hx hby hml hZ hown X eT => ⟨T, X, eT, fun target k => X.aaload hx (by rw [eT]; exact A.1) (State.isArrayOf_alike hZ.alike A.2.1) hty A.2.2 (by rw [q2]; rintro (z | z); exact q1 z; omega) (by rw [q2]; exact e1) (g := mkF m pc L (.int j :: .ref a :: S)) rfl rfl (hb hby hd) target k⟩) G
theorem cls_of_selects {C : String} {y : MethodName} (w : (Jvm.Cond.selects C y y).before a0 Z = true) : ∃ (c : ClassId) (k : Class), Z.vm.findClass y.cls = some c ∧ Z.vm.classes[c]? = some k ∧ k.isInterface = false := by
  obtain ⟨c2, r2, m2, q1, q2, q3, q4, kP, hkP, hkPi⟩ := Cond.selects_spec w
  exact ⟨_, kP, findClass_of_methodNamed q3, hkP, hkPi⟩
theorem same_self {y : MethodName} {c : ClassId} {k : Class} {mk : MethodId} (hc : Z.vm.findClass y.cls = some c) (hk : Z.vm.classes[c]? = some k) (hni : k.isInterface = false) (hn : Z.methodNamed? y = some mk) (hy : y.cls ≠ "java/lang/invoke/MethodHandle" ∧ y.cls ≠ "java/lang/invoke/VarHandle") : (Jvm.Cond.sameMethod y.cls y.cls y.name y.desc).before a0 Z = true := by
  have hf := State.methodFound?_of_named hn hy
  simp only [Cond.before, Cond.holds, Cond.value, hc, hf, hk]
  simp [hn, hni, hk]
/-- a private method by invokevirtual, the object of a subclass (W-mode) -/
theorem Go.callQ {EL : List (String × Nat)} {y : MethodName} {index maxY kc ks W : Nat} {bytesY : ByteArray} {retY : Option FieldType} {C D : String} {sfc : List Addr} {Q : Option Value → Heap → List Addr → Prop} {St : List Value} {a : Addr} (pc' : Nat) (argsL : List Value) (hd : decode bytes pc = .ok (.invokevirtual index, 3)) (hp : pc + 3 = pc') (hst : St = argsL.reverse ++ .ref a :: S)
    (wl : (Jvm.Cond.methodLink own index y).before a0 Z = true) (ws : (Jvm.Cond.instanceMethod y).before a0 Z = true) (wse : (Jvm.Cond.selects D y y).before a0 Z = true) (wp : (Jvm.Cond.privateMethod y).before a0 Z = true) (wc : (Jvm.Cond.code y bytesY maxY retY).before a0 Z = true) (hy : y.cls ≠ "java/lang/invoke/MethodHandle" ∧ y.cls ≠ "java/lang/invoke/VarHandle")
    (E : Exa Z h a C) (hC : Call (some EL) l Z n0 R y 3 W (.ref a :: argsL).toArray h sfc kc ks Q) (hlen : ∀ sig, parseMethodDescriptor y.desc = some sig → argsL.length = sig.parameters.length) (hW : (S.map fun v => v.category).sum ≤ W) (hsz : L.size = ml) (hc : cells + kc ≤ R.cells) (hs : slots + ks ≤ R.slots) (hsf : ∀ x ∈ sfc, x ∈ sf)
    (G : ∀ v h' sf', Q v h' sf' → Go (some EL) l Z n0 R bytes ml ret own mn Ψ (cells + kc) (slots + ks) (sf' ++ sf) h' pc' L (v.toList ++ S)) : Go (some EL) l Z n0 R bytes ml ret own mn Ψ cells slots sf h pc L St := by
  subst hp; subst hst
  intro p e s m args below meth c vm0 T locs hx hby hml hr hlk hn ho X eT hZ B N
  have hown : (s.setVm vm0).vm.findClass own = some m.cls := by rw [show (s.setVm vm0).vm = vm0 from rfl, hZ.alike.findClass]; exact ho
  have K := hC p e below s vm0 args hZ (B.sub hsf)
  obtain ⟨cell, g1, g2⟩ := E.cell
  have g1' : T.heap[a]? = some cell := by rw [eT]; exact g1
  obtain ⟨cc, kk, u1, u2, u3⟩ := cls_of_selects (Z := s.setVm vm0) (a0 := args) (mvT hZ wse)
  have hp' := Cond.privateMethod_at (mvP (args := args) (s := s.setVm vm0) hZ wp)
  obtain ⟨v, vm₁, ⟨U, L1, c1, n1⟩, -, X', hS, hgr, ⟨L', sf', q1, q0, q2, q3, q4, q5, q6, q7⟩, st⟩ := X.privateBackS hx hown (mvT hZ wl) (mvT hZ ws) (selects_self_of_private u1 u2 u3 hp' (mvT hZ ws) hy) hp' (mvT hZ wc) hy K (g := mkF m pc L (argsL.reverse ++ .ref a :: S)) rfl (hsz.trans hml.symm) (Steps.refl _) g1' g2 hlen rfl (by simpa using hW) (hb hby hd) (fun _ _ => ⟨rfl, eT, hc, hs⟩)
  dsimp only [Pt.U, Pt.locs, Pt.cells, Pt.slots] at q1 q0 q3 q4 q5 q6 q7 X' st hS hgr
  subst q3 q4 q5
  obtain ⟨s₂, o, h1, r⟩ := G v U.heap sf' q1 p e s m args below meth c U.vm U _ hx hby hml hr hlk hn ho X' rfl (State.Warmed39.trans (t := s.setVm vm0) hZ hS.1) (B.called hS q0 q6 q7) (N.app q2)
  exact ⟨s₂, o, st.trans h1, r⟩
/-- a super call (W-mode) -/
theorem Go.callSup {EL : List (String × Nat)} {y z : MethodName} {index maxY kc ks W : Nat} {bytesY : ByteArray} {retY : Option FieldType} {C D : String} {sfc : List Addr} {Q : Option Value → Heap → List Addr → Prop} {St : List Value} {a : Addr} (pc' : Nat) (argsL : List Value) (hd : decode bytes pc = .ok (.invokespecial index, 3)) (hp : pc + 3 = pc') (hst : St = argsL.reverse ++ .ref a :: S)
    (wl : (Jvm.Cond.methodLink own index y).before a0 Z = true) (ws : (Jvm.Cond.instanceMethod y).before a0 Z = true) (wse : (Jvm.Cond.selects D z z).before a0 Z = true) (hzy : z.cls = y.cls) (wsu : (Jvm.Cond.superclass own y.cls).before a0 Z = true) (hni : y.name ≠ "<init>") (wc : (Jvm.Cond.code y bytesY maxY retY).before a0 Z = true) (hy : y.cls ≠ "java/lang/invoke/MethodHandle" ∧ y.cls ≠ "java/lang/invoke/VarHandle")
    (E : Exa Z h a C) (hC : Call (some EL) l Z n0 R y 3 W (.ref a :: argsL).toArray h sfc kc ks Q) (hlen : ∀ sig, parseMethodDescriptor y.desc = some sig → argsL.length = sig.parameters.length) (hW : (S.map fun v => v.category).sum ≤ W) (hsz : L.size = ml) (hc : cells + kc ≤ R.cells) (hs : slots + ks ≤ R.slots) (hsf : ∀ x ∈ sfc, x ∈ sf)
    (G : ∀ v h' sf', Q v h' sf' → Go (some EL) l Z n0 R bytes ml ret own mn Ψ (cells + kc) (slots + ks) (sf' ++ sf) h' pc' L (v.toList ++ S)) : Go (some EL) l Z n0 R bytes ml ret own mn Ψ cells slots sf h pc L St := by
  subst hp; subst hst
  intro p e s m args below meth c vm0 T locs hx hby hml hr hlk hn ho X eT hZ B N
  have hown : (s.setVm vm0).vm.findClass own = some m.cls := by rw [show (s.setVm vm0).vm = vm0 from rfl, hZ.alike.findClass]; exact ho
  have K := hC p e below s vm0 args hZ (B.sub hsf)
  obtain ⟨cc, kk, u1, u2, u3⟩ := cls_of_selects wse
  rw [hzy] at u1
  obtain ⟨mk, methM, hnamed, hmethM, hstM, habM⟩ := Cond.instanceMethod_spec ws
  obtain ⟨v, vm₁, ⟨U, L1, c1, n1⟩, -, X', hS, hgr, ⟨L', sf', q1, q0, q2, q3, q4, q5, q6, q7⟩, st⟩ := superBackS X hx hZ hown wl (same_self u1 u2 u3 hnamed hy) ws wsu hni K eT (Ins.self E) (g := mkF m pc L (argsL.reverse ++ .ref a :: S)) rfl (hsz.trans hml.symm) wc hlen rfl (by simpa using hW) (hb hby hd) (fun _ _ => ⟨rfl, eT, hc, hs⟩)
  dsimp only [Pt.U, Pt.locs, Pt.cells, Pt.slots] at q1 q0 q3 q4 q5 q6 q7 X' st hS hgr
  subst q3 q4 q5
  obtain ⟨s₂, o, h1, r⟩ := G v U.heap sf' q1 p e s m args below meth c U.vm U _ hx hby hml hr hlk hn ho X' rfl (State.Warmed39.trans (t := s.setVm vm0) hZ hS.1) (B.called hS q0 q6 q7) (N.app q2)
  exact ⟨s₂, o, st.trans h1, r⟩
/-- an interface call (W-mode) -/
theorem Go.callI {EL : List (String × Nat)} {y z : MethodName} {index count kc ks W : Nat} {C : String} {sfc : List Addr} {Q : Option Value → Heap → List Addr → Prop} {St : List Value} {a : Addr} (pc' : Nat) (argsL : List Value) (hd : decode bytes pc = .ok (.invokeinterface index count, 5)) (hp : pc + 5 = pc') (hst : St = argsL.reverse ++ .ref a :: S)
    (wl : (Jvm.Cond.methodLink own index y).before a0 Z = true) (wd : (Jvm.Cond.declares y).before a0 Z = true) (wf : (Jvm.Cond.interfaceMethod y.cls y.cls y.name y.desc).before a0 Z = true) (wse : (Jvm.Cond.selects C y z).before a0 Z = true) (ws : (Jvm.Cond.instanceMethod z).before a0 Z = true) (wpb : (Jvm.Cond.publicMethod z).before a0 Z = true) (wu : (Jvm.Cond.unhidden C y.name y.desc).before a0 Z = true) (wca : (Jvm.Cond.castable C y.cls).before a0 Z = true) (hy : y.cls ≠ "java/lang/invoke/MethodHandle" ∧ y.cls ≠ "java/lang/invoke/VarHandle")
    (E : Exa Z h a C) (hC : Call (some EL) l Z n0 R z 5 W (.ref a :: argsL).toArray h sfc kc ks Q) (hlen : ∀ sig, parseMethodDescriptor y.desc = some sig → argsL.length = sig.parameters.length) (hW : (S.map fun v => v.category).sum ≤ W) (hsz : L.size = ml) (hc : cells + kc ≤ R.cells) (hs : slots + ks ≤ R.slots) (hsf : ∀ x ∈ sfc, x ∈ sf)
    (G : ∀ v h' sf', Q v h' sf' → Go (some EL) l Z n0 R bytes ml ret own mn Ψ (cells + kc) (slots + ks) (sf' ++ sf) h' pc' L (v.toList ++ S)) : Go (some EL) l Z n0 R bytes ml ret own mn Ψ cells slots sf h pc L St := by
  subst hp; subst hst
  intro p e s m args below meth c vm0 T locs hx hby hml hr hlk hn ho X eT hZ B N
  have hown : (s.setVm vm0).vm.findClass own = some m.cls := by rw [show (s.setVm vm0).vm = vm0 from rfl, hZ.alike.findClass]; exact ho
  have K := hC p e below s vm0 args hZ (B.sub hsf)
  obtain ⟨cB, kB, i1, i2, i3⟩ := isOf (s := s.setVm vm0) hZ eT E
  obtain ⟨v, vm₁, ⟨U, L1, c1, n1⟩, -, X', hS, hgr, ⟨L', sf', q1, q0, q2, q3, q4, q5, q6, q7⟩, st⟩ := X.interfaceBackS hx hown (mvT hZ wl) (mvT hZ wd) (mvT hZ wf (by simp [Cond.onTables, Cond.keepsFace, Cond.keeps, Cond.steady, Cond.faceAtom, hy.1, hy.2])) (mvT hZ wse) (mvT hZ ws) (mvT hZ wpb) (mvT hZ wu) (mvT hZ wca) hy K i1 i2 i3 (g := mkF m pc L (argsL.reverse ++ .ref a :: S)) rfl (hsz.trans hml.symm) (Steps.refl _) hlen rfl (by simpa using hW) (hb hby hd) (fun _ _ => ⟨rfl, eT, hc, hs⟩)
  dsimp only [Pt.U, Pt.locs, Pt.cells, Pt.slots] at q1 q0 q3 q4 q5 q6 q7 X' st hS hgr
  subst q3 q4 q5
  obtain ⟨s₂, o, h1, r⟩ := G v U.heap sf' q1 p e s m args below meth c U.vm U _ hx hby hml hr hlk hn ho X' rfl (State.Warmed39.trans (t := s.setVm vm0) hZ hS.1) (B.called hS q0 q6 q7) (N.app q2)
  exact ⟨s₂, o, st.trans h1, r⟩
/-- clone of an array -/
theorem Go.clone {index : Nat} {a : Addr} {ad : String} {ty : FieldType} {vs : List Value} {W : Nat} (pc' : Nat) (hd : decode bytes pc = .ok (.invokevirtual index, 3)) (hp : pc + 3 = pc') (w1 : (Jvm.Cond.methodLink own index ⟨ad, "clone", "()Ljava/lang/Object;"⟩).before a0 Z = true) (w2 : (Jvm.Cond.sameMethod ad "java/lang/Object" "clone" "()Ljava/lang/Object;").before a0 Z = true) (w3 : (Jvm.Cond.native ⟨"java/lang/Object", "clone", "()Ljava/lang/Object;"⟩).before a0 Z = true)
    (w4 : (Jvm.Cond.instanceMethod ⟨"java/lang/Object", "clone", "()Ljava/lang/Object;"⟩).before a0 Z = true) (w5 : (Jvm.Cond.selects ad ⟨ad, "clone", "()Ljava/lang/Object;"⟩ ⟨"java/lang/Object", "clone", "()Ljava/lang/Object;"⟩).before a0 Z = true) (w6 : (Jvm.Cond.castable ad "java/lang/Cloneable").before a0 Z = true)
    (A : Ary Z h a ty vs) (EX : Exa Z h a ad) (cap : Nat) (hcap : vs.length ≤ cap) (hsz : L.size = ml) (hf : 1 ≤ R.frames) (hW : (S.map fun v => v.category).sum ≤ W) (hlo : W + 14 ≤ R.locals) (hc : cells + 1 ≤ R.cells) (hl : slots + cap ≤ R.slots)
    (G : ∀ h' x, h.size = x → n0 ≤ x → Ext h h' → x < h'.size → Ary Z h' x ty vs → Exa Z h' x ad → Go md l Z n0 R bytes ml ret own mn Ψ (cells + 1) (slots + cap) (x :: sf) h' pc' L (.ref x :: S)) :
    Go md l Z n0 R bytes ml ret own mn Ψ cells slots sf h pc L (.ref a :: S) := by
  subst hp
  intro p e s m args below meth c vm0 T locs hx hby hml hr hlk hn ho X eT hZ B N
  have hown : (s.setVm vm0).vm.findClass own = some m.cls := by rw [show (s.setVm vm0).vm = vm0 from rfl, hZ.alike.findClass]; exact ho
  obtain ⟨c0, A0, e1, e2, e3⟩ := A
  have FC : FitC Z c0 := fitC_of A0 fun i hi v hv => e3 v (by rw [← e1]; exact Array.mem_toList_iff.mpr (Array.mem_of_getElem? hv))
  obtain ⟨T', h', X', e', E, A', EX', st⟩ := cloneA X hx hZ hown w1 w2 w3 w4 w5 w6 eT A0 EX FC (g := mkF m pc L (.ref a :: S)) rfl (hsz.trans hml.symm) rfl (hb hby hd) hf (W := W) (cap := cap) (by simpa using hW) hlo (by rw [← Array.length_toList, e1]; exact hcap) hc hl
  have A'' : Ary Z h' h.size ty vs := ⟨_, A', e1, e2, e3⟩
  obtain ⟨s₂, o, h1, r⟩ := G h' _ rfl B.n0le E A''.lt A'' EX' p e s m args below meth c vm0 T' locs hx hby hml hr hlk hn ho X' e' hZ (B.new E A''.lt (Nat.le_refl _)) N
  exact ⟨s₂, o, st _ h1, r⟩
theorem notFace_obj {args : Array Value} {s : State} {y : MethodName} (w : (Jvm.Cond.noSuperclass y.cls).before args s = true) : NotFace s y := fun r0 h0 => by
  obtain ⟨c, k, g1, g2, -, -, g5⟩ := Cond.noSuperclass_spec w
  cases g1.symm.trans (findClass_of_methodNamed h0)
  exact ⟨k, g2, g5⟩
theorem notFace_cls {args : Array Value} {s : State} {D : String} {y z : MethodName} (w : (Jvm.Cond.selects D z z).before args s = true) (e : z.cls = y.cls) : NotFace s y := fun r0 h0 => by
  obtain ⟨c, k, u1, u2, u3⟩ := cls_of_selects w
  rw [e] at u1
  cases u1.symm.trans (findClass_of_methodNamed h0)
  exact ⟨k, u2, u3⟩
end G
end GK
end Jvm.Pilot.@@N@@
/- laws to paste: Road.eqW, Road.codOf (cut by pick.py; bodies as the Statement names them) -/
namespace Jvm.Pilot.@@N@@
namespace StrChars
open Jvm Sem ClassFile Op Lib Jvm.Stand Jvm.Free.XT Jvm.Free.ALB Jvm.Free.JM Jvm.Free
open Jvm.Lib.Cold (StaticIs)
/-- a char array whose places are chars -/
def Ch (a : Addr) (A : Cell) (U : State) : Prop := Arr .char a A U ∧ Typed .char A
theorem Ch.mv {a : Addr} {A : Cell} {U U' : State} (h : Ch a A U) (hal : U.vm.Alike U'.vm) (hh : U'.heap = U.heap) : Ch a A U' := ⟨h.1.mv hal hh, h.2⟩
theorem Ch.keep {a : Addr} {A : Cell} {U U' : State} (h : Ch a A U) (hal : U.vm.Alike U'.vm) (hk : U'.heap[a]? = some A) : Ch a A U' := ⟨h.1.keep hal hk, h.2⟩
/-- what place i of a char[]'s cell holds -/
def cv (A : Cell) (i : Nat) : Int32 := match A.slots[i]? with | some (.int x) => x | _ => 0
theorem Ch.get {a : Addr} {A : Cell} {U : State} (h : Ch a A U) {i : Nat} (hi : i < A.slots.size) : A.slots[i]? = some (.int (cv A i)) := by
  have e := Array.getElem?_eq_getElem hi
  have f := h.2 i _ e
  unfold cv; rw [e]
  generalize A.slots[i] = v at f
  cases v <;> simp [fits] at f ⊢
/-- the byte that i2b leaves of a char -/
def lo8 (x : Int32) : Int32 := x.toInt8.toInt32
theorem fits_lo8 (y : Int32) : fits .byte (.int (lo8 y)) = true := by
  have h1 := y.toInt8.le_toInt
  have h2 := y.toInt8.toInt_lt
  simp only [lo8, fits, Bool.and_eq_true, decide_eq_true_eq, Int32.le_iff_toInt_le, Int8.toInt_toInt32, show (-128 : Int32).toInt = -128 from by decide, show (127 : Int32).toInt = 127 from by decide]
  omega
/-- A' is A but that each place j of lo .. hi - 1 holds f j -/
def Laid (A A' : Cell) (lo hi : Nat) (f : Nat → Value) : Prop := A'.cls = A.cls ∧ A'.vm = A.vm ∧ A'.slots.size = A.slots.size ∧ ∀ i, A'.slots[i]? = if lo ≤ i ∧ i < hi then some (f i) else A.slots[i]?
theorem Laid.zero (A : Cell) (lo : Nat) (f : Nat → Value) : Laid A A lo (lo + 0) f := ⟨rfl, rfl, rfl, fun i => by rw [if_neg (by omega)]⟩
theorem Laid.step {A Ak : Cell} {lo k : Nat} {f : Nat → Value} {v : Value} (h : Laid A Ak lo k f) (hlo : lo ≤ k) (hk : k < Ak.slots.size) (hv : v = f k) : Laid A (Ak.setSlot k v) lo (k + 1) f := by
  refine ⟨h.1, h.2.1, by simpa [Cell.setSlot] using h.2.2.1, fun i => ?_⟩
  by_cases e : k = i
  · subst e; rw [Cell.slots_setSlot_self v hk, if_pos (by omega), hv]
  · rw [Cell.slots_setSlot_ne v e, h.2.2.2 i]
    by_cases q : lo ≤ i ∧ i < k
    · rw [if_pos q, if_pos (by omega)]
    · rw [if_neg q, if_neg (by omega)]
def U16 : String := "java/lang/StringUTF16"
namespace Cmp5
def yN : MethodName := ⟨"java/lang/StringUTF16", "compress", "([CI[BII)I"⟩
abbrev yB : ByteArray := jdk_52_method_21_code
theorem d0 : decode yB 0 = .ok (.iconst 0, 1) := by decide +kernel
theorem d1 : decode yB 1 = .ok (.istore 5, 2) := by decide +kernel
theorem d3 : decode yB 3 = .ok (.iload 5, 2) := by decide +kernel
theorem d5 : decode yB 5 = .ok (.iload 4, 2) := by decide +kernel
theorem d7 : decode yB 7 = .ok (.if_icmp (.ge) 37, 3) := by decide +kernel
theorem d10 : decode yB 10 = .ok (.aload_n 0, 1) := by decide +kernel
theorem d11 : decode yB 11 = .ok (.iload_n 1, 1) := by decide +kernel
theorem d12 : decode yB 12 = .ok (.caload, 1) := by decide +kernel
theorem d13 : decode yB 13 = .ok (.istore 6, 2) := by decide +kernel
theorem d15 : decode yB 15 = .ok (.iload 6, 2) := by decide +kernel
theorem d17 : decode yB 17 = .ok (.sipush 255, 3) := by decide +kernel
theorem d20 : decode yB 20 = .ok (.if_icmp (.le) 6, 3) := by decide +kernel
theorem d26 : decode yB 26 = .ok (.aload_n 2, 1) := by decide +kernel
theorem d27 : decode yB 27 = .ok (.iload_n 3, 1) := by decide +kernel
theorem d28 : decode yB 28 = .ok (.iload 6, 2) := by decide +kernel
theorem d30 : decode yB 30 = .ok (.i2b, 1) := by decide +kernel
theorem d31 : decode yB 31 = .ok (.bastore, 1) := by decide +kernel
theorem d32 : decode yB 32 = .ok (.iinc 1 1, 3) := by decide +kernel
theorem d35 : decode yB 35 = .ok (.iinc 3 1, 3) := by decide +kernel
theorem d38 : decode yB 38 = .ok (.iinc 5 1, 3) := by decide +kernel
theorem d41 : decode yB 41 = .ok (.goto (-38), 3) := by decide +kernel
theorem d44 : decode yB 44 = .ok (.iload 4, 2) := by decide +kernel
theorem d46 : decode yB 46 = .ok (.ireturn, 1) := by decide +kernel
def site : List Cond := []
def tab : Cond := tabOf yN yB 7 (some .int) site
def P (b : Addr) (A : Cell) (d : Addr) (B : Cell) (o q len : Nat) (args : Array Value) (s : State) : Prop := args = #[.ref b, .int (Int32.ofNat o), .ref d, .int (Int32.ofNat q), .int (Int32.ofNat len)] ∧ Ch b A s ∧ Arr .byte d B s ∧ b ≠ d ∧ o + len ≤ A.slots.size ∧ q + len ≤ B.slots.size ∧ ∀ i, i < len → ¬ 255 < cv A (o + i)
def E (b : Addr) (A : Cell) (d : Addr) (B : Cell) (o q len : Nat) (r : Option Value) (s u : State) : Prop := r = some (.int (Int32.ofNat len)) ∧ ∃ B', Put d B' s u ∧ Laid B B' q (q + len) (fun j => Value.int (lo8 (cv A (o + (j - q)))))
/-- no char of the range above 255: len; the places written hold each char's low byte -/
theorem law (l : Launch) (b : Addr) (A : Cell) (d : Addr) (B : Cell) (o q len : Nat) : Law l yN 5 5 0 0 yB 7 (some .int) site (P b A d B o q len) (E b A d B o q len) (copyLocs d q len) 0 0 := by
  refine Law.of_walk (plainFor_of_name (by decide +kernel)) (by decide +kernel) (by decide +kernel) (by decide) (fun _ _ h => by rw [h.1]; rfl) (fun _ U U' hal hh h => ⟨h.1, h.2.1.mv hal hh, h.2.2.1.mv hal hh, h.2.2.2⟩) (fun r U U' V V' h1 hal h2 h => ⟨h.1, h.2.elim fun B' q => ⟨B', q.1.mv h1 h2, q.2⟩⟩) ?_
  intro p e s m args below meth c s₁ X0 hexec hbytes hml hret hlk hnm hown hh0 W hP
  obtain ⟨rfl, hA, hB, hne, l1, l2, hp⟩ := hP
  have c1 : Steps p.tables e below (s₁.setTop (entryFrame m #[.ref b, .int (Int32.ofNat o), .ref d, .int (Int32.ofNat q), .int (Int32.ofNat len)] 7)) (s₁.setTop (mkF m 0 #[.val (.ref b), .val (.int (Int32.ofNat o)), .val (.ref d), .val (.int (Int32.ofNat q)), .val (.int (Int32.ofNat len)), .unset, .unset] [])) := entry rfl
  have hA0 := hA.1.mv X0.warmed.alike hh0
  have hB0 := hB.mv X0.warmed.alike hh0
  have a31 := hA.1.2.2.2
  have c2 : Steps p.tables e below (s₁.setTop (entryFrame m #[.ref b, .int (Int32.ofNat o), .ref d, .int (Int32.ofNat q), .int (Int32.ofNat len)] 7)) (s₁.setTop (mkF m 3 #[.val (.ref b), .val (.int (Int32.ofNat o)), .val (.ref d), .val (.int (Int32.ofNat q)), .val (.int (Int32.ofNat len)), .val (.int 0), .unset] [])) := c1.trans (by
    refine iconstV X0.here hexec rfl 0 (hb hbytes d0) (by decide) ?_
    refine XS.istore X0.here hexec rfl (hb hbytes d1) rfl rfl ?_
    exact Steps.refl _)
  have loop : ∀ (r i : Nat), i + r = len → ∀ (z : Slot), (z = .unset ∨ ∃ w, z = .val w ∧ w.category = 1) → ∀ (Tl : State) (Bk : Cell), Stand p l e { frames := 0, locals := 0, cells := 0, slots := 0 } s m #[.ref b, .int (Int32.ofNat o), .ref d, .int (Int32.ofNat q), .int (Int32.ofNat len)] below meth c Tl ([] ++ copyLocs d q i) 0 0 → Put d Bk s₁ Tl → Laid B Bk q (q + i) (fun j => Value.int (lo8 (cv A (o + (j - q))))) →
      Steps p.tables e below (s₁.setTop (entryFrame m #[.ref b, .int (Int32.ofNat o), .ref d, .int (Int32.ofNat q), .int (Int32.ofNat len)] 7)) (Tl.setTop (mkF m 3 #[.val (.ref b), .val (.int (Int32.ofNat (o + i))), .val (.ref d), .val (.int (Int32.ofNat (q + i))), .val (.int (Int32.ofNat len)), .val (.int (Int32.ofNat i)), z] [])) → ∃ (T' : State) (B' : Cell) (z' : Slot), Stand p l e { frames := 0, locals := 0, cells := 0, slots := 0 } s m #[.ref b, .int (Int32.ofNat o), .ref d, .int (Int32.ofNat q), .int (Int32.ofNat len)] below meth c T' ([] ++ copyLocs d q len) 0 0 ∧ Put d B' s₁ T' ∧ Laid B B' q (q + len) (fun j => Value.int (lo8 (cv A (o + (j - q))))) ∧
      Steps p.tables e below (s₁.setTop (entryFrame m #[.ref b, .int (Int32.ofNat o), .ref d, .int (Int32.ofNat q), .int (Int32.ofNat len)] 7)) (T'.setTop (mkF m 3 #[.val (.ref b), .val (.int (Int32.ofNat (o + len))), .val (.ref d), .val (.int (Int32.ofNat (q + len))), .val (.int (Int32.ofNat len)), .val (.int (Int32.ofNat len)), z'] [])) := by
    intro r
    induction r with
    | zero =>
      intro i hi z hz Tl Bk Xl pl fl cl
      have hil : i = len := by omega
      rw [hil] at Xl fl cl
      exact ⟨Tl, Bk, z, Xl, pl, fl, cl⟩
    | succ r ih =>
      intro i hi z hz Tl Bk Xl pl fl cl
      have all := X0.warmed.alike.symm.trans Xl.warmed.alike
      have hAl := hA0.keep all (pl.other hne hA0.1)
      have hBk := hB0.like all pl.1 fl.1 fl.2.1 fl.2.2.1
      have hlt : q + i < Bk.slots.size := by rw [fl.2.2.1]; omega
      have c3 : Steps p.tables e below (s₁.setTop (entryFrame m #[.ref b, .int (Int32.ofNat o), .ref d, .int (Int32.ofNat q), .int (Int32.ofNat len)] 7)) (Tl.setTop (mkF m 12 #[.val (.ref b), .val (.int (Int32.ofNat (o + i))), .val (.ref d), .val (.int (Int32.ofNat (q + i))), .val (.int (Int32.ofNat len)), .val (.int (Int32.ofNat i)), z] [.int (Int32.ofNat (o + i)), .ref b])) := cl.trans (by
        refine XS.iload Xl.here hexec rfl (hb hbytes d3) rfl ?_
        refine XS.iload Xl.here hexec rfl (hb hbytes d5) rfl ?_
        refine XS.icmpNo Xl.here hexec rfl (hb hbytes d7) rfl (ii_ge_f (lt32 (by omega) (by omega))) ?_
        refine XS.aloadN Xl.here hexec rfl (hb hbytes d10) rfl rfl ?_
        refine XS.iloadN Xl.here hexec rfl (hb hbytes d11) rfl ?_
        exact Steps.refl _)
      have c4 : Steps p.tables e below (s₁.setTop (entryFrame m #[.ref b, .int (Int32.ofNat o), .ref d, .int (Int32.ofNat q), .int (Int32.ofNat len)] 7)) (Tl.setTop (mkF m 13 #[.val (.ref b), .val (.int (Int32.ofNat (o + i))), .val (.ref d), .val (.int (Int32.ofNat (q + i))), .val (.int (Int32.ofNat len)), .val (.int (Int32.ofNat i)), z] [.int (cv A (o + i))])) := c3.trans (by
        refine Xl.aget hexec hAl rfl (hA.get (i := o + i) (by omega)) rfl rfl (hb hbytes d12) ?_
        exact Steps.refl _)
      have c5 : Steps p.tables e below (s₁.setTop (entryFrame m #[.ref b, .int (Int32.ofNat o), .ref d, .int (Int32.ofNat q), .int (Int32.ofNat len)] 7)) (Tl.setTop (mkF m 15 #[.val (.ref b), .val (.int (Int32.ofNat (o + i))), .val (.ref d), .val (.int (Int32.ofNat (q + i))), .val (.int (Int32.ofNat len)), .val (.int (Int32.ofNat i)), .val (.int (cv A (o + i)))] [])) := c4.trans (by
        refine XS.istoreS Xl.here hexec rfl (hb hbytes d13) rfl rfl hz ?_
        exact Steps.refl _)
      have c6 : Steps p.tables e below (s₁.setTop (entryFrame m #[.ref b, .int (Int32.ofNat o), .ref d, .int (Int32.ofNat q), .int (Int32.ofNat len)] 7)) (Tl.setTop (mkF m 31 #[.val (.ref b), .val (.int (Int32.ofNat (o + i))), .val (.ref d), .val (.int (Int32.ofNat (q + i))), .val (.int (Int32.ofNat len)), .val (.int (Int32.ofNat i)), .val (.int (cv A (o + i)))] [.int (lo8 (cv A (o + i))), .int (Int32.ofNat (q + i)), .ref d])) := c5.trans (by
        refine XS.iload Xl.here hexec rfl (hb hbytes d15) rfl ?_
        refine sipushV Xl.here hexec rfl 255 (hb hbytes d17) (by decide) ?_
        refine XS.icmpYes Xl.here hexec rfl (pc0 := 20) rfl (hb hbytes d20) rfl (ii_le_t (hp i (by omega))) (by decide) rfl ?_
        refine XS.aloadN Xl.here hexec rfl (hb hbytes d26) rfl rfl ?_
        refine XS.iloadN Xl.here hexec rfl (hb hbytes d27) rfl ?_
        refine XS.iload Xl.here hexec rfl (hb hbytes d28) rfl ?_
        refine i2b Xl.here hexec rfl (hb hbytes d30) rfl ?_
        exact Steps.refl _)
      obtain ⟨T7, X7, p7, st7⟩ := Xl.aput hexec hBk rfl hlt rfl (fits_lo8 (cv A (o + i))) (g := (mkF m 31 #[.val (.ref b), .val (.int (Int32.ofNat (o + i))), .val (.ref d), .val (.int (Int32.ofNat (q + i))), .val (.int (Int32.ofNat len)), .val (.int (Int32.ofNat i)), .val (.int (cv A (o + i)))] [.int (lo8 (cv A (o + i))), .int (Int32.ofNat (q + i)), .ref d])) rfl (rest := []) rfl (hb hbytes d31)
      have c8 : Steps p.tables e below (s₁.setTop (entryFrame m #[.ref b, .int (Int32.ofNat o), .ref d, .int (Int32.ofNat q), .int (Int32.ofNat len)] 7)) (T7.setTop (mkF m 32 #[.val (.ref b), .val (.int (Int32.ofNat (o + i))), .val (.ref d), .val (.int (Int32.ofNat (q + i))), .val (.int (Int32.ofNat len)), .val (.int (Int32.ofNat i)), .val (.int (cv A (o + i)))] [])) := c6.trans (st7 _ (Steps.refl _))
      have c9 : Steps p.tables e below (s₁.setTop (entryFrame m #[.ref b, .int (Int32.ofNat o), .ref d, .int (Int32.ofNat q), .int (Int32.ofNat len)] 7)) (T7.setTop (mkF m 3 #[.val (.ref b), .val (.int (Int32.ofNat (o + i) + 1)), .val (.ref d), .val (.int (Int32.ofNat (q + i) + 1)), .val (.int (Int32.ofNat len)), .val (.int (Int32.ofNat i + 1)), .val (.int (cv A (o + i)))] [])) := c8.trans (by
        refine iincV X7.here hexec rfl 1 (hb hbytes d32) (by decide) rfl rfl ?_
        refine iincV X7.here hexec rfl 1 (hb hbytes d35) (by decide) rfl rfl ?_
        refine iincV X7.here hexec rfl 1 (hb hbytes d38) (by decide) rfl rfl ?_
        refine XS.goto X7.here hexec rfl (pc0 := 41) rfl (hb hbytes d41) (by decide) rfl ?_
        exact Steps.refl _)
      have c10 : Steps p.tables e below (s₁.setTop (entryFrame m #[.ref b, .int (Int32.ofNat o), .ref d, .int (Int32.ofNat q), .int (Int32.ofNat len)] 7)) (T7.setTop (mkF m 3 #[.val (.ref b), .val (.int (Int32.ofNat (o + (i + 1)))), .val (.ref d), .val (.int (Int32.ofNat (q + (i + 1)))), .val (.int (Int32.ofNat len)), .val (.int (Int32.ofNat (i + 1))), .val (.int (cv A (o + i)))] [])) := by
        have := c9
        rw [succ32, succ32, succ32] at this
        exact this
      exact ih (i + 1) (by omega) _ (Or.inr ⟨_, rfl, rfl⟩) T7 _ (by rw [copyLocs_step, ← List.append_assoc]; exact X7) (pl.trans p7) (fl.step (by omega) hlt (by simp)) c10
  obtain ⟨T9, B9, z9, X9, p9, f9, g9⟩ := loop len 0 (by omega) .unset (Or.inl rfl) s₁ B (by simpa [copyLocs] using X0) ⟨hB0.1, fun _ _ => rfl, rfl⟩ (Laid.zero _ _ _) c2
  have c11 : Steps p.tables e below (s₁.setTop (entryFrame m #[.ref b, .int (Int32.ofNat o), .ref d, .int (Int32.ofNat q), .int (Int32.ofNat len)] 7)) (T9.setTop (mkF m 46 #[.val (.ref b), .val (.int (Int32.ofNat (o + len))), .val (.ref d), .val (.int (Int32.ofNat (q + len))), .val (.int (Int32.ofNat len)), .val (.int (Int32.ofNat len)), z9] [.int (Int32.ofNat len)])) := g9.trans (by
    refine XS.iload X9.here hexec rfl (hb hbytes d3) rfl ?_
    refine XS.iload X9.here hexec rfl (hb hbytes d5) rfl ?_
    refine XS.icmpYes X9.here hexec rfl (pc0 := 7) rfl (hb hbytes d7) rfl (ii_ge_t (nlt32 (by omega) (Nat.le_refl _))) (by decide) rfl ?_
    refine XS.iload X9.here hexec rfl (hb hbytes d44) rfl ?_
    exact Steps.refl _)
  exact ⟨T9, some (.int (Int32.ofNat len)), _, _, _, X9, by simp, rfl, rfl, (fun h => by cases h), ⟨rfl, B9, p9.from hh0, f9⟩, fun fs hl => c11.trans (X9.ireturnOut hexec hret rfl (Or.inl rfl) (hb hbytes d46) hl)⟩
end Cmp5
namespace Cmp3
def yN : MethodName := ⟨"java/lang/StringUTF16", "compress", "([CII)[B"⟩
abbrev yB : ByteArray := jdk_52_method_16_code
theorem d0 : decode yB 0 = .ok (.iload_n 2, 1) := by decide +kernel
theorem d1 : decode yB 1 = .ok (.newarray .byte, 2) := by decide +kernel
theorem d3 : decode yB 3 = .ok (.astore_n 3, 1) := by decide +kernel
theorem d4 : decode yB 4 = .ok (.aload_n 0, 1) := by decide +kernel
theorem d5 : decode yB 5 = .ok (.iload_n 1, 1) := by decide +kernel
theorem d6 : decode yB 6 = .ok (.aload_n 3, 1) := by decide +kernel
theorem d7 : decode yB 7 = .ok (.iconst 0, 1) := by decide +kernel
theorem d8 : decode yB 8 = .ok (.iload_n 2, 1) := by decide +kernel
theorem d9 : decode yB 9 = .ok (.invokestatic 115, 3) := by decide +kernel
theorem d12 : decode yB 12 = .ok (.istore 4, 2) := by decide +kernel
theorem d14 : decode yB 14 = .ok (.iload 4, 2) := by decide +kernel
theorem d16 : decode yB 16 = .ok (.iload_n 2, 1) := by decide +kernel
theorem d17 : decode yB 17 = .ok (.if_icmp (.eq) 40, 3) := by decide +kernel
theorem d57 : decode yB 57 = .ok (.aload_n 3, 1) := by decide +kernel
theorem d58 : decode yB 58 = .ok (.areturn, 1) := by decide +kernel
def site : List Cond := [.arrayClass .byte, Cmp5.tab] ++ staticW U16 115 Cmp5.yN
def tab : Cond := tabOf yN yB 6 (some (.array .byte)) site
def P (b : Addr) (A : Cell) (o len : Nat) (args : Array Value) (s : State) : Prop := args = #[.ref b, .int (Int32.ofNat o), .int (Int32.ofNat len)] ∧ Ch b A s ∧ o + len ≤ A.slots.size ∧ len ≤ 536870912 ∧ ∀ i, i < len → ¬ 255 < cv A (o + i)
def E (b : Addr) (A : Cell) (o len : Nat) (r : Option Value) (s u : State) : Prop := NewArr .byte "[B" len (fun j => .int (lo8 (cv A (o + j)))) r s u ∧ u.heap.size = s.heap.size + 1
/-- no char of the range above 255: a new byte[] of their low bytes -/
theorem law (l : Launch) (b : Addr) (A : Cell) (o len : Nat) : Law l yN 3 3 1 18 yB 6 (some (.array .byte)) site (P b A o len) (E b A o len) [] 1 len := by
  refine Law.of_walk (plainFor_of_name (by decide +kernel)) (by decide +kernel) (by decide +kernel) (by decide) (fun _ _ h => by rw [h.1]; rfl) (fun _ U U' hal hh h => ⟨h.1, h.2.1.mv hal hh, h.2.2⟩) (fun r U U' V V' h1 hal h2 h => ⟨NewArr.mv r U U' V V' h1 hal h2 h.1, by rw [h1, h2]; exact h.2⟩) ?_
  intro p e s m args below meth c s₁ X0 hexec hbytes hml hret hlk hnm hown hh0 W hP
  obtain ⟨rfl, hA, l1, l2, hp⟩ := hP
  have a31 := hA.1.2.2.2
  have c1 : Steps p.tables e below (s₁.setTop (entryFrame m #[.ref b, .int (Int32.ofNat o), .int (Int32.ofNat len)] 6)) (s₁.setTop (mkF m 0 #[.val (.ref b), .val (.int (Int32.ofNat o)), .val (.int (Int32.ofNat len)), .unset, .unset, .unset] [])) := entry rfl
  have c2 : Steps p.tables e below (s₁.setTop (entryFrame m #[.ref b, .int (Int32.ofNat o), .int (Int32.ofNat len)] 6)) (s₁.setTop (mkF m 1 #[.val (.ref b), .val (.int (Int32.ofNat o)), .val (.int (Int32.ofNat len)), .unset, .unset, .unset] [.int (Int32.ofNat len)])) := c1.trans (by
    refine XS.iloadN X0.here hexec rfl (hb hbytes d0) rfl ?_
    exact Steps.refl _)
  obtain ⟨T3, B3, X3, ba3, bs3, bv3, bh3, bf3, st3⟩ := X0.anew hexec (atype := .byte) (wk W (.arrayClass .byte)) rfl (by show len * 1 ≤ _; omega) (by omega) (g := (mkF m 1 #[.val (.ref b), .val (.int (Int32.ofNat o)), .val (.int (Int32.ofNat len)), .unset, .unset, .unset] [.int (Int32.ofNat len)])) rfl (hb hbytes d1) (rest := []) rfl (Nat.le_refl _) (by show 0 + len ≤ len; omega)
  rw [hh0] at ba3 st3
  have kp3 : XT.Kept s T3 := (XT.Kept.of_eq hh0).push bh3
  have hA3 := hA.keep X3.warmed.alike (kp3 _ _ hA.1.1)
  have hne : b ≠ s.heap.size := hA.1.ne
  have c4 : Steps p.tables e below (s₁.setTop (entryFrame m #[.ref b, .int (Int32.ofNat o), .int (Int32.ofNat len)] 6)) (T3.setTop (mkF m 3 #[.val (.ref b), .val (.int (Int32.ofNat o)), .val (.int (Int32.ofNat len)), .unset, .unset, .unset] [.ref s.heap.size])) := c2.trans (st3 _ (Steps.refl _))
  have c5 : Steps p.tables e below (s₁.setTop (entryFrame m #[.ref b, .int (Int32.ofNat o), .int (Int32.ofNat len)] 6)) (T3.setTop (mkF m 9 #[.val (.ref b), .val (.int (Int32.ofNat o)), .val (.int (Int32.ofNat len)), .val (.ref s.heap.size), .unset, .unset] [.int (Int32.ofNat len), .int 0, .ref s.heap.size, .int (Int32.ofNat o), .ref b])) := c4.trans (by
    refine XS.astoreN X3.here hexec rfl (hb hbytes d3) rfl rfl rfl ?_
    refine XS.aloadN X3.here hexec rfl (hb hbytes d4) rfl rfl ?_
    refine XS.iloadN X3.here hexec rfl (hb hbytes d5) rfl ?_
    refine XS.aloadN X3.here hexec rfl (hb hbytes d6) rfl rfl ?_
    refine iconstV X3.here hexec rfl 0 (hb hbytes d7) (by decide) ?_
    refine XS.iloadN X3.here hexec rfl (hb hbytes d8) rfl ?_
    exact Steps.refl _)
  obtain ⟨v6, T6, X6, E6, g6⟩ := X3.callS hexec (Cmp5.law l b A s.heap.size B3 o 0 len) hown (wks W (staticW U16 115 Cmp5.yN)) (wk W Cmp5.tab) (W := 0) (Nat.le_of_ble_eq_true rfl) (Nat.le_of_ble_eq_true rfl) (Nat.le_refl _) (by show 0 + len + 0 ≤ len; omega) (g := (mkF m 9 #[.val (.ref b), .val (.int (Int32.ofNat o)), .val (.int (Int32.ofNat len)), .val (.ref s.heap.size), .unset, .unset] [.int (Int32.ofNat len), .int (Int32.ofNat 0), .ref s.heap.size, .int (Int32.ofNat o), .ref b])) rfl (by rw [hml]; rfl) c5 (argsL := [.ref b, .int (Int32.ofNat o), .ref s.heap.size, .int (Int32.ofNat 0), .int (Int32.ofNat len)]) (rest := []) rfl rfl (by show 2 * 0 + 0 ≤ _; decide) (hb hbytes d9) (⟨rfl, hA3, ba3, hne, l1, by rw [bs3]; simp, hp⟩)
  obtain ⟨rfl, B6, p6, f6⟩ := E6
  have c7 : Steps p.tables e below (s₁.setTop (entryFrame m #[.ref b, .int (Int32.ofNat o), .int (Int32.ofNat len)] 6)) (T6.setTop (mkF m 12 #[.val (.ref b), .val (.int (Int32.ofNat o)), .val (.int (Int32.ofNat len)), .val (.ref s.heap.size), .unset, .unset] [.int (Int32.ofNat len)])) := g6
  have c8 : Steps p.tables e below (s₁.setTop (entryFrame m #[.ref b, .int (Int32.ofNat o), .int (Int32.ofNat len)] 6)) (T6.setTop (mkF m 58 #[.val (.ref b), .val (.int (Int32.ofNat o)), .val (.int (Int32.ofNat len)), .val (.ref s.heap.size), .val (.int (Int32.ofNat len)), .unset] [.ref s.heap.size])) := c7.trans (by
    refine XS.istore X6.here hexec rfl (hb hbytes d12) rfl rfl ?_
    refine XS.iload X6.here hexec rfl (hb hbytes d14) rfl ?_
    refine XS.iloadN X6.here hexec rfl (hb hbytes d16) rfl ?_
    refine XS.icmpYes X6.here hexec rfl (pc0 := 17) rfl (hb hbytes d17) rfl (ii_eq_t rfl) (by decide) rfl ?_
    refine XS.aloadN X6.here hexec rfl (hb hbytes d57) rfl rfl ?_
    exact Steps.refl _)
  have X8 := X6.wide (L' := []) (cells' := 1) (slots' := len) (fun x hx hlt => by
    simp only [List.nil_append, copyLocs, List.mem_map, List.mem_range] at hx
    obtain ⟨i, -, rfl⟩ := hx
    exact absurd hlt (Nat.lt_irrefl _)) (Nat.le_refl _) (by omega)
  exact ⟨T6, some (.ref s.heap.size), _, _, _, X8, rfl, rfl, rfl, (fun h => by cases h), ⟨⟨rfl, B6, ba3.like (X3.warmed.alike.symm.trans X6.warmed.alike) p6.1 f6.1 f6.2.1 f6.2.2.1, f6.2.1.trans bv3, by rw [X6.warmed.alike.findClass, f6.1]; exact bf3, by rw [f6.2.2.1, bs3]; simp, fun j hj => by rw [f6.2.2.2 j, if_pos (by omega)]; rfl, kp3.put p6 (Nat.le_refl _)⟩, by rw [p6.2.2, bh3, hh0]; simp⟩, fun fs hl => c8.trans (X8.areturnOut hexec rfl hret rfl (hb hbytes d58) hl)⟩
end Cmp3
namespace CodL
def yN : MethodName := ⟨"java/lang/StringUTF16", "coderFromArrayLen", "([BI)B"⟩
abbrev yB : ByteArray := jdk_52_method_15_code
theorem d0 : decode yB 0 = .ok (.iload_n 1, 1) := by decide +kernel
theorem d1 : decode yB 1 = .ok (.aload_n 0, 1) := by decide +kernel
theorem d2 : decode yB 2 = .ok (.arraylength, 1) := by decide +kernel
theorem d3 : decode yB 3 = .ok (.isub, 1) := by decide +kernel
theorem d4 : decode yB 4 = .ok (.bipush 31, 2) := by decide +kernel
theorem d6 : decode yB 6 = .ok (.iushr, 1) := by decide +kernel
theorem d7 : decode yB 7 = .ok (.i2b, 1) := by decide +kernel
theorem d8 : decode yB 8 = .ok (.ireturn, 1) := by decide +kernel
def site : List Cond := []
def tab : Cond := tabOf yN yB 2 (some .byte) site
def P (d : Addr) (B : Cell) (args : Array Value) (s : State) : Prop := args = #[.ref d, .int (Int32.ofNat B.slots.size)] ∧ Arr .byte d B s
def E (r : Option Value) (s u : State) : Prop := XT.PureE (some (.int 0)) r s u
/-- an array as long as the number of chars: LATIN1 -/
theorem law (l : Launch) (d : Addr) (B : Cell) : Law l yN 2 2 0 0 yB 2 (some .byte) site (P d B) E [] 0 0 := by
  refine Law.of_walk (plainFor_of_name (by decide +kernel)) (by decide +kernel) (by decide +kernel) (by decide) (fun _ _ h => by rw [h.1]; rfl) (fun _ U U' hal hh h => ⟨h.1, h.2.mv hal hh⟩) (fun r U U' V V' h1 hal h2 h => XT.PureE.mv r U U' V V' h1 hal h2 h) ?_
  intro p e s m args below meth c s₁ X0 hexec hbytes hml hret hlk hnm hown hh0 W hP
  obtain ⟨rfl, hB⟩ := hP
  have hB0 := hB.mv X0.warmed.alike hh0
  have c1 : Steps p.tables e below (s₁.setTop (entryFrame m #[.ref d, .int (Int32.ofNat B.slots.size)] 2)) (s₁.setTop (mkF m 0 #[.val (.ref d), .val (.int (Int32.ofNat B.slots.size))] [])) := entry rfl
  have c2 : Steps p.tables e below (s₁.setTop (entryFrame m #[.ref d, .int (Int32.ofNat B.slots.size)] 2)) (s₁.setTop (mkF m 2 #[.val (.ref d), .val (.int (Int32.ofNat B.slots.size))] [.ref d, .int (Int32.ofNat B.slots.size)])) := c1.trans (by
    refine XS.iloadN X0.here hexec rfl (hb hbytes d0) rfl ?_
    refine XS.aloadN X0.here hexec rfl (hb hbytes d1) rfl rfl ?_
    exact Steps.refl _)
  have c3 : Steps p.tables e below (s₁.setTop (entryFrame m #[.ref d, .int (Int32.ofNat B.slots.size)] 2)) (s₁.setTop (mkF m 8 #[.val (.ref d), .val (.int (Int32.ofNat B.slots.size))] [.int (lo8 (ushr (Int32.ofNat B.slots.size - Int32.ofNat B.slots.size) 31))])) := c2.trans (by
    refine X0.alen hexec hB0 rfl rfl (hb hbytes d2) ?_
    refine XS.isub X0.here hexec rfl (hb hbytes d3) rfl ?_
    refine bipushV X0.here hexec rfl 31 (hb hbytes d4) (by decide) ?_
    refine iushr X0.here hexec rfl (hb hbytes d6) rfl ?_
    refine i2b X0.here hexec rfl (hb hbytes d7) rfl ?_
    exact Steps.refl _)
  have e0 : lo8 (ushr (Int32.ofNat B.slots.size - Int32.ofNat B.slots.size) 31) = 0 := by rw [Int32.sub_self]; decide
  rw [e0] at c3
  exact ⟨s₁, some (.int 0), _, _, _, X0, rfl, rfl, rfl, (fun h => by cases h), ⟨rfl, hh0⟩, fun fs hl => c3.trans (X0.ireturnOut hexec hret rfl (Or.inr (Or.inr (Or.inl rfl))) (hb hbytes d8) hl)⟩
end CodL
/-- the String at a is Latin-1 over a new byte[] (the heap's one new cell): the low bytes of the len chars of A from o on; every cell but a is kept -/
def Got (a : Addr) (D : Cell) (fV fC : Field) (A : Cell) (o len : Nat) (r : Option Value) (s u : State) : Prop := r = none ∧ ∃ D' V : Cell, Blank "java/lang/String" a D' u ∧ Same D D' [fV.slot, fC.slot] ∧ D'.slots[fV.slot]? = some (.ref s.heap.size) ∧ D'.slots[fC.slot]? = some (.int 0) ∧ Arr .byte s.heap.size V u ∧ V.vm = .none ∧ u.vm.findClass "[B" = some V.cls ∧ V.slots.size = len ∧ (∀ j, j < len → V.slots[j]? = some (.int (lo8 (cv A (o + j))))) ∧ (∀ (y : Addr) (c : Cell), y ≠ a → s.heap[y]? = some c → u.heap[y]? = some c) ∧ u.heap.size = s.heap.size + 1
theorem Got.mv {a : Addr} {D A : Cell} {fV fC : Field} {o len : Nat} : ∀ r (U U' V V' : State), U'.heap = U.heap → V.vm.Alike V'.vm → V'.heap = V.heap → Got a D fV fC A o len r U V → Got a D fV fC A o len r U' V' :=
  fun r U U' V V' h1 hal h2 ⟨e0, D', X, a1, a2, a3, a4, a5, a6, a7, a8, a9, a10, a11⟩ => ⟨e0, D', X, a1.mv hal h2, a2, by rw [h1]; exact a3, a4, by rw [h1]; exact a5.mv hal h2, a6, by rw [hal.findClass]; exact a7, a8, a9, by rw [h1, h2]; exact a10, by rw [h1, h2]; exact a11⟩
namespace New4
def yN : MethodName := ⟨"java/lang/String", "<init>", "([CIILjava/lang/Void;)V"⟩
abbrev yB : ByteArray := jdk_42_method_149_code
theorem d0 : decode yB 0 = .ok (.aload_n 0, 1) := by decide +kernel
theorem d1 : decode yB 1 = .ok (.invokespecial 1, 3) := by decide +kernel
theorem d4 : decode yB 4 = .ok (.iload_n 3, 1) := by decide +kernel
theorem d5 : decode yB 5 = .ok (.ifCond (.ne) 22, 3) := by decide +kernel
theorem d27 : decode yB 27 = .ok (.getstatic 38, 3) := by decide +kernel
theorem d30 : decode yB 30 = .ok (.ifCond (.eq) 28, 3) := by decide +kernel
theorem d33 : decode yB 33 = .ok (.aload_n 1, 1) := by decide +kernel
theorem d34 : decode yB 34 = .ok (.iload_n 2, 1) := by decide +kernel
theorem d35 : decode yB 35 = .ok (.iload_n 3, 1) := by decide +kernel
theorem d36 : decode yB 36 = .ok (.invokestatic 177, 3) := by decide +kernel
theorem d39 : decode yB 39 = .ok (.astore 5, 2) := by decide +kernel
theorem d41 : decode yB 41 = .ok (.aload_n 0, 1) := by decide +kernel
theorem d42 : decode yB 42 = .ok (.aload 5, 2) := by decide +kernel
theorem d44 : decode yB 44 = .ok (.iload_n 3, 1) := by decide +kernel
theorem d45 : decode yB 45 = .ok (.invokestatic 47, 3) := by decide +kernel
theorem d48 : decode yB 48 = .ok (.putfield 15, 3) := by decide +kernel
theorem d51 : decode yB 51 = .ok (.aload_n 0, 1) := by decide +kernel
theorem d52 : decode yB 52 = .ok (.aload 5, 2) := by decide +kernel
theorem d54 : decode yB 54 = .ok (.putfield 9, 3) := by decide +kernel
theorem d57 : decode yB 57 = .ok (.return_, 1) := by decide +kernel
def site : List Cond := [.fieldLink "java/lang/String" 38 "java/lang/String" "COMPACT_STRINGS" "Z", Cmp3.tab, CodL.tab, .laysFinal "java/lang/String" "java/lang/String" "value" "[B", .fieldLink "java/lang/String" 9 "java/lang/String" "value" "[B", .laysFinal "java/lang/String" "java/lang/String" "coder" "B", .fieldLink "java/lang/String" 15 "java/lang/String" "coder" "B"] ++ objW "java/lang/String" 1 ++ staticW "java/lang/String" 177 Cmp3.yN ++ staticW "java/lang/String" 47 CodL.yN
def tab : Cond := tabOf yN yB 6 none site
def P (a : Addr) (D : Cell) (fV fC : Field) (b : Addr) (A : Cell) (z : Int32) (o len : Nat) (args : Array Value) (s : State) : Prop := args = #[.ref a, .ref b, .int (Int32.ofNat o), .int (Int32.ofNat len), .null] ∧ Blank "java/lang/String" a D s ∧ Found "java/lang/String" "value" "[B" fV s ∧ Found "java/lang/String" "coder" "B" fC s ∧ Ch b A s ∧ StaticIs s "java/lang/String" "COMPACT_STRINGS" "Z" (.int z) ∧ ¬ z = 0 ∧ 0 < len ∧ o + len ≤ A.slots.size ∧ len ≤ 536870912 ∧ ∀ i, i < len → ¬ 255 < cv A (o + i)
def E (a : Addr) (D : Cell) (fV fC : Field) (A : Cell) (o len : Nat) (r : Option Value) (s u : State) : Prop := Got a D fV fC A o len r s u
/-- len > 0, no char of the range above 255: a Latin-1 String of their low bytes -/
theorem law (l : Launch) (a : Addr) (D : Cell) (fV fC : Field) (b : Addr) (A : Cell) (z : Int32) (o len : Nat) : Law l yN 5 4 2 35 yB 6 none site (P a D fV fC b A z o len) (E a D fV fC A o len) [⟨a, fC.slot⟩, ⟨a, fV.slot⟩] 1 len := by
  refine Law.of_walk (plainFor_of_name (by decide +kernel)) (by decide +kernel) (by decide +kernel) (by decide) (fun _ _ h => by rw [h.1]; rfl) (fun _ U U' hal hh h => ⟨h.1, h.2.1.mv hal hh, h.2.2.1.al hal, h.2.2.2.1.al hal, h.2.2.2.2.1.mv hal hh, h.2.2.2.2.2.1.there hal hh, h.2.2.2.2.2.2⟩) (fun r U U' V V' h1 hal h2 h => Got.mv r U U' V V' h1 hal h2 h) ?_
  intro p e s m args below meth c s₁ X0 hexec hbytes hml hret hlk hnm hown hh0 W hP
  obtain ⟨rfl, hB, f1, f2, hA, s1, hz, l0, l1, l2, hp⟩ := hP
  have a31 := hA.1.2.2.2
  have c1 : Steps p.tables e below (s₁.setTop (entryFrame m #[.ref a, .ref b, .int (Int32.ofNat o), .int (Int32.ofNat len), .null] 6)) (s₁.setTop (mkF m 0 #[.val (.ref a), .val (.ref b), .val (.int (Int32.ofNat o)), .val (.int (Int32.ofNat len)), .val .null, .unset] [])) := entry rfl
  have c2 : Steps p.tables e below (s₁.setTop (entryFrame m #[.ref a, .ref b, .int (Int32.ofNat o), .int (Int32.ofNat len), .null] 6)) (s₁.setTop (mkF m 1 #[.val (.ref a), .val (.ref b), .val (.int (Int32.ofNat o)), .val (.int (Int32.ofNat len)), .val .null, .unset] [.ref a])) := c1.trans (by
    refine XS.aloadN X0.here hexec rfl (hb hbytes d0) rfl rfl ?_
    exact Steps.refl _)
  obtain ⟨T3, X3, q3, st3⟩ := X0.oinit hexec hown (wks W (objW "java/lang/String" 1)) (g := (mkF m 1 #[.val (.ref a), .val (.ref b), .val (.int (Int32.ofNat o)), .val (.int (Int32.ofNat len)), .val .null, .unset] [.ref a])) rfl (by rw [hml]; rfl) (rest := []) rfl (hb hbytes d1) (W := 0) (by show 2 * 0 + 0 ≤ _; decide) (Nat.le_of_ble_eq_true rfl) (Nat.le_of_ble_eq_true rfl)
  have hh3 := q3.trans hh0
  have c4 : Steps p.tables e below (s₁.setTop (entryFrame m #[.ref a, .ref b, .int (Int32.ofNat o), .int (Int32.ofNat len), .null] 6)) (T3.setTop (mkF m 27 #[.val (.ref a), .val (.ref b), .val (.int (Int32.ofNat o)), .val (.int (Int32.ofNat len)), .val .null, .unset] [])) := (c2.trans (st3 _ (Steps.refl _))).trans (by
    refine XS.iloadN X3.here hexec rfl (hb hbytes d4) rfl ?_
    refine XS.ifYes X3.here hexec rfl (pc0 := 5) rfl (hb hbytes d5) rfl (i0_ne_t (nz32 (by omega) l0)) (by decide) rfl ?_
    exact Steps.refl _)
  obtain ⟨T5, X5, q5, st5⟩ := X3.sget hexec hown (wk W (.fieldLink "java/lang/String" 38 "java/lang/String" "COMPACT_STRINGS" "Z")) s1 (fun _ _ h => by rw [hh3]; exact h) (g := (mkF m 27 #[.val (.ref a), .val (.ref b), .val (.int (Int32.ofNat o)), .val (.int (Int32.ofNat len)), .val .null, .unset] [])) rfl (hb hbytes d27)
  have hh5 := q5.trans hh3
  have c6 : Steps p.tables e below (s₁.setTop (entryFrame m #[.ref a, .ref b, .int (Int32.ofNat o), .int (Int32.ofNat len), .null] 6)) (T5.setTop (mkF m 30 #[.val (.ref a), .val (.ref b), .val (.int (Int32.ofNat o)), .val (.int (Int32.ofNat len)), .val .null, .unset] [.int z])) := c4.trans (st5 _ (Steps.refl _))
  have c7 : Steps p.tables e below (s₁.setTop (entryFrame m #[.ref a, .ref b, .int (Int32.ofNat o), .int (Int32.ofNat len), .null] 6)) (T5.setTop (mkF m 36 #[.val (.ref a), .val (.ref b), .val (.int (Int32.ofNat o)), .val (.int (Int32.ofNat len)), .val .null, .unset] [.int (Int32.ofNat len), .int (Int32.ofNat o), .ref b])) := c6.trans (by
    refine XS.ifNo X5.here hexec rfl (hb hbytes d30) rfl (i0_eq_f hz) ?_
    refine XS.aloadN X5.here hexec rfl (hb hbytes d33) rfl rfl ?_
    refine XS.iloadN X5.here hexec rfl (hb hbytes d34) rfl ?_
    refine XS.iloadN X5.here hexec rfl (hb hbytes d35) rfl ?_
    exact Steps.refl _)
  obtain ⟨v8, T8, X8, E8, g8⟩ := X5.callS hexec (Cmp3.law l b A o len) hown (wks W (staticW "java/lang/String" 177 Cmp3.yN)) (wk W Cmp3.tab) (W := 0) (Nat.le_of_ble_eq_true rfl) (Nat.le_of_ble_eq_true rfl) (Nat.le_refl _) (by show 0 + len ≤ len; omega) (g := (mkF m 36 #[.val (.ref a), .val (.ref b), .val (.int (Int32.ofNat o)), .val (.int (Int32.ofNat len)), .val .null, .unset] [.int (Int32.ofNat len), .int (Int32.ofNat o), .ref b])) rfl (by rw [hml]; rfl) c7 (argsL := [.ref b, .int (Int32.ofNat o), .int (Int32.ofNat len)]) (rest := []) rfl rfl (by show 2 * 0 + 0 ≤ _; decide) (hb hbytes d36) (⟨rfl, hA.mv X5.warmed.alike hh5, l1, l2, hp⟩)
  obtain ⟨e8, z8⟩ := E8
  obtain ⟨rfl, N, n1, n2, n3, n4, n5, n6⟩ := NewArr.mv _ T5 s _ _ hh5.symm (Vm.Alike.refl _) rfl e8
  rw [hh5] at z8
  have hB1 := hB.keep X8.warmed.alike (n6 _ _ hB.1)
  have hne : s.heap.size ≠ a := (Nat.ne_of_lt (Array.getElem?_eq_some_iff.mp hB.1).1).symm
  have c9 : Steps p.tables e below (s₁.setTop (entryFrame m #[.ref a, .ref b, .int (Int32.ofNat o), .int (Int32.ofNat len), .null] 6)) (T8.setTop (mkF m 39 #[.val (.ref a), .val (.ref b), .val (.int (Int32.ofNat o)), .val (.int (Int32.ofNat len)), .val .null, .unset] [.ref s.heap.size])) := g8
  have c10 : Steps p.tables e below (s₁.setTop (entryFrame m #[.ref a, .ref b, .int (Int32.ofNat o), .int (Int32.ofNat len), .null] 6)) (T8.setTop (mkF m 45 #[.val (.ref a), .val (.ref b), .val (.int (Int32.ofNat o)), .val (.int (Int32.ofNat len)), .val .null, .val (.ref s.heap.size)] [.int (Int32.ofNat N.slots.size), .ref s.heap.size, .ref a])) := by
    have hc : Steps p.tables e below (s₁.setTop (entryFrame m #[.ref a, .ref b, .int (Int32.ofNat o), .int (Int32.ofNat len), .null] 6)) (T8.setTop (mkF m 45 #[.val (.ref a), .val (.ref b), .val (.int (Int32.ofNat o)), .val (.int (Int32.ofNat len)), .val .null, .val (.ref s.heap.size)] [.int (Int32.ofNat len), .ref s.heap.size, .ref a])) := c9.trans (by
      refine XS.astore X8.here hexec rfl (hb hbytes d39) rfl rfl rfl ?_
      refine XS.aloadN X8.here hexec rfl (hb hbytes d41) rfl rfl ?_
      refine XS.aload X8.here hexec rfl (hb hbytes d42) rfl rfl ?_
      refine XS.iloadN X8.here hexec rfl (hb hbytes d44) rfl ?_
      exact Steps.refl _)
    rw [n4]; exact hc
  obtain ⟨v11, T11, X11, E11, g11⟩ := X8.callS hexec (CodL.law l s.heap.size N) hown (wks W (staticW "java/lang/String" 47 CodL.yN)) (wk W CodL.tab) (W := 1) (Nat.le_of_ble_eq_true rfl) (Nat.le_of_ble_eq_true rfl) (Nat.le_refl _) (by show 0 + len + 0 ≤ len; omega) (g := (mkF m 45 #[.val (.ref a), .val (.ref b), .val (.int (Int32.ofNat o)), .val (.int (Int32.ofNat len)), .val .null, .val (.ref s.heap.size)] [.int (Int32.ofNat N.slots.size), .ref s.heap.size, .ref a])) rfl (by rw [hml]; rfl) c10 (argsL := [.ref s.heap.size, .int (Int32.ofNat N.slots.size)]) (rest := [.ref a]) rfl rfl (by show 2 * 0 + (1 + 0) ≤ _; decide) (hb hbytes d45) (⟨rfl, n1⟩)
  obtain ⟨rfl, q11⟩ := E11
  have hB11 := hB1.mv (X8.warmed.alike.symm.trans X11.warmed.alike) q11
  have c12 : Steps p.tables e below (s₁.setTop (entryFrame m #[.ref a, .ref b, .int (Int32.ofNat o), .int (Int32.ofNat len), .null] 6)) (T11.setTop (mkF m 48 #[.val (.ref a), .val (.ref b), .val (.int (Int32.ofNat o)), .val (.int (Int32.ofNat len)), .val .null, .val (.ref s.heap.size)] [.int 0, .ref a])) := g11
  obtain ⟨T13, X13, p13, bl13, sl13, st13⟩ := X11.finit hexec hown (wk W (.fieldLink "java/lang/String" 15 "java/lang/String" "coder" "B")) (Or.inr ⟨_, (wk W (.laysFinal "java/lang/String" "java/lang/String" "coder" "B"))⟩) (Or.inl ⟨rfl, hnm⟩) f2 (Or.inl rfl) hB11 (t := .byte) (by decide +kernel) rfl (g := (mkF m 48 #[.val (.ref a), .val (.ref b), .val (.int (Int32.ofNat o)), .val (.int (Int32.ofNat len)), .val .null, .val (.ref s.heap.size)] [.int 0, .ref a])) rfl (rest := []) rfl (hb hbytes d48)
  have c14 : Steps p.tables e below (s₁.setTop (entryFrame m #[.ref a, .ref b, .int (Int32.ofNat o), .int (Int32.ofNat len), .null] 6)) (T13.setTop (mkF m 54 #[.val (.ref a), .val (.ref b), .val (.int (Int32.ofNat o)), .val (.int (Int32.ofNat len)), .val .null, .val (.ref s.heap.size)] [.ref s.heap.size, .ref a])) := (c12.trans (st13 _ (Steps.refl _))).trans (by
    refine XS.aloadN X13.here hexec rfl (hb hbytes d51) rfl rfl ?_
    refine XS.aload X13.here hexec rfl (hb hbytes d52) rfl rfl ?_
    exact Steps.refl _)
  obtain ⟨T15, X15, p15, bl15, sl15, st15⟩ := X13.finit hexec hown (wk W (.fieldLink "java/lang/String" 9 "java/lang/String" "value" "[B")) (Or.inr ⟨_, (wk W (.laysFinal "java/lang/String" "java/lang/String" "value" "[B"))⟩) (Or.inl ⟨rfl, hnm⟩) f1 (Or.inl rfl) bl13 (t := (.array .byte)) (by decide +kernel) rfl (g := (mkF m 54 #[.val (.ref a), .val (.ref b), .val (.int (Int32.ofNat o)), .val (.int (Int32.ofNat len)), .val .null, .val (.ref s.heap.size)] [.ref s.heap.size, .ref a])) rfl (rest := []) rfl (hb hbytes d54)
  have c16 : Steps p.tables e below (s₁.setTop (entryFrame m #[.ref a, .ref b, .int (Int32.ofNat o), .int (Int32.ofNat len), .null] 6)) (T15.setTop (mkF m 57 #[.val (.ref a), .val (.ref b), .val (.int (Int32.ofNat o)), .val (.int (Int32.ofNat len)), .val .null, .val (.ref s.heap.size)] [])) := c14.trans (st15 _ (Steps.refl _))
  have ap := apart (Or.inr ⟨_, (wk W (.laysFinal "java/lang/String" "java/lang/String" "value" "[B"))⟩) (Or.inr ⟨_, (wk W (.laysFinal "java/lang/String" "java/lang/String" "coder" "B"))⟩) f1 f2 (t₁ := .array .byte) (t₂ := .byte) (by decide +kernel) (by decide +kernel) (by decide)
  have al := X8.warmed.alike.symm.trans X15.warmed.alike
  have n7 : T11.heap[s.heap.size]? = some N := by rw [q11]; exact n1.1
  exact ⟨T15, none, _, _, _, X15, by simp, rfl, by omega, (fun _ => rfl), ⟨rfl, _, N, bl15, ((Same.refl D _).set _ (by simp)).set _ (by simp), sl15, (Cell.slots_setSlot_ne _ ap).trans sl13, n1.keep al (p15.other hne (p13.other hne n7)), n2, by rw [al.findClass]; exact n3, n4, n5, fun y c h1 h2 => p15.other h1 (p13.other h1 (by rw [q11]; exact n6 y c h2)), by rw [p15.2.2, p13.2.2, q11]; exact z8⟩, fun fs hl => c16.trans (X15.returnOut hexec hret (hb hbytes d57) hl)⟩
end New4
namespace New1
def yN : MethodName := ⟨"java/lang/String", "<init>", "([C)V"⟩
abbrev yB : ByteArray := jdk_42_method_3_code
theorem d0 : decode yB 0 = .ok (.aload_n 0, 1) := by decide +kernel
theorem d1 : decode yB 1 = .ok (.aload_n 1, 1) := by decide +kernel
theorem d2 : decode yB 2 = .ok (.iconst 0, 1) := by decide +kernel
theorem d3 : decode yB 3 = .ok (.aload_n 1, 1) := by decide +kernel
theorem d4 : decode yB 4 = .ok (.arraylength, 1) := by decide +kernel
theorem d5 : decode yB 5 = .ok (.aconst_null, 1) := by decide +kernel
theorem d6 : decode yB 6 = .ok (.invokespecial 27, 3) := by decide +kernel
theorem d9 : decode yB 9 = .ok (.return_, 1) := by decide +kernel
def site : List Cond := [New4.tab] ++ initW "java/lang/String" 27 New4.yN
def tab : Cond := tabOf yN yB 2 none site
def P (a : Addr) (D : Cell) (fV fC : Field) (b : Addr) (A : Cell) (z : Int32) (args : Array Value) (s : State) : Prop := args = #[.ref a, .ref b] ∧ Blank "java/lang/String" a D s ∧ Found "java/lang/String" "value" "[B" fV s ∧ Found "java/lang/String" "coder" "B" fC s ∧ Ch b A s ∧ StaticIs s "java/lang/String" "COMPACT_STRINGS" "Z" (.int z) ∧ ¬ z = 0 ∧ 0 < A.slots.size ∧ A.slots.size ≤ 536870912 ∧ ∀ i, i < A.slots.size → ¬ 255 < cv A i
def E (a : Addr) (D : Cell) (fV fC : Field) (A : Cell) (r : Option Value) (s u : State) : Prop := Got a D fV fC A 0 A.slots.size r s u
/-- new String(chars), not empty, no char above 255: a Latin-1 String of their low bytes -/
theorem law (l : Launch) (a : Addr) (D : Cell) (fV fC : Field) (b : Addr) (A : Cell) (z : Int32) : Law l yN 2 1 3 52 yB 2 none site (P a D fV fC b A z) (E a D fV fC A) [⟨a, fC.slot⟩, ⟨a, fV.slot⟩] 1 A.slots.size := by
  refine Law.of_walk (plainFor_of_name (by decide +kernel)) (by decide +kernel) (by decide +kernel) (by decide) (fun _ _ h => by rw [h.1]; rfl) (fun _ U U' hal hh h => ⟨h.1, h.2.1.mv hal hh, h.2.2.1.al hal, h.2.2.2.1.al hal, h.2.2.2.2.1.mv hal hh, h.2.2.2.2.2.1.there hal hh, h.2.2.2.2.2.2⟩) (fun r U U' V V' h1 hal h2 h => Got.mv r U U' V V' h1 hal h2 h) ?_
  intro p e s m args below meth c s₁ X0 hexec hbytes hml hret hlk hnm hown hh0 W hP
  obtain ⟨rfl, hB, f1, f2, hA, s1, hz, l0, l2, hp⟩ := hP
  have c1 : Steps p.tables e below (s₁.setTop (entryFrame m #[.ref a, .ref b] 2)) (s₁.setTop (mkF m 0 #[.val (.ref a), .val (.ref b)] [])) := entry rfl
  have c2 : Steps p.tables e below (s₁.setTop (entryFrame m #[.ref a, .ref b] 2)) (s₁.setTop (mkF m 6 #[.val (.ref a), .val (.ref b)] [.null, .int (Int32.ofNat A.slots.size), .int 0, .ref b, .ref a])) := c1.trans (by
    refine XS.aloadN X0.here hexec rfl (hb hbytes d0) rfl rfl ?_
    refine XS.aloadN X0.here hexec rfl (hb hbytes d1) rfl rfl ?_
    refine iconstV X0.here hexec rfl 0 (hb hbytes d2) (by decide) ?_
    refine XS.aloadN X0.here hexec rfl (hb hbytes d3) rfl rfl ?_
    refine X0.alen hexec (hA.1.mv X0.warmed.alike hh0) rfl rfl (hb hbytes d4) ?_
    refine XS.aconstNull X0.here hexec rfl (hb hbytes d5) ?_
    exact Steps.refl _)
  obtain ⟨v3, T3, X3, E3, g3⟩ := X0.callN hexec (New4.law l a D fV fC b A z 0 A.slots.size) rfl hown (wks W (initW "java/lang/String" 27 New4.yN)) (W New4.tab (by simp only [site, List.mem_cons, List.mem_append, true_or, or_true])) (W := 0) (Nat.le_of_ble_eq_true rfl) (Nat.le_of_ble_eq_true rfl) (Nat.le_refl _) (by show 0 + A.slots.size ≤ A.slots.size; omega) (g := (mkF m 6 #[.val (.ref a), .val (.ref b)] [.null, .int (Int32.ofNat A.slots.size), .int (Int32.ofNat 0), .ref b, .ref a])) rfl (by rw [hml]; rfl) c2 (argsL := [.ref b, .int (Int32.ofNat 0), .int (Int32.ofNat A.slots.size), .null]) (rest := []) rfl rfl (by show 2 * 0 + 0 ≤ _; decide) (hb hbytes d6) (⟨rfl, hB.mv X0.warmed.alike hh0, f1.al X0.warmed.alike, f2.al X0.warmed.alike, hA.mv X0.warmed.alike hh0, s1.there X0.warmed.alike hh0, hz, l0, by omega, l2, fun i hi => by rw [Nat.zero_add]; exact hp i hi⟩)
  have e0 := Got.mv _ s₁ s _ _ hh0.symm (Vm.Alike.refl _) rfl E3
  obtain rfl := e0.1
  have c4 : Steps p.tables e below (s₁.setTop (entryFrame m #[.ref a, .ref b] 2)) (T3.setTop (mkF m 9 #[.val (.ref a), .val (.ref b)] [])) := g3
  exact ⟨T3, none, _, _, _, X3, by simp, rfl, by omega, (fun _ => rfl), e0, fun fs hl => c4.trans (X3.returnOut hexec hret (hb hbytes d9) hl)⟩
theorem pays {l : Launch} {R : Room} {p : Program} {e : Env} {below : List Frame} {s : State} {sargs : Array Value} {len W : Nat} (a : Addr) (D : Cell) (fV fC : Field) (b : Addr) (A : Cell) (z : Int32) (htab : tab.before sargs s = true) (hfr : 4 ≤ R.frames) (hlo : W + 65 ≤ R.locals) :
    Back l R p e below s sargs yN len W (fun A₁ a₁ => A₁.cells + 1 ≤ R.cells ∧ A₁.slots + A.slots.size ≤ R.slots ∧ P a D fV fC b A z a₁ A₁.U) (fun A₁ _ v₁ B₁ => E a D fV fC A v₁ A₁.U B₁.U ∧ B₁.locs = A₁.locs ++ [⟨a, fC.slot⟩, ⟨a, fV.slot⟩] ∧ B₁.cells = A₁.cells + 1 ∧ B₁.slots = A₁.slots + A.slots.size) :=
  (law l a D fV fC b A z).pays htab hfr (by omega)
end New1
/-- the byte, read back as charAt reads it, is the char -/
theorem lo8_mask {x : Int32} (h0 : ¬ x < 0) (h1 : ¬ 255 < x) : lo8 x &&& 255 = x := by
  have t : ∀ k : Fin 256, lo8 (Int32.ofNat k.val) &&& 255 = Int32.ofNat k.val := by decide +kernel
  rw [Int32.lt_iff_toInt_lt] at h0 h1
  have e0 : (0 : Int32).toInt = 0 := rfl
  have e1 : (255 : Int32).toInt = 255 := rfl
  obtain ⟨k, hk⟩ : ∃ k : Nat, x.toInt = k := ⟨x.toInt.toNat, by omega⟩
  have hx : x = Int32.ofNat k := Int32.toInt_inj.mp (by rw [hk, Int32.toInt_ofNat_small (by omega)])
  rw [hx]
  exact t ⟨k, by omega⟩
end StrChars
namespace StrChars.Road
open Jvm Sem ClassFile Op Lib Jvm.Stand Jvm.Free Jvm.Free.XT
open Jvm.Lib.Cold (StaticIs)
abbrev ST : String := "java/lang/String"
/-- every table word that New1's law asks, flat -/
abbrev words : List Jvm.Cond := [.code New1.yN New1.yB 2 none, .initialized ST, .methodLink ST 27 New4.yN, .instanceMethod New4.yN,
  .code New4.yN New4.yB 6 none, .fieldLink ST 38 ST "COMPACT_STRINGS" "Z", .laysFinal ST ST "value" "[B", .fieldLink ST 9 ST "value" "[B", .laysFinal ST ST "coder" "B", .fieldLink ST 15 ST "coder" "B",
  .methodLink ST 1 Lib.objectInit, .instanceMethod Lib.objectInit, .code Lib.objectInit ⟨#[0xb1]⟩ 1 none, .methodLink ST 177 Cmp3.yN, .static Cmp3.yN, .methodLink ST 47 CodL.yN, .static CodL.yN,
  .code Cmp3.yN Cmp3.yB 6 (some (.array .byte)), .initialized U16, .arrayClass .byte, .methodLink U16 115 Cmp5.yN, .static Cmp5.yN, .code Cmp5.yN Cmp5.yB 7 (some .int), .code CodL.yN CodL.yB 2 (some .byte)]
theorem tab_of {a : Array Value} {s : State} (h : ∀ w ∈ words, w.before a s = true) : New1.tab.before a s = true := by
  have h5 : Cmp5.tab.before a s = true := unparts (wk h (.code Cmp5.yN Cmp5.yB 7 (some .int))) (wks h (.initialized Cmp5.yN.cls :: Cmp5.site))
  have hc : CodL.tab.before a s = true := unparts (wk h (.code CodL.yN CodL.yB 2 (some .byte))) (wks h (.initialized CodL.yN.cls :: CodL.site))
  have q5 : ∀ w ∈ Cmp5.tab :: words, w.before a s = true := fun w hw => (List.mem_cons.mp hw).elim (fun e => e ▸ h5) (h w)
  have h3 : Cmp3.tab.before a s = true := unparts (wk q5 (.code Cmp3.yN Cmp3.yB 6 (some (.array .byte)))) (wks q5 (.initialized Cmp3.yN.cls :: Cmp3.site))
  have q3 : ∀ w ∈ Cmp3.tab :: CodL.tab :: words, w.before a s = true := fun w hw => (List.mem_cons.mp hw).elim (fun e => e ▸ h3) fun hw => (List.mem_cons.mp hw).elim (fun e => e ▸ hc) (h w)
  have h4 : New4.tab.before a s = true := unparts (wk q3 (.code New4.yN New4.yB 6 none)) (wks q3 (.initialized New4.yN.cls :: New4.site))
  have q4 : ∀ w ∈ New4.tab :: words, w.before a s = true := fun w hw => (List.mem_cons.mp hw).elim (fun e => e ▸ h4) (h w)
  exact unparts (wk q4 (.code New1.yN New1.yB 2 none)) (wks q4 (.initialized New1.yN.cls :: New1.site))
/-- the words ride from the start Z to the walk's own state -/
theorem moved {Z s : State} {a0 args : Array Value} (hZ : Z.Warmed39 s.vm) (hw : ∀ d ∈ words, d.before a0 Z = true) : ∀ d ∈ words, d.before args s = true := fun d hd => by
  have q := hw d hd
  have t : ∀ d ∈ words, d = .arrayClass .byte ∨ (d.onTables && d.keepsFace) = true := by decide +kernel
  rcases t d hd with rfl | t
  · exact RoadKit.mvA hZ q
  · exact RoadKit.mv hZ q t
/-- WHAT COMES BACK, over the tables of the start Z: h the heap at the call, h' behind it -/
def Q (Z : State) (x : Addr) (A : Cell) (h : Heap) (v : Option Value) (h' : Heap) (L : List Loc) : Prop := v = none ∧ (∀ y ∈ L, y.base = x) ∧ RoadKit.Keep h h' [x] ∧ h'.size = h.size + 1 ∧ RoadKit.Exa Z h' x ST ∧ RoadKit.Fld Z h' x ST "value" "[B" (.ref h.size) ∧ RoadKit.Fld Z h' x ST "coder" "B" (.int 0) ∧
  (∃ V : Cell, RoadKit.Arr Z h' h.size V .byte ∧ V.vm = .none ∧ Z.vm.findClass "[B" = some V.cls ∧ V.slots.size = A.slots.size ∧ ∀ j, j < A.slots.size → V.slots[j]? = some (.int (lo8 (cv A j)))) ∧
  ∀ (O n d : String) (w : Value), RoadKit.Fld Z h x O n d w → RoadKit.slotOf Z O n d ≠ RoadKit.slotOf Z ST "value" "[B" → RoadKit.slotOf Z O n d ≠ RoadKit.slotOf Z ST "coder" "B" → RoadKit.Fld Z h' x O n d w
/-- **new String(chars) AT A CALL, IN THE ROAD'S FORM**: for specialBack behind newO: x the fresh String, b the char[] with the cell A -/
theorem back {p : Program} {l : Launch} {e : Env} {R : Room} {s : State} {args : Array Value} {below : List Frame} {len W : Nat} {Z : State} {a0 : Array Value} {h : Heap} (hZ : Z.Warmed39 s.vm) (hw : ∀ d ∈ words, d.before a0 Z = true) {kI : Nat} (wi : (Jvm.Cond.instantiable ST kI).before a0 Z = true)
    {x b : Addr} {A : Cell} {z : Int32} {v0 c0 : Value} (E : RoadKit.Exa Z h x ST) (V : RoadKit.Fld Z h x ST "value" "[B" v0) (C : RoadKit.Fld Z h x ST "coder" "B" c0) (K : RoadKit.Arr Z h b A .char) (hty : Typed .char A) (S : RoadKit.Sta Z h ST "COMPACT_STRINGS" "Z" (.int z)) (hz : ¬ z = 0)
    (l0 : 0 < A.slots.size) (l2 : A.slots.size ≤ 536870912) (hp : ∀ i, i < A.slots.size → ¬ 255 < cv A i) (hfr : 4 ≤ R.frames) (hlo : W + 65 ≤ R.locals) :
    Back l R p e below s args New1.yN len W (fun P a => a = #[.ref x, .ref b] ∧ P.U.heap = h ∧ P.cells + 1 ≤ R.cells ∧ P.slots + A.slots.size ≤ R.slots)
      (fun P _ v B => ∃ L, Q Z x A h v B.U.heap L ∧ B.locs = P.locs ++ L ∧ B.cells = P.cells + 1 ∧ B.slots = P.slots + A.slots.size) := by
  intro m meth c P g ig mk a X hg hsize hdg hW hn hp'
  obtain ⟨rfl, rfl, r1, r2⟩ := hp'
  have al : Z.vm.Alike P.U.vm := hZ.alike.trans X.warmed.alike
  obtain ⟨D, cfV, kV, iV, fV, hD, gV, stV, knV, obV, asV, slV⟩ := id V
  obtain ⟨D', cfC, kC, iC, fC, hD', gC, stC, -, -, asC, slC⟩ := id C
  cases hD.symm.trans hD'
  obtain ⟨D2, kD, e1, e2, e3, e4, e5⟩ := id E
  cases hD.symm.trans e1
  obtain ⟨c2, k2, i1, i2, i3, -⟩ := Cond.instantiable_spec wi
  cases e2.symm.trans i1
  cases e3.symm.trans i2
  obtain ⟨kU, u1, u2⟩ := al.2.2 _ _ e3
  have hB : Blank ST x D P.U := ⟨hD, ⟨knV, fun q hq => by rw [hq] at obV; cases obV⟩, by rw [al.findClass]; exact e2, kU, u1, by rw [u2]; exact i3, by rw [u2]; exact e5 i3⟩
  have F1 : Found ST "value" "[B" fV P.U := ⟨SBG.found_only al ⟨cfV, kV, iV, gV⟩, stV⟩
  have F2 : Found ST "coder" "B" fC P.U := ⟨SBG.found_only al ⟨cfC, kC, iC, gC⟩, stC⟩
  have hA : Ch b A P.U := ⟨⟨K.1, State.isArrayOf_alike al K.2.1, K.2.2, by omega⟩, hty⟩
  have hS : StaticIs P.U ST "COMPACT_STRINGS" "Z" (.int z) := by
    obtain ⟨cfS, iS, kS, fS, st, cS, t1, t2, t3, t4, t5, t6, t7⟩ := S
    exact StaticIs.there (s := { Z with heap := P.U.heap }) ⟨cfS, iS, kS, fS, st, cS, t1, t2, t3, t4, t5, (fun q => by rw [q] at t6; cases t6), t7⟩ al rfl
  obtain ⟨v, B, X', ⟨⟨hv, E', V', q1, q2, q3, q4, q5, q6, q7, q8, q9, q10, q11⟩, hl, hc, hs⟩, st⟩ := New1.pays x D fV fC b A z (tab_of (moved hZ hw)) hfr hlo m meth c P g ig mk _ X hg hsize hdg hW hn ⟨r1, r2, rfl, hB, F1, F2, hA, hS, hz, l0, l2, hp⟩
  have al' : Z.vm.Alike B.U.vm := hZ.alike.trans X'.warmed.alike
  have hsz : E'.slots.size = D.slots.size := by
    obtain ⟨-, -, -, kB, w1, w2, w3⟩ := q1
    obtain ⟨kB', y1, y2⟩ := al'.2.2 _ _ e3
    rw [q2.2.1] at w1
    cases w1.symm.trans y1
    rw [w3, e5 i3, y2]
  refine ⟨v, B, X', ⟨_, ⟨hv, ?_, ⟨by omega, fun y cy hy hn' => q10 y cy (by simpa using hn') hy, fun y cy hy => ?_⟩, q11, ⟨E', _, q1.1, by rw [q2.2.1]; exact e2, by rw [q2.2.1]; exact e3, by rw [q2.1]; exact obV, fun _ => by rw [hsz]; exact e5 i3⟩,
    ⟨E', cfV, kV, iV, fV, q1.1, gV, stV, by rw [q2.1]; exact knV, by rw [q2.1]; exact obV, by rw [q2.2.1]; exact asV, q3⟩, ⟨E', cfC, kC, iC, fC, q1.1, gC, stC, by rw [q2.1]; exact knV, by rw [q2.1]; exact obV, by rw [q2.2.1]; exact asC, q4⟩,
    ⟨V', ⟨q5.1, State.isArrayOf_alike al'.symm q5.2.1, q5.2.2.1⟩, q6, by rw [← al'.findClass]; exact q7, q8, fun j hj => by have := q9 j hj; rwa [Nat.zero_add] at this⟩, fun O n d w F n1 n2 => ?_⟩, hl, hc, hs⟩, st⟩
  · intro y hy
    simp only [List.mem_cons, List.not_mem_nil, or_false] at hy
    rcases hy with rfl | rfl <;> rfl
  · by_cases q : y = x
    · subst q
      cases hD.symm.trans hy
      exact ⟨E', q1.1, q2.2.1, q2.1, hsz⟩
    · exact ⟨cy, q10 y cy q hy, rfl, rfl, rfl⟩
  · obtain ⟨D3, cf, k, i, f, g1, g2, g3, g4, g5, g6, g7⟩ := F
    cases hD.symm.trans g1
    simp only [RoadKit.slotOf, g2, gV, gC, Option.map_some, Option.getD_some] at n1 n2
    exact ⟨E', cf, k, i, f, q1.1, g2, g3, by rw [q2.1]; exact g4, by rw [q2.1]; exact g5, by rw [q2.2.1]; exact g6, by rw [q2.2.2 f.slot (by simp [n1, n2])]; exact g7⟩
end StrChars.Road
namespace StrChars.Road
open Jvm Sem ClassFile Op Lib Jvm.Stand Jvm.Free Jvm.Free.XT
/-- WHAT COMES BACK, the byte[] as a list of values -/
def QA (Z : State) (x : Addr) (zn : Int32) (cs : List Int32) (h : Heap) (v : Option Value) (h' : Heap) (L : List Loc) : Prop := v = none ∧ (∀ y ∈ L, y.base = x) ∧ RoadKit.Keep h h' [x] ∧ h'.size = h.size + 1 ∧ RoadKit.Exa Z h' x ST ∧ RoadKit.Fld Z h' x ST "value" "[B" (.ref h.size) ∧ RoadKit.Fld Z h' x ST "coder" "B" (.int 0) ∧
  (∃ kb, Z.vm.findClass "[B" = some kb ∧ RoadKit.Arv Z h' h.size kb .byte zn (cs.map fun c => .int (lo8 c)) (.int 0)) ∧
  ∀ (O n d : String) (w : Value), RoadKit.Fld Z h x O n d w → RoadKit.slotOf Z O n d ≠ RoadKit.slotOf Z ST "value" "[B" → RoadKit.slotOf Z O n d ≠ RoadKit.slotOf Z ST "coder" "B" → RoadKit.Fld Z h' x O n d w
/-- **new String(chars) AT A CALL, THE ARRAYS AS LISTS**: the char[] at b holds cs, not empty, no char above 255 -/
theorem backArv {p : Program} {l : Launch} {e : Env} {R : Room} {s : State} {args : Array Value} {below : List Frame} {len W : Nat} {Z : State} {a0 : Array Value} {h : Heap} (hZ : Z.Warmed39 s.vm) (hw : ∀ d ∈ words, d.before a0 Z = true) {kI : Nat} (wi : (Jvm.Cond.instantiable ST kI).before a0 Z = true)
    {x b : Addr} {k : ClassId} {zn z : Int32} {cs : List Int32} {dv v0 c0 : Value} (E : RoadKit.Exa Z h x ST) (V : RoadKit.Fld Z h x ST "value" "[B" v0) (C : RoadKit.Fld Z h x ST "coder" "B" c0) (K : RoadKit.Arv Z h b k .char zn (cs.map Value.int) dv) (S : RoadKit.Sta Z h ST "COMPACT_STRINGS" "Z" (.int z)) (hz : ¬ z = 0)
    (hlen : zn.toNatClampNeg = cs.length) (h0 : 0 < cs.length) (hbig : cs.length ≤ 536870912) (hall : ∀ c ∈ cs, ¬ 255 < c) (hfr : 4 ≤ R.frames) (hlo : W + 65 ≤ R.locals) :
    Back l R p e below s args New1.yN len W (fun P a => a = #[.ref x, .ref b] ∧ P.U.heap = h ∧ P.cells + 1 ≤ R.cells ∧ P.slots + cs.length ≤ R.slots)
      (fun P _ v B => ∃ L, QA Z x zn cs h v B.U.heap L ∧ B.locs = P.locs ++ L ∧ B.cells = P.cells + 1 ∧ B.slots = P.slots + cs.length) := by
  obtain ⟨A, K1, K2, K3, K4, K5, K6⟩ := K
  have e : A.slots.size = cs.length := K3.trans hlen
  have hat : ∀ (i : Nat) (hi : i < cs.length), A.slots[i]? = some (.int cs[i]) := fun i hi => by rw [K5 i (by omega)]; simp [List.getD_eq_getElem?_getD, hi]
  have hcv : ∀ (i : Nat) (hi : i < cs.length), cv A i = cs[i] := fun i hi => by unfold cv; rw [hat i hi]
  have hty : Typed .char A := fun i v hv => by
    have hi : i < A.slots.size := (Array.getElem?_eq_some_iff.mp hv).1
    have q := K5 i hi
    rw [hv] at q
    rw [Option.some.inj q]
    exact K6 i hi
  refine Back.mono (back hZ hw wi E V C K1 hty S hz (by omega) (by omega) (fun i hi => by rw [hcv i (by omega)]; exact hall _ (List.getElem_mem _)) hfr hlo) (fun P a hp => ⟨hp.1, hp.2.1, hp.2.2.1, by rw [e]; exact hp.2.2.2⟩) (fun P a v B hp hq => ?_)
  obtain ⟨L, ⟨q1, q2, q3, q4, q5, q6, q7, ⟨V', v1, v2, v3, v4, v5⟩, q9⟩, hl, hc, hs⟩ := hq
  refine ⟨L, ⟨q1, q2, q3, q4, q5, q6, q7, ⟨V'.cls, v3, V', v1, rfl, by rw [v4, e, hlen], K4, fun i hi => ?_, fun i hi => ?_⟩, q9⟩, hl, hc, by rw [hs, e]⟩
  · have hi' : i < cs.length := by omega
    rw [v5 i (by omega), hcv i hi']; simp [List.getD_eq_getElem?_getD, hi']
  · have hi' : i < cs.length := by omega
    simp only [List.getD_eq_getElem?_getD, List.getElem?_map, List.getElem?_eq_getElem hi', Option.map_some, Option.getD_some]
    exact fits_lo8 _
end StrChars.Road
namespace StrChars.Road
open Jvm Sem ClassFile Op Lib Jvm.Stand Jvm.Free Jvm.Free.XT
/-- WHAT COMES BACK, in the writer's own shape -/
def QV (Z : State) (x : Addr) (N : Int32) (bs : List Int32) (h : Heap) (n0 : Nat) (v : Option Value) (h' : Heap) (L : List Loc) : Prop := v = none ∧ RoadKit.Fr n0 L ∧ RoadKit.Keep h h' [x] ∧ RoadKit.Exa Z h' x ST ∧ RoadKit.Fld Z h' x ST "coder" "B" (.int 0) ∧
  ∃ (t : Addr) (kb : ClassId), n0 ≤ t ∧ h.size ≤ t ∧ ¬ t = x ∧ RoadKit.Fld Z h' x ST "value" "[B" (.ref t) ∧ RoadKit.Arv Z h' t kb .byte N (bs.map Value.int) (.int 0)
/-- **new String(chars) AT A CALL, FOR THE WRITER**: a char[] of n known ints, each 0 to 255 -/
theorem backV {p : Program} {l : Launch} {e : Env} {R : Room} {s : State} {args : Array Value} {below : List Frame} {len W : Nat} {Z : State} {a0 : Array Value} {h : Heap} (hZ : Z.Warmed39 s.vm) (hw : ∀ d ∈ words, d.before a0 Z = true) {kI : Nat} (wi : (Jvm.Cond.instantiable ST kI).before a0 Z = true)
    {x b : Addr} {kC : ClassId} {cs bs : List Int32} {d v0 c0 : Value} {z N : Int32} {n n0 : Nat} (hx0 : n0 ≤ x) (hh0 : n0 ≤ h.size) (E : RoadKit.Exa Z h x ST) (V : RoadKit.Fld Z h x ST "value" "[B" v0) (C : RoadKit.Fld Z h x ST "coder" "B" c0) (K : RoadKit.Arv Z h b kC .char N (cs.map Value.int) d) (S : RoadKit.Sta Z h ST "COMPACT_STRINGS" "Z" (.int z)) (hz : ¬ z = 0)
    (hn : cs.length = n) (hN : N = Int32.ofNat n) (l0 : 0 < n) (l2 : n ≤ 4000) (hp : ∀ c ∈ cs, ¬ c < 0 ∧ ¬ (255 : Int32) < c) (hb : bs = cs.map (fun c => c.toInt8.toInt32)) (hfr : 4 ≤ R.frames) (hlo : W + 65 ≤ R.locals) :
    Back l R p e below s args (⟨"java/lang/String", "<init>", "([C)V"⟩ : MethodName) len W (fun P a => a = #[.ref x, .ref b] ∧ P.U.heap = h ∧ P.cells + 1 ≤ R.cells ∧ P.slots + n ≤ R.slots)
      (fun P _ v B => ∃ L, QV Z x N bs h n0 v B.U.heap L ∧ B.locs = P.locs ++ L ∧ B.cells = P.cells + 1 ∧ B.slots = P.slots + n) := by
  subst hn hN hb
  refine Back.mono (backArv hZ hw wi E V C K S hz (n32 (by omega)) l0 (by omega) (fun c hc => (hp c hc).2) hfr hlo) (fun P a hp => hp) (fun P a v B hp hq => ?_)
  obtain ⟨L, ⟨q1, q2, q3, q4, q5, q6, q7, ⟨kb, v1, v2⟩, q9⟩, hl, hc, hs⟩ := hq
  exact ⟨L, ⟨q1, fun y hy => by rw [q2 y hy]; exact hx0, q3, q5, q7, h.size, kb, hh0, Nat.le_refl _, Nat.ne_of_gt E.lt, q6, by rw [List.map_map]; exact v2⟩, hl, hc, hs⟩
end StrChars.Road
namespace StrChars
open Jvm Sem ClassFile Op Lib Jvm.Stand Jvm.Free.XT Jvm.Free.ALB Jvm.Free.JM Jvm.Free
open Jvm.Lib.Cold (StaticIs)
def hi8 (x : Int32) : Int32 := lo8 (x >>> ((8 : Int32) &&& 31))
/-- what StringUTF16.getChar makes of two bytes -/
def pairCh (u v : Int32) : Int32 := (((u &&& 255) <<< ((0 : Int32) &&& 31)) ||| ((v &&& 255) <<< ((8 : Int32) &&& 31))).toUInt32.toUInt16.toUInt32.toInt32
theorem lo8_and (x : Int32) : (lo8 x &&& 255).toBitVec.toNat = x.toBitVec.toNat % 256 := by
  have h : (lo8 x).toBitVec = (x.toBitVec.signExtend 8).signExtend 32 := by rw [lo8, Int8.toBitVec_toInt32, Int32.toBitVec_toInt8]
  rw [Int32.toBitVec_and, BitVec.toNat_and, h]
  have e : ((x.toBitVec.signExtend 8).signExtend 32).toNat % 256 = x.toBitVec.toNat % 256 := by
    rw [BitVec.toNat_signExtend]
    have hlt := x.toBitVec.isLt
    simp only [BitVec.toNat_setWidth, BitVec.toNat_signExtend]
    split <;> split <;> omega
  rw [← e]
  exact Nat.and_two_pow_sub_one_eq_mod _ 8
theorem pair_says {c : Int32} (h0 : ¬ c < 0) (h1 : ¬ 65535 < c) : pairCh (lo8 c) (hi8 c) = c := by
  rw [Int32.lt_iff_toInt_lt] at h0 h1
  have e0 : (0 : Int32).toInt = 0 := rfl
  have e1 : (65535 : Int32).toInt = 65535 := rfl
  have hc : c.toInt = c.toBitVec.toNat := by
    have := c.toBitVec.isLt
    have e : c.toInt = c.toBitVec.toInt := rfl
    rw [e] at h0 h1
    rw [e]
    rw [BitVec.toInt_eq_toNat_cond] at h0 h1 ⊢
    split at h0 <;> split <;> omega
  have hn : c.toBitVec.toNat < 65536 := by omega
  have a1 := lo8_and c
  have a2 : (hi8 c &&& 255).toBitVec.toNat = c.toBitVec.toNat / 256 := by
    rw [hi8, lo8_and]
    have e : ((8 : Int32) &&& 31) = 8 := by decide
    rw [e, Int32.toBitVec_shiftRight]
    have e2 : ((8 : Int32).toBitVec.smod 32) = 8#32 := by decide
    rw [e2, BitVec.sshiftRight_eq', BitVec.toNat_sshiftRight_of_msb_false (by rw [BitVec.msb_eq_false_iff_two_mul_lt]; omega)]
    show c.toBitVec.toNat >>> 8 % 256 = _
    rw [Nat.shiftRight_eq_div_pow]
    omega
  unfold pairCh
  apply Int32.toBitVec_inj.mp
  apply BitVec.eq_of_toNat_eq
  have f0 : ((0 : Int32) &&& 31) = 0 := by decide
  have f8 : ((8 : Int32) &&& 31) = 8 := by decide
  rw [f0, f8]
  have g : (((lo8 c &&& 255) <<< (0 : Int32)) ||| ((hi8 c &&& 255) <<< (8 : Int32))).toBitVec.toNat = c.toBitVec.toNat := by
    rw [Int32.toBitVec_or, Int32.toBitVec_shiftLeft, Int32.toBitVec_shiftLeft]
    have s0 : ((0 : Int32).toBitVec.smod 32) = 0#32 := by decide
    have s8 : ((8 : Int32).toBitVec.smod 32) = 8#32 := by decide
    rw [s0, s8, BitVec.toNat_or]
    simp only [BitVec.shiftLeft_eq', BitVec.toNat_shiftLeft, a1, a2]
    show (c.toBitVec.toNat % 256) <<< 0 % 2 ^ 32 ||| (c.toBitVec.toNat / 256) <<< 8 % 2 ^ 32 = _
    rw [Nat.shiftLeft_zero, Nat.mod_eq_of_lt (show c.toBitVec.toNat % 256 < 2 ^ 32 by omega), Nat.mod_eq_of_lt (show (c.toBitVec.toNat / 256) <<< 8 < 2 ^ 32 by rw [Nat.shiftLeft_eq]; omega), Nat.or_comm, ← Nat.shiftLeft_add_eq_or_of_lt (by omega), Nat.shiftLeft_eq]
    omega
  show BitVec.toNat (((((lo8 c &&& 255) <<< (0 : Int32)) ||| ((hi8 c &&& 255) <<< (8 : Int32))).toBitVec.setWidth 16).setWidth 32) = _
  rw [BitVec.toNat_setWidth, BitVec.toNat_setWidth, g]
  omega
end StrChars
namespace StrChars
open Jvm Sem ClassFile Op Lib Jvm.Stand Jvm.Free.XT Jvm.Free.ALB Jvm.Free.JM Jvm.Free
open Jvm.Lib.Cold (StaticIs)
/-- the array's cell V codes the n chars f 0 .. f (n - 1) by the coder cd, as the JDK does: coder 1 just where some char is above 255 -/
def Cod (cd : Int32) (n : Nat) (f : Nat → Int32) (V : Cell) : Prop := (cd = 0 ∧ V.slots.size = n ∧ ∀ j, j < n → V.slots[j]? = some (.int (lo8 (f j))) ∧ ¬ 255 < f j) ∨ (cd = 1 ∧ V.slots.size = 2 * n ∧ (∀ j, j < n → V.slots[2 * j]? = some (.int (lo8 (f j))) ∧ V.slots[2 * j + 1]? = some (.int (hi8 (f j)))) ∧ ∃ j, j < n ∧ 255 < f j)
/-- **x is a String of the n chars f 0 .. f (n - 1)**, Latin-1 or UTF-16; its array at t has the cell V -/
def Txt (x t : Addr) (V : Cell) (cd : Int32) (n : Nat) (f : Nat → Int32) (U : State) : Prop := Exact "java/lang/String" x U ∧ Has x "java/lang/String" "value" "[B" (.ref t) U ∧ Has x "java/lang/String" "coder" "B" (.int cd) U ∧ XT.Arr .byte t V U ∧ Cod cd n f V ∧ ∀ j, j < n → ¬ f j < 0 ∧ ¬ 65535 < f j
theorem Txt.mv {x t : Addr} {V : Cell} {cd : Int32} {n : Nat} {f : Nat → Int32} {U U' : State} (h : Txt x t V cd n f U) (hal : U.vm.Alike U'.vm) (hh : U'.heap = U.heap) : Txt x t V cd n f U' := ⟨h.1.mv hal hh, h.2.1.mv hal hh, h.2.2.1.mv hal hh, h.2.2.2.1.mv hal hh, h.2.2.2.2⟩
end StrChars
namespace StrChars.Road
open Jvm Sem ClassFile Op Lib Jvm.Stand Jvm.Free Jvm.Free.XT
open Jvm.Lib.Cold (StaticIs)
theorem consq {a : Array Value} {s : State} {c : Jvm.Cond} {L : List Jvm.Cond} (h0 : c.before a s = true) (h : ∀ w ∈ L, w.before a s = true) : ∀ w ∈ c :: L, w.before a s = true := fun w hw => (List.mem_cons.mp hw).elim (fun e => e ▸ h0) (h w)
/-- the bytes of the chars cs, low before high -/
def wideBytes : List Int32 → List Value
  | [] => []
  | c :: cs => .int (lo8 c) :: .int (hi8 c) :: wideBytes cs
theorem wide_lo (d : Value) : ∀ (cs : List Int32) (j : Nat), j < cs.length → (wideBytes cs).getD (2 * j) d = .int (lo8 (cs.getD j 0))
  | [], j, h => absurd h (Nat.not_lt_zero j)
  | c :: cs, 0, _ => rfl
  | c :: cs, j + 1, h => by
    have q := wide_lo d cs j (by simpa using h)
    rw [show 2 * (j + 1) = 2 * j + 1 + 1 from by omega]
    simpa [wideBytes] using q
theorem wide_hi (d : Value) : ∀ (cs : List Int32) (j : Nat), j < cs.length → (wideBytes cs).getD (2 * j + 1) d = .int (hi8 (cs.getD j 0))
  | [], j, h => absurd h (Nat.not_lt_zero j)
  | c :: cs, 0, _ => rfl
  | c :: cs, j + 1, h => by
    have q := wide_hi d cs j (by simpa using h)
    rw [show 2 * (j + 1) + 1 = 2 * j + 1 + 1 + 1 from by omega]
    simpa [wideBytes] using q
theorem low_at (d : Value) (cs : List Int32) (j : Nat) (h : j < cs.length) : (cs.map fun c => Value.int (lo8 c)).getD j d = .int (lo8 (cs.getD j 0)) := by
  simp [List.getD_eq_getElem?_getD, h]
/-- an array of N2 bytes vs codes the chars cs by the coder cd -/
def CodA (cs : List Int32) (cd N2 : Int32) (vs : List Value) : Prop := (cd = 0 ∧ N2 = Int32.ofNat cs.length ∧ vs = (cs.map fun c => Value.int (lo8 c)) ∧ ∀ c ∈ cs, ¬ 255 < c) ∨ (cd = 1 ∧ N2 = Int32.ofNat (2 * cs.length) ∧ vs = wideBytes cs ∧ ∃ c ∈ cs, 255 < c)
theorem CodA.cod {cs : List Int32} {cd N2 : Int32} {vs : List Value} {V : Cell} (h : CodA cs cd N2 vs) (hn : 2 * cs.length < 2 ^ 31) (hs : V.slots.size = N2.toNatClampNeg) (hv : RoadKit.Has V vs (.int 0)) : Cod cd cs.length (fun j => cs.getD j 0) V := by
  rcases h with ⟨rfl, rfl, rfl, h⟩ | ⟨rfl, rfl, rfl, c, hc, hw⟩
  · rw [n32 (by omega)] at hs
    exact Or.inl ⟨rfl, hs, fun j hj => ⟨by rw [hv j (by omega), low_at _ _ _ hj], by
      have e : cs.getD j 0 = cs[j] := by simp [List.getD_eq_getElem?_getD, hj]
      show ¬ 255 < cs.getD j 0
      rw [e]; exact h _ (List.getElem_mem _)⟩⟩
  · rw [n32 (by omega)] at hs
    obtain ⟨j, hj, rfl⟩ := List.getElem_of_mem hc
    exact Or.inr ⟨rfl, hs, fun j hj => ⟨by rw [hv _ (by omega), wide_lo _ _ _ hj], by rw [hv _ (by omega), wide_hi _ _ _ hj]⟩, j, hj, by
      have e : cs.getD j 0 = cs[j] := by simp [List.getD_eq_getElem?_getD, hj]
      show 255 < cs.getD j 0
      rw [e]; exact hw⟩
/-- an object of exactly java/lang/String, its two fields found: as the laws ask it -/
theorem strObj {Z U : State} {a0 : Array Value} {kI : Nat} (wi : (Jvm.Cond.instantiable ST kI).before a0 Z = true) (al : Z.vm.Alike U.vm) {x : Addr} {v0 c0 : Value} (E : RoadKit.Exa Z U.heap x ST) (V : RoadKit.Fld Z U.heap x ST "value" "[B" v0) (C : RoadKit.Fld Z U.heap x ST "coder" "B" c0) :
    ∃ (D : Cell) (fV fC : Field), Blank ST x D U ∧ Found ST "value" "[B" fV U ∧ Found ST "coder" "B" fC U ∧ D.slots[fV.slot]? = some v0 ∧ D.slots[fC.slot]? = some c0 ∧ RoadKit.slotOf Z ST "value" "[B" = fV.slot ∧ RoadKit.slotOf Z ST "coder" "B" = fC.slot := by
  obtain ⟨D, cfV, kV, iV, fV, hD, gV, stV, knV, obV, asV, slV⟩ := V
  obtain ⟨D', cfC, kC, iC, fC, hD', gC, stC, -, -, asC, slC⟩ := C
  cases hD.symm.trans hD'
  obtain ⟨D2, kD, e1, e2, e3, e4, e5⟩ := E
  cases hD.symm.trans e1
  obtain ⟨c2, k2, i1, i2, i3, -⟩ := Cond.instantiable_spec wi
  cases e2.symm.trans i1
  cases e3.symm.trans i2
  obtain ⟨kU, u1, u2⟩ := al.2.2 _ _ e3
  exact ⟨D, fV, fC, ⟨hD, ⟨knV, fun q hq => by rw [hq] at obV; cases obV⟩, by rw [al.findClass]; exact e2, kU, u1, by rw [u2]; exact i3, by rw [u2]; exact e5 i3⟩, ⟨SBG.found_only al ⟨cfV, kV, iV, gV⟩, stV⟩, ⟨SBG.found_only al ⟨cfC, kC, iC, gC⟩, stC⟩, slV, slC, by simp [RoadKit.slotOf, gV], by simp [RoadKit.slotOf, gC]⟩
theorem sta_is {Z U : State} (al : Z.vm.Alike U.vm) {C n d : String} {v : Value} (S : RoadKit.Sta Z U.heap C n d v) : StaticIs U C n d v := by
  obtain ⟨cfS, iS, kS, fS, st, cS, t1, t2, t3, t4, t5, t6, t7⟩ := S
  exact StaticIs.there (s := { Z with heap := U.heap }) ⟨cfS, iS, kS, fS, st, cS, t1, t2, t3, t4, t5, (fun q => by rw [q] at t6; cases t6), t7⟩ al rfl
end StrChars.Road
namespace StrChars
open Jvm Sem ClassFile Op Lib Jvm.Stand Jvm.Free.XT Jvm.Free.ALB Jvm.Free.JM Jvm.Free
open Jvm.Lib.Cold (StaticIs)
/-- what place i of a byte[]'s cell holds -/
def yv (A : Cell) (i : Nat) : Int32 := match A.slots[i]? with | some (.int x) => x | _ => 0
theorem yv_get {a : Addr} {A : Cell} {U : State} (h : XT.Arr .byte a A U) (ht : Typed .byte A) {i : Nat} (hi : i < A.slots.size) : A.slots[i]? = some (.int (yv A i)) := by
  have e := Array.getElem?_eq_getElem hi
  have f := ht i _ e
  unfold yv; rw [e]
  generalize A.slots[i] = v at f
  cases v <;> simp [fits] at f ⊢
/-- the two arrays are equal, place for place -/
def EqC (A B : Cell) : Prop := A.slots.size = B.slots.size ∧ ∀ i, i < A.slots.size → yv A i = yv B i
/-- a boolean that says whether p -/
def Says01 (q : Prop) (r : Option Value) (s u : State) : Prop := ∃ v : Int32, r = some (.int v) ∧ u.heap = s.heap ∧ ((v = 1 ∧ q) ∨ (v = 0 ∧ ¬ q))
theorem Says01.mv {q : Prop} : ∀ r (U U' V V' : State), U'.heap = U.heap → V.vm.Alike V'.vm → V'.heap = V.heap → Says01 q r U V → Says01 q r U' V' :=
  fun r U U' V V' h1 _ h2 ⟨v, a, b, c⟩ => ⟨v, a, by rw [h1, h2]; exact b, c⟩
namespace LEq
def yN : MethodName := ⟨"java/lang/StringLatin1", "equals", "([B[B)Z"⟩
abbrev yB : ByteArray := jdk_43_method_13_code
theorem d0 : decode yB 0 = .ok (.aload_n 0, 1) := by decide +kernel
theorem d1 : decode yB 1 = .ok (.arraylength, 1) := by decide +kernel
theorem d2 : decode yB 2 = .ok (.aload_n 1, 1) := by decide +kernel
theorem d3 : decode yB 3 = .ok (.arraylength, 1) := by decide +kernel
theorem d4 : decode yB 4 = .ok (.if_icmp (.ne) 30, 3) := by decide +kernel
theorem d7 : decode yB 7 = .ok (.iconst 0, 1) := by decide +kernel
theorem d8 : decode yB 8 = .ok (.istore_n 2, 1) := by decide +kernel
theorem d9 : decode yB 9 = .ok (.iload_n 2, 1) := by decide +kernel
theorem d10 : decode yB 10 = .ok (.aload_n 0, 1) := by decide +kernel
theorem d11 : decode yB 11 = .ok (.arraylength, 1) := by decide +kernel
theorem d12 : decode yB 12 = .ok (.if_icmp (.ge) 20, 3) := by decide +kernel
theorem d15 : decode yB 15 = .ok (.aload_n 0, 1) := by decide +kernel
theorem d16 : decode yB 16 = .ok (.iload_n 2, 1) := by decide +kernel
theorem d17 : decode yB 17 = .ok (.baload, 1) := by decide +kernel
theorem d18 : decode yB 18 = .ok (.aload_n 1, 1) := by decide +kernel
theorem d19 : decode yB 19 = .ok (.iload_n 2, 1) := by decide +kernel
theorem d20 : decode yB 20 = .ok (.baload, 1) := by decide +kernel
theorem d21 : decode yB 21 = .ok (.if_icmp (.eq) 5, 3) := by decide +kernel
theorem d24 : decode yB 24 = .ok (.iconst 0, 1) := by decide +kernel
theorem d25 : decode yB 25 = .ok (.ireturn, 1) := by decide +kernel
theorem d26 : decode yB 26 = .ok (.iinc 2 1, 3) := by decide +kernel
theorem d29 : decode yB 29 = .ok (.goto (-20), 3) := by decide +kernel
theorem d32 : decode yB 32 = .ok (.iconst 1, 1) := by decide +kernel
theorem d33 : decode yB 33 = .ok (.ireturn, 1) := by decide +kernel
theorem d34 : decode yB 34 = .ok (.iconst 0, 1) := by decide +kernel
theorem d35 : decode yB 35 = .ok (.ireturn, 1) := by decide +kernel
def site : List Cond := []
def tab : Cond := tabOf yN yB 3 (some .boolean) site
def P (a : Addr) (A : Cell) (b : Addr) (B : Cell) (args : Array Value) (s : State) : Prop := args = #[.ref a, .ref b] ∧ XT.Arr .byte a A s ∧ Typed .byte A ∧ XT.Arr .byte b B s ∧ Typed .byte B
/-- whether two byte[] are equal, place for place -/
theorem law (l : Launch) (a : Addr) (A : Cell) (b : Addr) (B : Cell) : Law l yN 2 2 0 0 yB 3 (some .boolean) site (P a A b B) (Says01 (EqC A B)) [] 0 0 := by
  refine Law.of_walk (plainFor_of_name (by decide +kernel)) (by decide +kernel) (by decide +kernel) (by decide) (fun _ _ h => by rw [h.1]; rfl) (fun _ U U' hal hh h => ⟨h.1, h.2.1.mv hal hh, h.2.2.1, h.2.2.2.1.mv hal hh, h.2.2.2.2⟩) (fun r U U' V V' h1 hal h2 h => Says01.mv r U U' V V' h1 hal h2 h) ?_
  intro p e s m args below meth c s₁ X0 hexec hbytes hml hret hlk hnm hown hh0 W hP
  obtain ⟨rfl, hA, tA, hB, tB⟩ := hP
  have a31 := hA.2.2.2
  have b31 := hB.2.2.2
  have hA0 := hA.mv X0.warmed.alike hh0
  have hB0 := hB.mv X0.warmed.alike hh0
  have c1 : Steps p.tables e below (s₁.setTop (entryFrame m #[.ref a, .ref b] 3)) (s₁.setTop (mkF m 0 #[.val (.ref a), .val (.ref b), .unset] [])) := entry rfl
  have c2 : Steps p.tables e below (s₁.setTop (entryFrame m #[.ref a, .ref b] 3)) (s₁.setTop (mkF m 4 #[.val (.ref a), .val (.ref b), .unset] [.int (Int32.ofNat B.slots.size), .int (Int32.ofNat A.slots.size)])) := c1.trans (by
    refine XS.aloadN X0.here hexec rfl (hb hbytes d0) rfl rfl ?_
    refine X0.alen hexec hA0 rfl rfl (hb hbytes d1) ?_
    refine XS.aloadN X0.here hexec rfl (hb hbytes d2) rfl rfl ?_
    refine X0.alen hexec hB0 rfl rfl (hb hbytes d3) ?_
    exact Steps.refl _)
  by_cases hs : A.slots.size = B.slots.size
  · have c3 : Steps p.tables e below (s₁.setTop (entryFrame m #[.ref a, .ref b] 3)) (s₁.setTop (mkF m 9 #[.val (.ref a), .val (.ref b), .val (.int 0)] [])) := c2.trans (by
      refine XS.icmpNo X0.here hexec rfl (hb hbytes d4) rfl (ii_ne_f (by rw [hs])) ?_
      refine iconstV X0.here hexec rfl 0 (hb hbytes d7) (by decide) ?_
      refine XS.istoreN X0.here hexec rfl (hb hbytes d8) rfl rfl ?_
      exact Steps.refl _)
    have loop : ∀ (r i : Nat), i + r = A.slots.size → (∀ j, j < i → yv A j = yv B j) → Steps p.tables e below (s₁.setTop (entryFrame m #[.ref a, .ref b] 3)) (s₁.setTop (mkF m 9 #[.val (.ref a), .val (.ref b), .val (.int (Int32.ofNat i))] [])) → ∃ (pc : Nat) (Ls : Array Slot) (v : Int32), (pc = 25 ∨ pc = 33) ∧ ((v = 1 ∧ EqC A B) ∨ (v = 0 ∧ ¬ EqC A B)) ∧ Steps p.tables e below (s₁.setTop (entryFrame m #[.ref a, .ref b] 3)) (s₁.setTop (mkF m pc Ls [.int v])) := by
      intro r
      induction r with
      | zero =>
        intro i hi he cl
        exact ⟨33, _, 1, Or.inr rfl, Or.inl ⟨rfl, hs, fun j hj => he j (by omega)⟩, cl.trans (by
          refine XS.iloadN X0.here hexec rfl (hb hbytes d9) rfl ?_
          refine XS.aloadN X0.here hexec rfl (hb hbytes d10) rfl rfl ?_
          refine X0.alen hexec hA0 rfl rfl (hb hbytes d11) ?_
          refine XS.icmpYes X0.here hexec rfl (pc0 := 12) rfl (hb hbytes d12) rfl (ii_ge_t (nlt32 (by omega) (by omega))) (by decide) rfl ?_
          refine iconstV X0.here hexec rfl 1 (hb hbytes d32) (by decide) ?_
          exact Steps.refl _)⟩
      | succ r ih =>
        intro i hi he cl
        have c4 : Steps p.tables e below (s₁.setTop (entryFrame m #[.ref a, .ref b] 3)) (s₁.setTop (mkF m 21 #[.val (.ref a), .val (.ref b), .val (.int (Int32.ofNat i))] [.int (yv B i), .int (yv A i)])) := cl.trans (by
          refine XS.iloadN X0.here hexec rfl (hb hbytes d9) rfl ?_
          refine XS.aloadN X0.here hexec rfl (hb hbytes d10) rfl rfl ?_
          refine X0.alen hexec hA0 rfl rfl (hb hbytes d11) ?_
          refine XS.icmpNo X0.here hexec rfl (hb hbytes d12) rfl (ii_ge_f (lt32 (by omega) (by omega))) ?_
          refine XS.aloadN X0.here hexec rfl (hb hbytes d15) rfl rfl ?_
          refine XS.iloadN X0.here hexec rfl (hb hbytes d16) rfl ?_
          refine X0.aget hexec hA0 rfl (yv_get hA tA (i := i) (by omega)) rfl rfl (hb hbytes d17) ?_
          refine XS.aloadN X0.here hexec rfl (hb hbytes d18) rfl rfl ?_
          refine XS.iloadN X0.here hexec rfl (hb hbytes d19) rfl ?_
          refine X0.aget hexec hB0 rfl (yv_get hB tB (i := i) (by omega)) rfl rfl (hb hbytes d20) ?_
          exact Steps.refl _)
        by_cases hv : yv A i = yv B i
        · have c5 : Steps p.tables e below (s₁.setTop (entryFrame m #[.ref a, .ref b] 3)) (s₁.setTop (mkF m 9 #[.val (.ref a), .val (.ref b), .val (.int (Int32.ofNat i + 1))] [])) := c4.trans (by
            refine XS.icmpYes X0.here hexec rfl (pc0 := 21) rfl (hb hbytes d21) rfl (ii_eq_t hv) (by decide) rfl ?_
            refine iincV X0.here hexec rfl 1 (hb hbytes d26) (by decide) rfl rfl ?_
            refine XS.goto X0.here hexec rfl (pc0 := 29) rfl (hb hbytes d29) (by decide) rfl ?_
            exact Steps.refl _)
          rw [succ32] at c5
          exact ih (i + 1) (by omega) (fun j hj => by
            by_cases e : j = i
            · rw [e]; exact hv
            · exact he j (by omega)) c5
        · exact ⟨25, _, 0, Or.inl rfl, Or.inr ⟨rfl, fun q => hv (q.2 i (by omega))⟩, c4.trans (by
            refine XS.icmpNo X0.here hexec rfl (hb hbytes d21) rfl (ii_eq_f hv) ?_
            refine iconstV X0.here hexec rfl 0 (hb hbytes d24) (by decide) ?_
            exact Steps.refl _)⟩
    obtain ⟨pc, Ls, v, hpc, hv, cz⟩ := loop A.slots.size 0 (by omega) (fun j hj => absurd hj (Nat.not_lt_zero j)) c3
    have nv : narrow .boolean (.int v) = .int v := by rcases hv with ⟨rfl, -⟩ | ⟨rfl, -⟩ <;> rfl
    rcases hpc with rfl | rfl
    · exact ⟨s₁, some (.int v), _, _, _, X0, rfl, rfl, rfl, (fun h => by cases h), ⟨v, rfl, hh0, hv⟩, fun fs hl => cz.trans (X0.ireturnOut hexec hret nv (Or.inr (Or.inl rfl)) (hb hbytes d25) hl)⟩
    · exact ⟨s₁, some (.int v), _, _, _, X0, rfl, rfl, rfl, (fun h => by cases h), ⟨v, rfl, hh0, hv⟩, fun fs hl => cz.trans (X0.ireturnOut hexec hret nv (Or.inr (Or.inl rfl)) (hb hbytes d33) hl)⟩
  · have c3 : Steps p.tables e below (s₁.setTop (entryFrame m #[.ref a, .ref b] 3)) (s₁.setTop (mkF m 35 #[.val (.ref a), .val (.ref b), .unset] [.int 0])) := c2.trans (by
      refine XS.icmpYes X0.here hexec rfl (pc0 := 4) rfl (hb hbytes d4) rfl (ii_ne_t (ne32 a31 b31 hs)) (by decide) rfl ?_
      refine iconstV X0.here hexec rfl 0 (hb hbytes d34) (by decide) ?_
      exact Steps.refl _)
    exact ⟨s₁, some (.int 0), _, _, _, X0, rfl, rfl, rfl, (fun h => by cases h), ⟨0, rfl, hh0, Or.inr ⟨rfl, fun q => hs q.1⟩⟩, fun fs hl => c3.trans (X0.ireturnOut hexec hret rfl (Or.inr (Or.inl rfl)) (hb hbytes d35) hl)⟩
end LEq
theorem Cod.ty {cd : Int32} {n : Nat} {f : Nat → Int32} {V : Cell} (h : Cod cd n f V) : Typed .byte V := fun i v hv => by
  have hi : i < V.slots.size := (Array.getElem?_eq_some_iff.mp hv).1
  rcases h with ⟨-, k1, k2⟩ | ⟨-, k1, k2, -⟩
  · rw [(k2 i (by omega)).1] at hv; cases hv; exact fits_lo8 _
  · rcases Nat.mod_two_eq_zero_or_one i with e | e
    · obtain ⟨j, rfl⟩ : ∃ j, i = 2 * j := ⟨i / 2, by omega⟩
      rw [(k2 j (by omega)).1] at hv; cases hv; exact fits_lo8 _
    · obtain ⟨j, rfl⟩ : ∃ j, i = 2 * j + 1 := ⟨i / 2, by omega⟩
      rw [(k2 j (by omega)).2] at hv; cases hv; exact fits_lo8 _
/-- the same text -/
def SameT (n : Nat) (f : Nat → Int32) (k : Nat) (g : Nat → Int32) : Prop := n = k ∧ ∀ j, j < n → f j = g j
theorem lo8_inj {x y : Int32} (h0 : ¬ x < 0) (h1 : ¬ 255 < x) (k0 : ¬ y < 0) (k1 : ¬ 255 < y) (h : lo8 x = lo8 y) : x = y := by
  rw [← lo8_mask h0 h1, ← lo8_mask k0 k1, h]
/-- arrays coded by one coder are equal just where the texts are -/
theorem Cod.eqv {cd : Int32} {n k : Nat} {f g : Nat → Int32} {V V' : Cell} (h : Cod cd n f V) (h' : Cod cd k g V') (hf : ∀ j, j < n → ¬ f j < 0 ∧ ¬ 65535 < f j) (hg : ∀ j, j < k → ¬ g j < 0 ∧ ¬ 65535 < g j) : EqC V V' ↔ SameT n f k g := by
  have yvv : ∀ {W : Cell} {i : Nat} {x : Int32}, W.slots[i]? = some (.int x) → yv W i = x := fun q => by unfold yv; rw [q]
  rcases h with ⟨rfl, k1, k2⟩ | ⟨rfl, k1, k2, -⟩
  · rcases h' with ⟨-, m1, m2⟩ | ⟨e, -⟩
    · constructor
      · rintro ⟨e1, e2⟩
        refine ⟨by omega, fun j hj => ?_⟩
        have q := e2 j (by omega)
        rw [yvv (k2 j hj).1, yvv (m2 j (by omega)).1] at q
        exact lo8_inj (hf j hj).1 (k2 j hj).2 (hg j (by omega)).1 (m2 j (by omega)).2 q
      · rintro ⟨rfl, e2⟩
        refine ⟨by omega, fun j hj => ?_⟩
        rw [yvv (k2 j (by omega)).1, yvv (m2 j (by omega)).1, e2 j (by omega)]
    · exact absurd e (by decide)
  · rcases h' with ⟨e, -⟩ | ⟨-, m1, m2, -⟩
    · exact absurd e (by decide)
    · constructor
      · rintro ⟨e1, e2⟩
        refine ⟨by omega, fun j hj => ?_⟩
        have q1 := e2 (2 * j) (by omega)
        have q2 := e2 (2 * j + 1) (by omega)
        rw [yvv (k2 j hj).1, yvv (m2 j (by omega)).1] at q1
        rw [yvv (k2 j hj).2, yvv (m2 j (by omega)).2] at q2
        rw [← pair_says (hf j hj).1 (hf j hj).2, ← pair_says (hg j (by omega)).1 (hg j (by omega)).2, q1, q2]
      · rintro ⟨rfl, e2⟩
        refine ⟨by omega, fun i hi => ?_⟩
        rcases Nat.mod_two_eq_zero_or_one i with e | e
        · obtain ⟨j, rfl⟩ : ∃ j, i = 2 * j := ⟨i / 2, by omega⟩
          rw [yvv (k2 j (by omega)).1, yvv (m2 j (by omega)).1, e2 j (by omega)]
        · obtain ⟨j, rfl⟩ : ∃ j, i = 2 * j + 1 := ⟨i / 2, by omega⟩
          rw [yvv (k2 j (by omega)).2, yvv (m2 j (by omega)).2, e2 j (by omega)]
/-- two codings differ: so do the texts -/
theorem Cod.dif {cd cd' : Int32} {n k : Nat} {f g : Nat → Int32} {V V' : Cell} (h : Cod cd n f V) (h' : Cod cd' k g V') (hne : ¬ cd = cd') : ¬ SameT n f k g := by
  rintro ⟨rfl, e⟩
  rcases h with ⟨rfl, -, k2⟩ | ⟨rfl, -, -, j, hj, hw⟩
  · rcases h' with ⟨rfl, -⟩ | ⟨-, -, -, j, hj, hw⟩
    · exact hne rfl
    · exact (k2 j hj).2 (by rw [e j hj]; exact hw)
  · rcases h' with ⟨-, -, m2⟩ | ⟨rfl, -⟩
    · exact (m2 j hj).2 (by rw [← e j hj]; exact hw)
    · exact hne rfl
/-- an object of exactly C is an instance of C -/
theorem cinst {p : Program} {l : Launch} {e : Env} {R : Room} {s : State} {m : MethodId} {args : Array Value} {below : List Frame} {meth : Method} {c : Code} {T : State} {locs : List Loc} {cells slots : Nat} (X : Stand p l e R s m args below meth c T locs cells slots) (hexec : p.tables.exec = Jvm.exec) {own C : String} {index : Nat} (hown : s.vm.findClass own = some m.cls) (hlink : (Cond.classLink own index C).before args s = true) {a : Addr} (hE : Exact C a T)
    {g : JFrame} (hg : g.method = m) {rest : List Value} (hstack : g.stack = .ref a :: rest) (hdg : decode c.code g.pc = .ok (.instanceof index, 3)) :
    ∃ T', Stand p l e R s m args below meth c T' locs cells slots ∧ T'.heap = T.heap ∧ ∀ target, Steps p.tables e below (T'.setTop { g with pc := g.pc + 3, stack := .int 1 :: rest }) target → Steps p.tables e below (T.setTop g) target := by
  obtain ⟨cB, h1, D, h2, h3, h4⟩ := hE
  have h1' : s.vm.findClass C = some cB := by rw [← X.warmed.alike.findClass]; exact h1
  obtain ⟨vm', X', st⟩ := X.instanceofYes hexec hown hlink h2 h4 h1' (by rw [h3]; exact Jvm.Free.SB.assignable_self _ _) hg hstack hdg
  exact ⟨_, X', rfl, st⟩
theorem cself {p : Program} {l : Launch} {e : Env} {R : Room} {s : State} {m : MethodId} {args : Array Value} {below : List Frame} {meth : Method} {c : Code} {T : State} {locs : List Loc} {cells slots : Nat} (X : Stand p l e R s m args below meth c T locs cells slots) (hexec : p.tables.exec = Jvm.exec) {own C : String} {index : Nat} (hown : s.vm.findClass own = some m.cls) (hlink : (Cond.classLink own index C).before args s = true) {a : Addr} (hE : Exact C a T)
    {g : JFrame} (hg : g.method = m) {rest : List Value} (hstack : g.stack = .ref a :: rest) (hdg : decode c.code g.pc = .ok (.checkcast index, 3)) :
    ∃ T', Stand p l e R s m args below meth c T' locs cells slots ∧ T'.heap = T.heap ∧ ∀ target, Steps p.tables e below (T'.setTop { g with pc := g.pc + 3, stack := .ref a :: rest }) target → Steps p.tables e below (T.setTop g) target := by
  obtain ⟨cB, h1, D, h2, h3, h4⟩ := hE
  have h1' : s.vm.findClass C = some cB := by rw [← X.warmed.alike.findClass]; exact h1
  obtain ⟨vm', X', st⟩ := X.checkcastYes hexec hown hlink h2 h4 h1' (by rw [h3]; exact Jvm.Free.SB.assignable_self _ _) hg hstack hdg
  exact ⟨_, X', rfl, fun t h => st t (by rw [← hstack] at h; exact h)⟩
namespace SEq
def yN : MethodName := ⟨"java/lang/String", "equals", "(Ljava/lang/Object;)Z"⟩
abbrev yB : ByteArray := jdk_42_method_66_code
theorem d0 : decode yB 0 = .ok (.aload_n 0, 1) := by decide +kernel
theorem d1 : decode yB 1 = .ok (.aload_n 1, 1) := by decide +kernel
theorem d2 : decode yB 2 = .ok (.if_acmp (.ne) 5, 3) := by decide +kernel
theorem d5 : decode yB 5 = .ok (.iconst 1, 1) := by decide +kernel
theorem d6 : decode yB 6 = .ok (.ireturn, 1) := by decide +kernel
theorem d7 : decode yB 7 = .ok (.aload_n 1, 1) := by decide +kernel
theorem d8 : decode yB 8 = .ok (.instanceof 10, 3) := by decide +kernel
theorem d11 : decode yB 11 = .ok (.ifCond (.eq) 43, 3) := by decide +kernel
theorem d14 : decode yB 14 = .ok (.aload_n 1, 1) := by decide +kernel
theorem d15 : decode yB 15 = .ok (.checkcast 10, 3) := by decide +kernel
theorem d18 : decode yB 18 = .ok (.astore_n 2, 1) := by decide +kernel
theorem d19 : decode yB 19 = .ok (.getstatic 38, 3) := by decide +kernel
theorem d22 : decode yB 22 = .ok (.ifCond (.eq) 14, 3) := by decide +kernel
theorem d25 : decode yB 25 = .ok (.aload_n 0, 1) := by decide +kernel
theorem d26 : decode yB 26 = .ok (.getfield 15, 3) := by decide +kernel
theorem d29 : decode yB 29 = .ok (.aload_n 2, 1) := by decide +kernel
theorem d30 : decode yB 30 = .ok (.getfield 15, 3) := by decide +kernel
theorem d33 : decode yB 33 = .ok (.if_icmp (.ne) 21, 3) := by decide +kernel
theorem d36 : decode yB 36 = .ok (.aload_n 0, 1) := by decide +kernel
theorem d37 : decode yB 37 = .ok (.getfield 9, 3) := by decide +kernel
theorem d40 : decode yB 40 = .ok (.aload_n 2, 1) := by decide +kernel
theorem d41 : decode yB 41 = .ok (.getfield 9, 3) := by decide +kernel
theorem d44 : decode yB 44 = .ok (.invokestatic 541, 3) := by decide +kernel
theorem d47 : decode yB 47 = .ok (.ifCond (.eq) 7, 3) := by decide +kernel
theorem d50 : decode yB 50 = .ok (.iconst 1, 1) := by decide +kernel
theorem d51 : decode yB 51 = .ok (.goto 4, 3) := by decide +kernel
theorem d54 : decode yB 54 = .ok (.iconst 0, 1) := by decide +kernel
theorem d55 : decode yB 55 = .ok (.ireturn, 1) := by decide +kernel
def site : List Cond := [.classLink "java/lang/String" 10 "java/lang/String", .fieldLink "java/lang/String" 38 "java/lang/String" "COMPACT_STRINGS" "Z", .fieldLink "java/lang/String" 15 "java/lang/String" "coder" "B", .fieldLink "java/lang/String" 9 "java/lang/String" "value" "[B", LEq.tab] ++ staticW "java/lang/String" 541 LEq.yN
def tab : Cond := tabOf yN yB 3 (some .boolean) site
def P (x t : Addr) (V : Cell) (cd : Int32) (n : Nat) (f : Nat → Int32) (y t' : Addr) (V' : Cell) (cd' : Int32) (k : Nat) (g : Nat → Int32) (z : Int32) (args : Array Value) (s : State) : Prop := args = #[.ref x, .ref y] ∧ Txt x t V cd n f s ∧ Txt y t' V' cd' k g s ∧ StaticIs s "java/lang/String" "COMPACT_STRINGS" "Z" (.int z) ∧ ¬ z = 0
/-- equals(Object) of two Strings: whether the texts are the same -/
theorem law (l : Launch) (x t : Addr) (V : Cell) (cd : Int32) (n : Nat) (f : Nat → Int32) (y t' : Addr) (V' : Cell) (cd' : Int32) (k : Nat) (g : Nat → Int32) (z : Int32) : Law l yN 2 1 1 14 yB 3 (some .boolean) site (P x t V cd n f y t' V' cd' k g z) (Says01 (SameT n f k g)) [] 0 0 := by
  refine Law.of_walk (plainFor_of_name (by decide +kernel)) (by decide +kernel) (by decide +kernel) (by decide) (fun _ _ h => by rw [h.1]; rfl) (fun _ U U' hal hh h => ⟨h.1, h.2.1.mv hal hh, h.2.2.1.mv hal hh, h.2.2.2.1.there hal hh, h.2.2.2.2⟩) (fun r U U' V V' h1 hal h2 h => Says01.mv r U U' V V' h1 hal h2 h) ?_
  intro p e s m args below meth c s₁ X0 hexec hbytes hml hret hlk hnm hown hh0 W hP
  obtain ⟨rfl, hx, hy, s1, hz⟩ := hP
  have c1 : Steps p.tables e below (s₁.setTop (entryFrame m #[.ref x, .ref y] 3)) (s₁.setTop (mkF m 2 #[.val (.ref x), .val (.ref y), .unset] [.ref y, .ref x])) := Steps.trans (entry rfl) (by
    show Steps p.tables e below (s₁.setTop (mkF m 0 #[.val (.ref x), .val (.ref y), .unset] [])) _
    refine XS.aloadN X0.here hexec rfl (hb hbytes d0) rfl rfl ?_
    refine XS.aloadN X0.here hexec rfl (hb hbytes d1) rfl rfl ?_
    exact Steps.refl _)
  by_cases hxy : x = y
  · have c2 : Steps p.tables e below (s₁.setTop (entryFrame m #[.ref x, .ref y] 3)) (s₁.setTop (mkF m 6 #[.val (.ref x), .val (.ref y), .unset] [.int 1])) := c1.trans (by
      refine acmpNo X0.here hexec rfl (hb hbytes d2) rfl rfl rfl (by simp [acmp, hxy]) ?_
      refine iconstV X0.here hexec rfl 1 (hb hbytes d5) (by decide) ?_
      exact Steps.refl _)
    subst hxy
    have ec : cd = cd' := by
      obtain ⟨D, fd, a1, a2, a3⟩ := hx.2.2.1
      obtain ⟨D', fd', b1, b2, b3⟩ := hy.2.2.1
      cases a1.symm.trans b1
      obtain ⟨q1, q2, q3, q4⟩ := a2.1
      obtain ⟨r1, r2, r3, r4⟩ := b2.1
      cases q4.symm.trans r4
      cases a3.symm.trans b3; rfl
    have et : t = t' := by
      obtain ⟨D, fd, a1, a2, a3⟩ := hx.2.1
      obtain ⟨D', fd', b1, b2, b3⟩ := hy.2.1
      cases a1.symm.trans b1
      obtain ⟨q1, q2, q3, q4⟩ := a2.1
      obtain ⟨r1, r2, r3, r4⟩ := b2.1
      cases q4.symm.trans r4
      cases a3.symm.trans b3; rfl
    subst ec et
    have ev : V = V' := by cases hx.2.2.2.1.1.symm.trans hy.2.2.2.1.1; rfl
    subst ev
    have hs : SameT n f k g := (Cod.eqv hx.2.2.2.2.1 hy.2.2.2.2.1 hx.2.2.2.2.2 hy.2.2.2.2.2).mp ⟨rfl, fun _ _ => rfl⟩
    exact ⟨s₁, some (.int 1), _, _, _, X0, rfl, rfl, rfl, (fun h => by cases h), ⟨1, rfl, hh0, Or.inl ⟨rfl, hs⟩⟩, fun fs hl => c2.trans (X0.ireturnOut hexec hret rfl (Or.inr (Or.inl rfl)) (hb hbytes d6) hl)⟩
  · have c2 : Steps p.tables e below (s₁.setTop (entryFrame m #[.ref x, .ref y] 3)) (s₁.setTop (mkF m 8 #[.val (.ref x), .val (.ref y), .unset] [.ref y])) := c1.trans (by
      refine acmpYes X0.here hexec rfl (pc0 := 2) rfl (hb hbytes d2) rfl rfl rfl (by simp [acmp, hxy]) (by decide) rfl ?_
      refine XS.aloadN X0.here hexec rfl (hb hbytes d7) rfl rfl ?_
      exact Steps.refl _)
    obtain ⟨T3, X3, q3, st3⟩ := cinst X0 hexec hown (wk W (.classLink "java/lang/String" 10 "java/lang/String")) (hy.mv X0.warmed.alike hh0).1 (g := (mkF m 8 #[.val (.ref x), .val (.ref y), .unset] [.ref y])) rfl (rest := []) rfl (hb hbytes d8)
    have hh3 := q3.trans hh0
    have c4 : Steps p.tables e below (s₁.setTop (entryFrame m #[.ref x, .ref y] 3)) (T3.setTop (mkF m 15 #[.val (.ref x), .val (.ref y), .unset] [.ref y])) := (c2.trans (st3 _ (Steps.refl _))).trans (by
      refine XS.ifNo X3.here hexec rfl (hb hbytes d11) rfl (i0_eq_f (by decide)) ?_
      refine XS.aloadN X3.here hexec rfl (hb hbytes d14) rfl rfl ?_
      exact Steps.refl _)
    obtain ⟨T5, X5, q5, st5⟩ := cself X3 hexec hown (wk W (.classLink "java/lang/String" 10 "java/lang/String")) (hy.mv X3.warmed.alike hh3).1 (g := (mkF m 15 #[.val (.ref x), .val (.ref y), .unset] [.ref y])) rfl (rest := []) rfl (hb hbytes d15)
    have hh5 := q5.trans hh3
    have c6 : Steps p.tables e below (s₁.setTop (entryFrame m #[.ref x, .ref y] 3)) (T5.setTop (mkF m 19 #[.val (.ref x), .val (.ref y), .val (.ref y)] [])) := (c4.trans (st5 _ (Steps.refl _))).trans (by
      refine XS.astoreN X5.here hexec rfl (hb hbytes d18) rfl rfl rfl ?_
      exact Steps.refl _)
    obtain ⟨T7, X7, q7, st7⟩ := X5.sget hexec hown (wk W (.fieldLink "java/lang/String" 38 "java/lang/String" "COMPACT_STRINGS" "Z")) s1 (fun _ _ h => by rw [hh5]; exact h) (g := (mkF m 19 #[.val (.ref x), .val (.ref y), .val (.ref y)] [])) rfl (hb hbytes d19)
    have hh7 := q7.trans hh5
    have c8 : Steps p.tables e below (s₁.setTop (entryFrame m #[.ref x, .ref y] 3)) (T7.setTop (mkF m 26 #[.val (.ref x), .val (.ref y), .val (.ref y)] [.ref x])) := (c6.trans (st7 _ (Steps.refl _))).trans (by
      refine XS.ifNo X7.here hexec rfl (hb hbytes d22) rfl (i0_eq_f hz) ?_
      refine XS.aloadN X7.here hexec rfl (hb hbytes d25) rfl rfl ?_
      exact Steps.refl _)
    obtain ⟨T9, X9, q9, st9⟩ := X7.hget hexec hown (wk W (.fieldLink "java/lang/String" 15 "java/lang/String" "coder" "B")) (hx.mv X7.warmed.alike hh7).2.2.1 (g := (mkF m 26 #[.val (.ref x), .val (.ref y), .val (.ref y)] [.ref x])) rfl (rest := []) rfl (hb hbytes d26)
    have hh9 := q9.trans hh7
    have c10 : Steps p.tables e below (s₁.setTop (entryFrame m #[.ref x, .ref y] 3)) (T9.setTop (mkF m 30 #[.val (.ref x), .val (.ref y), .val (.ref y)] [.ref y, .int cd])) := (c8.trans (st9 _ (Steps.refl _))).trans (by
      refine XS.aloadN X9.here hexec rfl (hb hbytes d29) rfl rfl ?_
      exact Steps.refl _)
    obtain ⟨T11, X11, q11, st11⟩ := X9.hget hexec hown (wk W (.fieldLink "java/lang/String" 15 "java/lang/String" "coder" "B")) (hy.mv X9.warmed.alike hh9).2.2.1 (g := (mkF m 30 #[.val (.ref x), .val (.ref y), .val (.ref y)] [.ref y, .int cd])) rfl (rest := [.int cd]) rfl (hb hbytes d30)
    have hh11 := q11.trans hh9
    have c12 : Steps p.tables e below (s₁.setTop (entryFrame m #[.ref x, .ref y] 3)) (T11.setTop (mkF m 33 #[.val (.ref x), .val (.ref y), .val (.ref y)] [.int cd', .int cd])) := c10.trans (st11 _ (Steps.refl _))
    by_cases hcd : cd = cd'
    · subst hcd
      have c13 : Steps p.tables e below (s₁.setTop (entryFrame m #[.ref x, .ref y] 3)) (T11.setTop (mkF m 37 #[.val (.ref x), .val (.ref y), .val (.ref y)] [.ref x])) := c12.trans (by
        refine XS.icmpNo X11.here hexec rfl (hb hbytes d33) rfl (ii_ne_f rfl) ?_
        refine XS.aloadN X11.here hexec rfl (hb hbytes d36) rfl rfl ?_
        exact Steps.refl _)
      obtain ⟨T14, X14, q14, st14⟩ := X11.hget hexec hown (wk W (.fieldLink "java/lang/String" 9 "java/lang/String" "value" "[B")) (hx.mv X11.warmed.alike hh11).2.1 (g := (mkF m 37 #[.val (.ref x), .val (.ref y), .val (.ref y)] [.ref x])) rfl (rest := []) rfl (hb hbytes d37)
      have hh14 := q14.trans hh11
      have c15 : Steps p.tables e below (s₁.setTop (entryFrame m #[.ref x, .ref y] 3)) (T14.setTop (mkF m 41 #[.val (.ref x), .val (.ref y), .val (.ref y)] [.ref y, .ref t])) := (c13.trans (st14 _ (Steps.refl _))).trans (by
        refine XS.aloadN X14.here hexec rfl (hb hbytes d40) rfl rfl ?_
        exact Steps.refl _)
      obtain ⟨T16, X16, q16, st16⟩ := X14.hget hexec hown (wk W (.fieldLink "java/lang/String" 9 "java/lang/String" "value" "[B")) (hy.mv X14.warmed.alike hh14).2.1 (g := (mkF m 41 #[.val (.ref x), .val (.ref y), .val (.ref y)] [.ref y, .ref t])) rfl (rest := [.ref t]) rfl (hb hbytes d41)
      have hh16 := q16.trans hh14
      have c17 : Steps p.tables e below (s₁.setTop (entryFrame m #[.ref x, .ref y] 3)) (T16.setTop (mkF m 44 #[.val (.ref x), .val (.ref y), .val (.ref y)] [.ref t', .ref t])) := c15.trans (st16 _ (Steps.refl _))
      obtain ⟨v18, T18, X18, E18, g18⟩ := X16.callS hexec (LEq.law l t V t' V') hown (wks W (staticW "java/lang/String" 541 LEq.yN)) (wk W LEq.tab) (W := 0) (Nat.le_of_ble_eq_true rfl) (Nat.le_of_ble_eq_true rfl) (Nat.le_refl _) (Nat.le_refl _) (g := (mkF m 44 #[.val (.ref x), .val (.ref y), .val (.ref y)] [.ref t', .ref t])) rfl (by rw [hml]; rfl) c17 (argsL := [.ref t, .ref t']) (rest := []) rfl rfl (by show 2 * 0 + 0 ≤ _; decide) (hb hbytes d44) (⟨rfl, hx.2.2.2.1.mv X16.warmed.alike hh16, hx.2.2.2.2.1.ty, hy.2.2.2.1.mv X16.warmed.alike hh16, hy.2.2.2.2.1.ty⟩)
      obtain ⟨v, rfl, q18, hv⟩ := E18
      have iff := Cod.eqv hx.2.2.2.2.1 hy.2.2.2.2.1 hx.2.2.2.2.2 hy.2.2.2.2.2
      rcases hv with ⟨rfl, he⟩ | ⟨rfl, he⟩
      · have c19 : Steps p.tables e below (s₁.setTop (entryFrame m #[.ref x, .ref y] 3)) (T18.setTop (mkF m 55 #[.val (.ref x), .val (.ref y), .val (.ref y)] [.int 1])) := Steps.trans g18 (by
          refine XS.ifNo X18.here hexec rfl (hb hbytes d47) rfl (i0_eq_f (by decide)) ?_
          refine iconstV X18.here hexec rfl 1 (hb hbytes d50) (by decide) ?_
          refine XS.goto X18.here hexec rfl (pc0 := 51) rfl (hb hbytes d51) (by decide) rfl ?_
          exact Steps.refl _)
        exact ⟨T18, some (.int 1), _, _, _, X18, rfl, rfl, rfl, (fun h => by cases h), ⟨1, rfl, q18.trans hh16, Or.inl ⟨rfl, iff.mp he⟩⟩, fun fs hl => c19.trans (X18.ireturnOut hexec hret rfl (Or.inr (Or.inl rfl)) (hb hbytes d55) hl)⟩
      · have c19 : Steps p.tables e below (s₁.setTop (entryFrame m #[.ref x, .ref y] 3)) (T18.setTop (mkF m 55 #[.val (.ref x), .val (.ref y), .val (.ref y)] [.int 0])) := Steps.trans g18 (by
          refine XS.ifYes X18.here hexec rfl (pc0 := 47) rfl (hb hbytes d47) rfl (i0_eq_t rfl) (by decide) rfl ?_
          refine iconstV X18.here hexec rfl 0 (hb hbytes d54) (by decide) ?_
          exact Steps.refl _)
        exact ⟨T18, some (.int 0), _, _, _, X18, rfl, rfl, rfl, (fun h => by cases h), ⟨0, rfl, q18.trans hh16, Or.inr ⟨rfl, fun q => he (iff.mpr q)⟩⟩, fun fs hl => c19.trans (X18.ireturnOut hexec hret rfl (Or.inr (Or.inl rfl)) (hb hbytes d55) hl)⟩
    · have c13 : Steps p.tables e below (s₁.setTop (entryFrame m #[.ref x, .ref y] 3)) (T11.setTop (mkF m 55 #[.val (.ref x), .val (.ref y), .val (.ref y)] [.int 0])) := c12.trans (by
        refine XS.icmpYes X11.here hexec rfl (pc0 := 33) rfl (hb hbytes d33) rfl (ii_ne_t hcd) (by decide) rfl ?_
        refine iconstV X11.here hexec rfl 0 (hb hbytes d54) (by decide) ?_
        exact Steps.refl _)
      exact ⟨T11, some (.int 0), _, _, _, X11, rfl, rfl, rfl, (fun h => by cases h), ⟨0, rfl, hh11, Or.inr ⟨rfl, Cod.dif hx.2.2.2.2.1 hy.2.2.2.2.1 hcd⟩⟩, fun fs hl => c13.trans (X11.ireturnOut hexec hret rfl (Or.inr (Or.inl rfl)) (hb hbytes d55) hl)⟩
theorem pays {l : Launch} {R : Room} {p : Program} {e : Env} {below : List Frame} {s : State} {sargs : Array Value} {len W : Nat} (x t : Addr) (V : Cell) (cd : Int32) (n : Nat) (f : Nat → Int32) (y t' : Addr) (V' : Cell) (cd' : Int32) (k : Nat) (g : Nat → Int32) (z : Int32) (htab : tab.before sargs s = true) (hfr : 2 ≤ R.frames) (hlo : W + 28 ≤ R.locals) :
    Back l R p e below s sargs yN len W (fun A₁ a₁ => A₁.cells + 0 ≤ R.cells ∧ A₁.slots + 0 ≤ R.slots ∧ P x t V cd n f y t' V' cd' k g z a₁ A₁.U) (fun A₁ _ v₁ B₁ => Says01 (SameT n f k g) v₁ A₁.U B₁.U ∧ B₁.locs = A₁.locs ++ [] ∧ B₁.cells = A₁.cells + 0 ∧ B₁.slots = A₁.slots + 0) :=
  (law l x t V cd n f y t' V' cd' k g z).pays htab hfr (by omega)
end SEq
end StrChars
namespace StrChars.Road
open Jvm Sem ClassFile Op Lib Jvm.Stand Jvm.Free Jvm.Free.XT
open Jvm.Lib.Cold (StaticIs)
/-- the words of String.equals(Object) -/
abbrev wordsEq : List Jvm.Cond := [.code SEq.yN SEq.yB 3 (some .boolean), .initialized ST, .classLink ST 10 ST, .fieldLink ST 38 ST "COMPACT_STRINGS" "Z", .fieldLink ST 15 ST "coder" "B", .fieldLink ST 9 ST "value" "[B", .methodLink ST 541 LEq.yN, .static LEq.yN, .code LEq.yN LEq.yB 3 (some .boolean), .initialized "java/lang/StringLatin1"]
theorem tabEq_of {a : Array Value} {s : State} (h : ∀ w ∈ wordsEq, w.before a s = true) : SEq.tab.before a s = true := by
  have hl : LEq.tab.before a s = true := unparts (wk h (.code LEq.yN LEq.yB 3 (some .boolean))) (wks h (.initialized LEq.yN.cls :: LEq.site))
  have q := consq hl h
  exact unparts (wk q (.code SEq.yN SEq.yB 3 (some .boolean))) (wks q (.initialized SEq.yN.cls :: SEq.site))
theorem movedEq {Z s : State} {a0 args : Array Value} (hZ : Z.Warmed39 s.vm) (hw : ∀ d ∈ wordsEq, d.before a0 Z = true) : ∀ d ∈ wordsEq, d.before args s = true := fun d hd => by
  have t : ∀ d ∈ wordsEq, (d.onTables && d.keepsFace) = true := by decide +kernel
  exact RoadKit.mv hZ (hw d hd) (t d hd)
/-- the road's facts of a String, as the laws ask it -/
theorem txt_of {Z U : State} {a0 : Array Value} {kI : Nat} (wi : (Jvm.Cond.instantiable ST kI).before a0 Z = true) (al : Z.vm.Alike U.vm) {x t : Addr} {kb : ClassId} {cs : List Int32} {cd N2 : Int32} {vs : List Value} (E : RoadKit.Exa Z U.heap x ST) (V : RoadKit.Fld Z U.heap x ST "value" "[B" (.ref t)) (C : RoadKit.Fld Z U.heap x ST "coder" "B" (.int cd)) (K : RoadKit.Arv Z U.heap t kb .byte N2 vs (.int 0)) (hc : CodA cs cd N2 vs) (hb : ∀ c ∈ cs, ¬ c < 0 ∧ ¬ (65535 : Int32) < c) (l2 : cs.length ≤ 4000) :
    ∃ A, Txt x t A cd cs.length (fun j => cs.getD j 0) U := by
  obtain ⟨A, K1, K2, K3, K4, K5, K6⟩ := K
  have hcod := hc.cod (by omega) K3 K5
  obtain ⟨D, fV, fC, hB, F1, F2, g1, g2, -, -⟩ := strObj wi al E V C
  exact ⟨A, ⟨_, hB.2.2.1, D, hB.1, rfl, by cases q : D.vm <;> first | rfl | exact absurd q (hB.2.1.2 _)⟩, Has.of hB F1 g1, Has.of hB F2 g2, ⟨K1.1, State.isArrayOf_alike al K1.2.1, K1.2.2, by rcases hcod with ⟨-, q, -⟩ | ⟨-, q, -⟩ <;> omega⟩, hcod, fun j hj => by
    have e : cs.getD j 0 = cs[j] := by simp [List.getD_eq_getElem?_getD, hj]
    show ¬ cs.getD j 0 < 0 ∧ ¬ 65535 < cs.getD j 0
    rw [e]; exact hb _ (List.getElem_mem _)⟩
theorem same_list (cs ds : List Int32) : SameT cs.length (fun j => cs.getD j 0) ds.length (fun j => ds.getD j 0) ↔ cs = ds := by
  constructor
  · rintro ⟨e, q⟩
    refine List.ext_getElem e fun j h1 h2 => ?_
    have := q j h1
    simpa [List.getD_eq_getElem?_getD, h1, h2] using this
  · rintro rfl
    exact ⟨rfl, fun _ _ => rfl⟩
/-- **equals(Object) OF TWO SUCH STRINGS**: 1 just where the chars are the same -/
theorem eqW {p : Program} {l : Launch} {e : Env} {R : Room} {s : State} {args : Array Value} {below : List Frame} {len W : Nat} {Z : State} {a0 : Array Value} {h : Heap} (hZ : Z.Warmed39 s.vm) (hw : ∀ d ∈ wordsEq, d.before a0 Z = true) {kI : Nat} (wi : (Jvm.Cond.instantiable ST kI).before a0 Z = true)
    {x t : Addr} {kb : ClassId} {cs : List Int32} {cd N2 : Int32} {vs : List Value} (E : RoadKit.Exa Z h x ST) (V : RoadKit.Fld Z h x ST "value" "[B" (.ref t)) (C : RoadKit.Fld Z h x ST "coder" "B" (.int cd)) (K : RoadKit.Arv Z h t kb .byte N2 vs (.int 0)) (hc : CodA cs cd N2 vs) (hb : ∀ c ∈ cs, ¬ c < 0 ∧ ¬ (65535 : Int32) < c) (l2 : cs.length ≤ 4000)
    {y t' : Addr} {kb' : ClassId} {ds : List Int32} {cd' N2' : Int32} {vs' : List Value} (E' : RoadKit.Exa Z h y ST) (V' : RoadKit.Fld Z h y ST "value" "[B" (.ref t')) (C' : RoadKit.Fld Z h y ST "coder" "B" (.int cd')) (K' : RoadKit.Arv Z h t' kb' .byte N2' vs' (.int 0)) (hc' : CodA ds cd' N2' vs') (hb' : ∀ c ∈ ds, ¬ c < 0 ∧ ¬ (65535 : Int32) < c) (l2' : ds.length ≤ 4000)
    {z : Int32} (S : RoadKit.Sta Z h ST "COMPACT_STRINGS" "Z" (.int z)) (hz : ¬ z = 0) (hfr : 2 ≤ R.frames) (hlo : W + 28 ≤ R.locals) :
    Back l R p e below s args (⟨"java/lang/String", "equals", "(Ljava/lang/Object;)Z"⟩ : MethodName) len W (fun P a => a = #[.ref x, .ref y] ∧ P.U.heap = h ∧ P.cells + 0 ≤ R.cells ∧ P.slots + 0 ≤ R.slots)
      (fun P _ v B => ∃ L, (((v = some (.int 1) ∧ cs = ds) ∨ (v = some (.int 0) ∧ ¬ cs = ds)) ∧ L = [] ∧ B.U.heap = h) ∧ B.locs = P.locs ++ L ∧ B.cells = P.cells + 0 ∧ B.slots = P.slots + 0) := by
  intro m meth c P g ig mk a X hg hsize hdg hW hn hp'
  obtain ⟨rfl, rfl, r1, r2⟩ := hp'
  have al : Z.vm.Alike P.U.vm := hZ.alike.trans X.warmed.alike
  obtain ⟨A, hx⟩ := txt_of wi al E V C K hc hb l2
  obtain ⟨A', hy⟩ := txt_of wi al E' V' C' K' hc' hb' l2'
  obtain ⟨v, B, X', ⟨⟨w, hv, hh, hq⟩, hl, hk, hs⟩, st⟩ := SEq.pays x t A cd cs.length (fun j => cs.getD j 0) y t' A' cd' ds.length (fun j => ds.getD j 0) z (tabEq_of (movedEq hZ hw)) hfr hlo m meth c P g ig mk _ X hg hsize hdg hW hn ⟨r1, r2, rfl, hx, hy, sta_is al S, hz⟩
  refine ⟨v, B, X', ⟨[], ⟨?_, rfl, hh⟩, hl, hk, hs⟩, st⟩
  rcases hq with ⟨rfl, q⟩ | ⟨rfl, q⟩
  · exact Or.inl ⟨hv, (same_list cs ds).mp q⟩
  · exact Or.inr ⟨hv, fun e => q ((same_list cs ds).mpr e)⟩
end StrChars.Road
namespace StrChars.Road
open Jvm Sem ClassFile Op Lib Jvm.Stand Jvm.Free Jvm.Free.XT
open Jvm.Lib.Cold (StaticIs)
/-- what backV says of its String, as the contracts of this text ask it: cs's low bytes, coder 0 -/
theorem codOf {cs : List Int32} {n : Nat} (hn : cs.length = n) (hb : ∀ c ∈ cs, ¬ 255 < c) : CodA cs 0 (Int32.ofNat n) ((cs.map lo8).map Value.int) := Or.inl ⟨rfl, by rw [hn], by simp [List.map_map, Function.comp_def], hb⟩
end StrChars.Road
end Jvm.Pilot.@@N@@
namespace Jvm.Pilot.@@N@@
namespace GK
open Jvm Jvm.ClassFile Sem Op Lib Jvm.Free Jvm.Stand Jvm.LawKit Jvm.RoadKit Bundle
section Strs
variable {md : Md} {l : Launch} {Z : State} {n0 : Nat} {R : Room} {h h' : Heap} {sf : List Addr} {a0 : Array Value} {x b : Addr} {cs ds : List Int32}
abbrev ST : String := "java/lang/String"
def Lat (cs : List Int32) : Prop := ∀ c ∈ cs, ¬ c < 0 ∧ ¬ (255 : Int32) < c
/-- x is a Latin-1 String of these chars -/
def Str (Z : State) (h : Heap) (x : Addr) (cs : List Int32) : Prop := ∃ t : Addr, Exa Z h x ST ∧ Fld Z h x ST "coder" "B" (.int 0) ∧ Fld Z h x ST "value" "[B" (.ref t) ∧ Ary Z h t .byte ((cs.map fun c => c.toInt8.toInt32).map Value.int) ∧ Lat cs
theorem Str.ext (S : Str Z h x cs) (E : Ext h h') : Str Z h' x cs := by obtain ⟨t, s1, s2, s3, s4, s5⟩ := S; exact ⟨t, s1.ext E, s2.ext E, s3.ext E, s4.ext E, s5⟩
theorem Str.exa (S : Str Z h x cs) : Exa Z h x ST := by obtain ⟨t, s1, -⟩ := S; exact s1
theorem Str.lt (S : Str Z h x cs) : x < h.size := S.exa.lt
theorem Str.keepO {a : Addr} {C : String} {k : Nat} (S : Str Z h x cs) (E : Exa Z h a C) (hn : C ≠ ST) (wi : (Jvm.Cond.instantiable C k).before a0 Z = true) (K : Keep h h' [a]) : Str Z h' x cs := by
  obtain ⟨t, s1, s2, s3, s4, s5⟩ := S
  have n1 : x ≠ a := Ne.symm (ne_exa E s1 hn)
  have n2 : t ≠ a := by obtain ⟨c, A, -⟩ := s4; exact Ne.symm (ne_arr E wi A)
  exact ⟨t, s1.keep K, s2.keep K (ninS n1 nin0), s3.keep K (ninS n1 nin0), Ary.keep K s4 (ninS n2 nin0), s5⟩
theorem toInt_lt {x y : Int32} : x < y ↔ x.toInt < y.toInt := Int32.lt_iff_toInt_lt
theorem lat_iff {c : Int32} : (¬ c < 0 ∧ ¬ (255 : Int32) < c) ↔ (0 ≤ c.toInt ∧ c.toInt ≤ 255) := by
  rw [toInt_lt, toInt_lt]
  have e1 : (0 : Int32).toInt = 0 := rfl
  have e2 : (255 : Int32).toInt = 255 := rfl
  omega
theorem chr_id {c : Int32} (q : 0 ≤ c.toInt ∧ c.toInt ≤ 65535) : chr c = c := Int32.toInt_inj.mp (by have := c_i2c c; show (c.toUInt32.toUInt16.toUInt32.toInt32).toInt = c.toInt; omega)
theorem chr_rng (x : Int32) : 0 ≤ (chr x).toInt ∧ (chr x).toInt ≤ 65535 := by have := c_i2c x; show 0 ≤ (x.toUInt32.toUInt16.toUInt32.toInt32).toInt ∧ (x.toUInt32.toUInt16.toUInt32.toInt32).toInt ≤ 65535; omega
theorem and255 (x : Int32) : 0 ≤ (x &&& (255 : Int32)).toInt ∧ (x &&& (255 : Int32)).toInt ≤ 255 := c_and x 255 (by decide)
theorem chr255 (x : Int32) : ¬ chr (x &&& (255 : Int32)) < 0 ∧ ¬ (255 : Int32) < chr (x &&& (255 : Int32)) := by
  have q := and255 x
  rw [chr_id (by omega)]; exact lat_iff.mpr q
theorem nar_chr (c : Int32) : nar .char c = chr c := rfl
theorem nar_c {c : Int32} (q : ¬ c < 0 ∧ ¬ (255 : Int32) < c) : nar .char c = c := by
  have := lat_iff.mp q
  rw [nar_chr, chr_id (by omega)]
theorem i8_idem (x : Int32) : x.toInt8.toInt32.toInt8.toInt32 = x.toInt8.toInt32 := Int32.toInt_inj.mp (by have h1 := c_i2b x; have h2 := c_i2b (x.toInt8.toInt32); omega)
theorem latN : Lat [] := fun c hc => nomatch hc
theorem latC {c : Int32} {cs : List Int32} (q : ¬ c < 0 ∧ ¬ (255 : Int32) < c) (r : Lat cs) : Lat (c :: cs) := fun y hy => (List.mem_cons.mp hy).elim (fun u => u ▸ q) (r y)
theorem lat1 {c : Int32} (q : ¬ c < 0 ∧ ¬ (255 : Int32) < c) : Lat [c] := latC q latN
theorem lat2 {c d : Int32} (q : ¬ c < 0 ∧ ¬ (255 : Int32) < c) (r : ¬ d < 0 ∧ ¬ (255 : Int32) < d) : Lat [c, d] := latC q (lat1 r)
end Strs
end GK
end Jvm.Pilot.@@N@@
namespace Jvm.Pilot.@@N@@
namespace GK
open Jvm Jvm.ClassFile Sem Op Lib Jvm.Free Jvm.Stand Jvm.LawKit Jvm.RoadKit Bundle
section StrsE
variable {md : Md} {l : Launch} {Z : State} {n0 : Nat} {R : Room} {h h' : Heap} {sf : List Addr} {a0 : Array Value} {x y : Addr} {cs ds : List Int32}
theorem Lat.up (q : Lat cs) : ∀ c ∈ cs, ¬ c < 0 ∧ ¬ (65535 : Int32) < c := fun c hc => by
  have := lat_iff.mp (q c hc)
  refine ⟨(q c hc).1, fun z => ?_⟩
  rw [toInt_lt] at z
  have e1 : (65535 : Int32).toInt = 65535 := rfl
  omega
theorem strEq {W : Nat} {z : Int32} (heq : ∀ d ∈ StrChars.Road.wordsEq, d.before a0 Z = true) (wi : (Jvm.Cond.instantiable ST 4).before a0 Z = true) (S1 : Str Z h x cs) (S2 : Str Z h y ds) (l1 : cs.length ≤ 4000) (l2 : ds.length ≤ 4000) (o : Old Z n0 h) (S : Sta Z Z.heap ST "COMPACT_STRINGS" "Z" (.int z)) (hz : ¬ z = 0) (hfr : 2 ≤ R.frames) (hlo : W + 28 ≤ R.locals) :
    Call md l Z n0 R ⟨"java/lang/String", "equals", "(Ljava/lang/Object;)Z"⟩ 3 W #[.ref x, .ref y] h sf 0 0 (fun v h' _ => h = h' ∧ ((v = some (.int 1) ∧ cs = ds) ∨ (v = some (.int 0) ∧ ¬ cs = ds))) := by
  obtain ⟨t, E, C, V, A, q⟩ := S1
  obtain ⟨t', E', C', V', A', q'⟩ := S2
  obtain ⟨k, K⟩ := A.arv (.int 0)
  obtain ⟨k', K'⟩ := A'.arv (.int 0)
  rw [List.length_map, List.length_map] at K K'
  refine call_of_back [] (QB := fun v h' L => (((v = some (.int 1) ∧ cs = ds) ∨ (v = some (.int 0) ∧ ¬ cs = ds)) ∧ L = [] ∧ h' = h)) (fun p e below s sargs hZ => StrChars.Road.eqW hZ heq wi E V C K (StrChars.Road.codOf rfl fun c hc => (q c hc).2) q.up l1 E' V' C' K' (StrChars.Road.codOf rfl fun c hc => (q' c hc).2) q'.up l2 (S.ext o.2) hz hfr hlo) ?_ (fun _ q => nomatch q) (fun _ q => nomatch q)
  rintro v h' L ⟨q1, rfl, rfl⟩
  exact ⟨Fr.nil n0, Keep.refl _ _, rfl, q1⟩
end StrsE
end GK
end Jvm.Pilot.@@N@@
namespace Jvm.Pilot.@@N@@
namespace GK
open Jvm Jvm.ClassFile Sem Op Lib Jvm.Free Jvm.Stand Jvm.LawKit Jvm.RoadKit Bundle
section Hsts
variable {Z : State} {h h' : Heap} {x y a : Addr} {cs : List Int32} {a0 : Array Value} {C : String} {k k2 sl : Nat} {v : Value}
/-- a Latin-1 String whose hash isn't reckoned yet -/
def Hst (Z : State) (h : Heap) (x : Addr) (cs : List Int32) : Prop := ∃ t : Addr, Exa Z h x ST ∧ Fld Z h x ST "coder" "B" (.int 0) ∧ Fld Z h x ST "value" "[B" (.ref t) ∧ Ary Z h t .byte ((cs.map fun c => c.toInt8.toInt32).map Value.int) ∧ Lat cs ∧ Fld Z h x ST "hash" "I" (.int 0) ∧ Fld Z h x ST "hashIsZero" "Z" (.int 0) ∧ (2 ≤ cs.length → Exa Z h t "[B")
theorem Hst.ext (S : Hst Z h x cs) (E : Ext h h') : Hst Z h' x cs := by obtain ⟨t, s1, s2, s3, s4, s5, s6, s7, s8⟩ := S; exact ⟨t, s1.ext E, s2.ext E, s3.ext E, s4.ext E, s5, s6.ext E, s7.ext E, fun q => (s8 q).ext E⟩
theorem Hst.exa (S : Hst Z h x cs) : Exa Z h x ST := by obtain ⟨t, s1, -⟩ := S; exact s1
theorem Hst.str (S : Hst Z h x cs) : Str Z h x cs := by obtain ⟨t, s1, s2, s3, s4, s5, -⟩ := S; exact ⟨t, s1, s2, s3, s4, s5⟩
theorem Ary.neO {t : Addr} {ty : FieldType} {vs : List Value} (A : Ary Z h t ty vs) (E : Exa Z h a C) (wi : (Jvm.Cond.instantiable C k).before a0 Z = true) : t ≠ a := by obtain ⟨c, A, -⟩ := A; exact Ne.symm (ne_arr E wi A)
theorem Hst.wrO (S : Hst Z h x cs) (E : Exa Z h a C) (hn : C ≠ ST) (wi : (Jvm.Cond.instantiable C k).before a0 Z = true) (W : Wr h h' a sl v) : Hst Z h' x cs := by
  obtain ⟨t, s1, s2, s3, s4, s5, s6, s7, s8⟩ := S
  have n1 : x ≠ a := Ne.symm (ne_exa E s1 hn)
  exact ⟨t, s1.wr W, s2.other W (Or.inl n1), s3.other W (Or.inl n1), s4.other W (s4.neO E wi), s5, s6.other W (Or.inl n1), s7.other W (Or.inl n1), fun q => (s8 q).wr W⟩
theorem Str.wrO (S : Str Z h x cs) (E : Exa Z h a C) (hn : C ≠ ST) (wi : (Jvm.Cond.instantiable C k).before a0 Z = true) (W : Wr h h' a sl v) : Str Z h' x cs := by
  obtain ⟨t, s1, s2, s3, s4, s5⟩ := S
  have n1 : x ≠ a := Ne.symm (ne_exa E s1 hn)
  exact ⟨t, s1.wr W, s2.other W (Or.inl n1), s3.other W (Or.inl n1), s4.other W (s4.neO E wi), s5⟩
theorem Hst.keep2 (S : Hst Z h y cs) (E : Exa Z h a C) (hn : C ≠ ST) (wi : (Jvm.Cond.instantiable C k).before a0 Z = true) (Ex : Exa Z h x ST) (wx : (Jvm.Cond.instantiable ST k2).before a0 Z = true) (nyx : y ≠ x) (K : Keep h h' [a, x]) : Hst Z h' y cs := by
  obtain ⟨t, s1, s2, s3, s4, s5, s6, s7, s8⟩ := S
  have n1 : y ≠ a := Ne.symm (ne_exa E s1 hn)
  have q : y ∉ [a, x] := ninS n1 (ninS nyx nin0)
  exact ⟨t, s1.keep K, s2.keep K q, s3.keep K q, Ary.keep K s4 (ninS (s4.neO E wi) (ninS (s4.neO Ex wx) nin0)), s5, s6.keep K q, s7.keep K q, fun q => (s8 q).keep K⟩
theorem Str.keep2 (S : Str Z h y cs) (E : Exa Z h a C) (hn : C ≠ ST) (wi : (Jvm.Cond.instantiable C k).before a0 Z = true) (Ex : Exa Z h x ST) (wx : (Jvm.Cond.instantiable ST k2).before a0 Z = true) (nyx : y ≠ x) (K : Keep h h' [a, x]) : Str Z h' y cs := by
  obtain ⟨t, s1, s2, s3, s4, s5⟩ := S
  have n1 : y ≠ a := Ne.symm (ne_exa E s1 hn)
  have q : y ∉ [a, x] := ninS n1 (ninS nyx nin0)
  exact ⟨t, s1.keep K, s2.keep K q, s3.keep K q, Ary.keep K s4 (ninS (s4.neO E wi) (ninS (s4.neO Ex wx) nin0)), s5⟩
theorem Str.keepS (S : Str Z h y cs) (Ex : Exa Z h x ST) (wx : (Jvm.Cond.instantiable ST k2).before a0 Z = true) (nyx : y ≠ x) (K : Keep h h' [x]) : Str Z h' y cs := by
  obtain ⟨t, s1, s2, s3, s4, s5⟩ := S
  have q : y ∉ [x] := ninS nyx nin0
  exact ⟨t, s1.keep K, s2.keep K q, s3.keep K q, Ary.keep K s4 (ninS (s4.neO Ex wx) nin0), s5⟩
end Hsts
end GK
end Jvm.Pilot.@@N@@
namespace Jvm.Pilot.@@N@@
open Jvm Jvm.ClassFile Sem Op Lib Jvm.Free Jvm.Stand Jvm.LawKit Jvm.RoadKit Bundle Jvm.Pilot.@@N@@.Jvm.D Jvm.Pilot.@@N@@.GK
abbrev HW (a0 : Array Value) (Z : State) : Prop := ∀ d ∈ tables_1, d.before a0 Z = true
theorem w0 {a0 : Array Value} {Z : State} (hw : HW a0 Z) : (Jvm.Cond.methodLink "com/example/avain/avain/model/AtomEqualsPinLaw" (24 : Nat) ({ cls := "com/example/avain/avain/model/AtomEqualsPinLaw", name := "str", desc := "(ICC)Ljava/lang/String;" } : Jvm.MethodName)).before a0 Z = true := hw _ (List.mem_of_getElem? (i := 0) rfl)
theorem w1 {a0 : Array Value} {Z : State} (hw : HW a0 Z) : (Jvm.Cond.static ({ cls := "com/example/avain/avain/model/AtomEqualsPinLaw", name := "str", desc := "(ICC)Ljava/lang/String;" } : Jvm.MethodName)).before a0 Z = true := hw _ (List.mem_of_getElem? (i := 1) rfl)
theorem w2 {a0 : Array Value} {Z : State} (hw : HW a0 Z) : (Jvm.Cond.initialized "com/example/avain/avain/model/AtomEqualsPinLaw").before a0 Z = true := hw _ (List.mem_of_getElem? (i := 2) rfl)
theorem w3 {a0 : Array Value} {Z : State} (hw : HW a0 Z) : (Jvm.Cond.code ({ cls := "com/example/avain/avain/model/AtomEqualsPinLaw", name := "str", desc := "(ICC)Ljava/lang/String;" } : Jvm.MethodName) method_3_code (4 : Nat) (Option.some (Jvm.ClassFile.FieldType.object "java/lang/String"))).before a0 Z = true := hw _ (List.mem_of_getElem? (i := 3) rfl)
theorem w4 {a0 : Array Value} {Z : State} (hw : HW a0 Z) : (Jvm.Cond.classLink "com/example/avain/avain/model/AtomEqualsPinLaw" (19 : Nat) "java/lang/String").before a0 Z = true := hw _ (List.mem_of_getElem? (i := 4) rfl)
theorem w5 {a0 : Array Value} {Z : State} (hw : HW a0 Z) : (Jvm.Cond.instantiable "java/lang/String" (4 : Nat)).before a0 Z = true := hw _ (List.mem_of_getElem? (i := 5) rfl)
theorem w6 {a0 : Array Value} {Z : State} (hw : HW a0 Z) : (Jvm.Cond.initialized "java/lang/String").before a0 Z = true := hw _ (List.mem_of_getElem? (i := 6) rfl)
theorem w7 {a0 : Array Value} {Z : State} (hw : HW a0 Z) : (Jvm.Cond.arrayClass Jvm.ClassFile.FieldType.char).before a0 Z = true := hw _ (List.mem_of_getElem? (i := 7) rfl)
theorem w8 {a0 : Array Value} {Z : State} (hw : HW a0 Z) : (Jvm.Cond.methodLink "com/example/avain/avain/model/AtomEqualsPinLaw" (21 : Nat) ({ cls := "java/lang/String", name := "<init>", desc := "([C)V" } : Jvm.MethodName)).before a0 Z = true := hw _ (List.mem_of_getElem? (i := 8) rfl)
theorem w9 {a0 : Array Value} {Z : State} (hw : HW a0 Z) : (Jvm.Cond.instanceMethod ({ cls := "java/lang/String", name := "<init>", desc := "([C)V" } : Jvm.MethodName)).before a0 Z = true := hw _ (List.mem_of_getElem? (i := 9) rfl)
theorem w10 {a0 : Array Value} {Z : State} (hw : HW a0 Z) : (Jvm.Cond.code ({ cls := "java/lang/String", name := "<init>", desc := "([C)V" } : Jvm.MethodName) jdk_42_method_3_code (2 : Nat) (Option.none : Option Jvm.ClassFile.FieldType)).before a0 Z = true := hw _ (List.mem_of_getElem? (i := 10) rfl)
theorem w11 {a0 : Array Value} {Z : State} (hw : HW a0 Z) : (Jvm.Cond.methodLink "java/lang/String" (27 : Nat) ({ cls := "java/lang/String", name := "<init>", desc := "([CIILjava/lang/Void;)V" } : Jvm.MethodName)).before a0 Z = true := hw _ (List.mem_of_getElem? (i := 11) rfl)
theorem w12 {a0 : Array Value} {Z : State} (hw : HW a0 Z) : (Jvm.Cond.instanceMethod ({ cls := "java/lang/String", name := "<init>", desc := "([CIILjava/lang/Void;)V" } : Jvm.MethodName)).before a0 Z = true := hw _ (List.mem_of_getElem? (i := 12) rfl)
theorem w14 {a0 : Array Value} {Z : State} (hw : HW a0 Z) : (Jvm.Cond.code ({ cls := "java/lang/String", name := "<init>", desc := "([CIILjava/lang/Void;)V" } : Jvm.MethodName) jdk_42_method_149_code (6 : Nat) (Option.none : Option Jvm.ClassFile.FieldType)).before a0 Z = true := hw _ (List.mem_of_getElem? (i := 14) rfl)
theorem w15 {a0 : Array Value} {Z : State} (hw : HW a0 Z) : (Jvm.Cond.methodLink "java/lang/String" (1 : Nat) ({ cls := "java/lang/Object", name := "<init>", desc := "()V" } : Jvm.MethodName)).before a0 Z = true := hw _ (List.mem_of_getElem? (i := 15) rfl)
theorem w16 {a0 : Array Value} {Z : State} (hw : HW a0 Z) : (Jvm.Cond.instanceMethod ({ cls := "java/lang/Object", name := "<init>", desc := "()V" } : Jvm.MethodName)).before a0 Z = true := hw _ (List.mem_of_getElem? (i := 16) rfl)
theorem w17 {a0 : Array Value} {Z : State} (hw : HW a0 Z) : (Jvm.Cond.code ({ cls := "java/lang/Object", name := "<init>", desc := "()V" } : Jvm.MethodName) object_method_1_code (1 : Nat) (Option.none : Option Jvm.ClassFile.FieldType)).before a0 Z = true := hw _ (List.mem_of_getElem? (i := 17) rfl)
theorem w18 {a0 : Array Value} {Z : State} (hw : HW a0 Z) : (Jvm.Cond.stringLink "java/lang/String" (7 : Nat) "").before a0 Z = true := hw _ (List.mem_of_getElem? (i := 18) rfl)
theorem w19 {a0 : Array Value} {Z : State} (hw : HW a0 Z) : (Jvm.Cond.arrayClass Jvm.ClassFile.FieldType.byte).before a0 Z = true := hw _ (List.mem_of_getElem? (i := 19) rfl)
theorem w20 {a0 : Array Value} {Z : State} (hw : HW a0 Z) : (Jvm.Cond.laysFinal "java/lang/String" "java/lang/String" "value" "[B").before a0 Z = true := hw _ (List.mem_of_getElem? (i := 20) rfl)
theorem w21 {a0 : Array Value} {Z : State} (hw : HW a0 Z) : (Jvm.Cond.laysFinal "java/lang/String" "java/lang/String" "coder" "B").before a0 Z = true := hw _ (List.mem_of_getElem? (i := 21) rfl)
theorem w24 {a0 : Array Value} {Z : State} (hw : HW a0 Z) : (Jvm.Cond.fieldLink "java/lang/String" (9 : Nat) "java/lang/String" "value" "[B").before a0 Z = true := hw _ (List.mem_of_getElem? (i := 24) rfl)
theorem w25 {a0 : Array Value} {Z : State} (hw : HW a0 Z) : (Jvm.Cond.fieldLink "java/lang/String" (15 : Nat) "java/lang/String" "coder" "B").before a0 Z = true := hw _ (List.mem_of_getElem? (i := 25) rfl)
theorem w26 {a0 : Array Value} {Z : State} (hw : HW a0 Z) : (Jvm.Cond.classLink "com/example/avain/avain/model/AtomEqualsPinLaw" (30 : Nat) "com/example/avain/avain/model/Atom").before a0 Z = true := hw _ (List.mem_of_getElem? (i := 26) rfl)
theorem w27 {a0 : Array Value} {Z : State} (hw : HW a0 Z) : (Jvm.Cond.instantiable "com/example/avain/avain/model/Atom" (3 : Nat)).before a0 Z = true := hw _ (List.mem_of_getElem? (i := 27) rfl)
theorem w28 {a0 : Array Value} {Z : State} (hw : HW a0 Z) : (Jvm.Cond.initialized "com/example/avain/avain/model/Atom").before a0 Z = true := hw _ (List.mem_of_getElem? (i := 28) rfl)
theorem w29 {a0 : Array Value} {Z : State} (hw : HW a0 Z) : (Jvm.Cond.methodLink "com/example/avain/avain/model/AtomEqualsPinLaw" (32 : Nat) ({ cls := "com/example/avain/avain/model/AtomEqualsPinLaw", name := "typeOf", desc := "(I)Lcom/example/avain/avain/model/Type;" } : Jvm.MethodName)).before a0 Z = true := hw _ (List.mem_of_getElem? (i := 29) rfl)
theorem w30 {a0 : Array Value} {Z : State} (hw : HW a0 Z) : (Jvm.Cond.static ({ cls := "com/example/avain/avain/model/AtomEqualsPinLaw", name := "typeOf", desc := "(I)Lcom/example/avain/avain/model/Type;" } : Jvm.MethodName)).before a0 Z = true := hw _ (List.mem_of_getElem? (i := 30) rfl)
theorem w31 {a0 : Array Value} {Z : State} (hw : HW a0 Z) : (Jvm.Cond.code ({ cls := "com/example/avain/avain/model/AtomEqualsPinLaw", name := "typeOf", desc := "(I)Lcom/example/avain/avain/model/Type;" } : Jvm.MethodName) method_2_code (1 : Nat) (Option.some (Jvm.ClassFile.FieldType.object "com/example/avain/avain/model/Type"))).before a0 Z = true := hw _ (List.mem_of_getElem? (i := 31) rfl)
theorem w32 {a0 : Array Value} {Z : State} (hw : HW a0 Z) : (Jvm.Cond.fieldLink "com/example/avain/avain/model/AtomEqualsPinLaw" (7 : Nat) "com/example/avain/avain/model/Type" "AGENT" "Lcom/example/avain/avain/model/Type;").before a0 Z = true := hw _ (List.mem_of_getElem? (i := 32) rfl)
theorem w33 {a0 : Array Value} {Z : State} (hw : HW a0 Z) : (Jvm.Cond.initialized "com/example/avain/avain/model/Type").before a0 Z = true := hw _ (List.mem_of_getElem? (i := 33) rfl)
theorem w34 {a0 : Array Value} {Z : State} (hw : HW a0 Z) : (Jvm.Cond.laysStatic "com/example/avain/avain/model/Type" "AGENT" "Lcom/example/avain/avain/model/Type;").before a0 Z = true := hw _ (List.mem_of_getElem? (i := 34) rfl)
theorem w35 {a0 : Array Value} {Z : State} (hw : HW a0 Z) : (Jvm.Cond.methodLink "com/example/avain/avain/model/AtomEqualsPinLaw" (36 : Nat) ({ cls := "com/example/avain/avain/model/Atom", name := "<init>", desc := "(Lcom/example/avain/avain/model/Type;Ljava/lang/String;)V" } : Jvm.MethodName)).before a0 Z = true := hw _ (List.mem_of_getElem? (i := 35) rfl)
theorem w36 {a0 : Array Value} {Z : State} (hw : HW a0 Z) : (Jvm.Cond.instanceMethod ({ cls := "com/example/avain/avain/model/Atom", name := "<init>", desc := "(Lcom/example/avain/avain/model/Type;Ljava/lang/String;)V" } : Jvm.MethodName)).before a0 Z = true := hw _ (List.mem_of_getElem? (i := 36) rfl)
theorem w37 {a0 : Array Value} {Z : State} (hw : HW a0 Z) : (Jvm.Cond.code ({ cls := "com/example/avain/avain/model/Atom", name := "<init>", desc := "(Lcom/example/avain/avain/model/Type;Ljava/lang/String;)V" } : Jvm.MethodName) prog_44_method_1_code (3 : Nat) (Option.none : Option Jvm.ClassFile.FieldType)).before a0 Z = true := hw _ (List.mem_of_getElem? (i := 37) rfl)
theorem w38 {a0 : Array Value} {Z : State} (hw : HW a0 Z) : (Jvm.Cond.methodLink "com/example/avain/avain/model/Atom" (1 : Nat) ({ cls := "java/lang/Object", name := "<init>", desc := "()V" } : Jvm.MethodName)).before a0 Z = true := hw _ (List.mem_of_getElem? (i := 38) rfl)
theorem w39 {a0 : Array Value} {Z : State} (hw : HW a0 Z) : (Jvm.Cond.fieldLink "com/example/avain/avain/model/Atom" (7 : Nat) "com/example/avain/avain/model/Type" "FUNCTION" "Lcom/example/avain/avain/model/Type;").before a0 Z = true := hw _ (List.mem_of_getElem? (i := 39) rfl)
theorem w40 {a0 : Array Value} {Z : State} (hw : HW a0 Z) : (Jvm.Cond.laysStatic "com/example/avain/avain/model/Type" "FUNCTION" "Lcom/example/avain/avain/model/Type;").before a0 Z = true := hw _ (List.mem_of_getElem? (i := 40) rfl)
theorem w41 {a0 : Array Value} {Z : State} (hw : HW a0 Z) : (Jvm.Cond.stringLink "com/example/avain/avain/model/Atom" (22 : Nat) "type").before a0 Z = true := hw _ (List.mem_of_getElem? (i := 41) rfl)
theorem w42 {a0 : Array Value} {Z : State} (hw : HW a0 Z) : (Jvm.Cond.methodLink "com/example/avain/avain/model/Atom" (24 : Nat) ({ cls := "java/util/Objects", name := "requireNonNull", desc := "(Ljava/lang/Object;Ljava/lang/String;)Ljava/lang/Object;" } : Jvm.MethodName)).before a0 Z = true := hw _ (List.mem_of_getElem? (i := 42) rfl)
theorem w43 {a0 : Array Value} {Z : State} (hw : HW a0 Z) : (Jvm.Cond.static ({ cls := "java/util/Objects", name := "requireNonNull", desc := "(Ljava/lang/Object;Ljava/lang/String;)Ljava/lang/Object;" } : Jvm.MethodName)).before a0 Z = true := hw _ (List.mem_of_getElem? (i := 43) rfl)
theorem w44 {a0 : Array Value} {Z : State} (hw : HW a0 Z) : (Jvm.Cond.initialized "java/util/Objects").before a0 Z = true := hw _ (List.mem_of_getElem? (i := 44) rfl)
theorem w45 {a0 : Array Value} {Z : State} (hw : HW a0 Z) : (Jvm.Cond.code ({ cls := "java/util/Objects", name := "requireNonNull", desc := "(Ljava/lang/Object;Ljava/lang/String;)Ljava/lang/Object;" } : Jvm.MethodName) jdk_31_method_11_code (2 : Nat) (Option.some (Jvm.ClassFile.FieldType.object "java/lang/Object"))).before a0 Z = true := hw _ (List.mem_of_getElem? (i := 45) rfl)
theorem w46 {a0 : Array Value} {Z : State} (hw : HW a0 Z) : (Jvm.Cond.classLink "com/example/avain/avain/model/Atom" (8 : Nat) "com/example/avain/avain/model/Type").before a0 Z = true := hw _ (List.mem_of_getElem? (i := 46) rfl)
theorem w48 {a0 : Array Value} {Z : State} (hw : HW a0 Z) : (Jvm.Cond.fieldLink "com/example/avain/avain/model/Atom" (30 : Nat) "com/example/avain/avain/model/Atom" "type" "Lcom/example/avain/avain/model/Type;").before a0 Z = true := hw _ (List.mem_of_getElem? (i := 48) rfl)
theorem w49 {a0 : Array Value} {Z : State} (hw : HW a0 Z) : (Jvm.Cond.laysFinal "com/example/avain/avain/model/Atom" "com/example/avain/avain/model/Atom" "type" "Lcom/example/avain/avain/model/Type;").before a0 Z = true := hw _ (List.mem_of_getElem? (i := 49) rfl)
theorem w50 {a0 : Array Value} {Z : State} (hw : HW a0 Z) : (Jvm.Cond.stringLink "com/example/avain/avain/model/Atom" (34 : Nat) "text").before a0 Z = true := hw _ (List.mem_of_getElem? (i := 50) rfl)
theorem w51 {a0 : Array Value} {Z : State} (hw : HW a0 Z) : (Jvm.Cond.classLink "com/example/avain/avain/model/Atom" (36 : Nat) "java/lang/String").before a0 Z = true := hw _ (List.mem_of_getElem? (i := 51) rfl)
theorem w52 {a0 : Array Value} {Z : State} (hw : HW a0 Z) : (Jvm.Cond.fieldLink "com/example/avain/avain/model/Atom" (38 : Nat) "com/example/avain/avain/model/Atom" "text" "Ljava/lang/String;").before a0 Z = true := hw _ (List.mem_of_getElem? (i := 52) rfl)
theorem w53 {a0 : Array Value} {Z : State} (hw : HW a0 Z) : (Jvm.Cond.laysFinal "com/example/avain/avain/model/Atom" "com/example/avain/avain/model/Atom" "text" "Ljava/lang/String;").before a0 Z = true := hw _ (List.mem_of_getElem? (i := 53) rfl)
theorem w54 {a0 : Array Value} {Z : State} (hw : HW a0 Z) : (Jvm.Cond.methodLink "com/example/avain/avain/model/Atom" (41 : Nat) ({ cls := "com/example/avain/avain/model/Type", name := "ordinal", desc := "()I" } : Jvm.MethodName)).before a0 Z = true := hw _ (List.mem_of_getElem? (i := 54) rfl)
theorem w55 {a0 : Array Value} {Z : State} (hw : HW a0 Z) : (Jvm.Cond.sameMethod "com/example/avain/avain/model/Type" "java/lang/Enum" "ordinal" "()I").before a0 Z = true := hw _ (List.mem_of_getElem? (i := 55) rfl)
theorem w56 {a0 : Array Value} {Z : State} (hw : HW a0 Z) : (Jvm.Cond.declares ({ cls := "java/lang/Enum", name := "ordinal", desc := "()I" } : Jvm.MethodName)).before a0 Z = true := hw _ (List.mem_of_getElem? (i := 56) rfl)
theorem w57 {a0 : Array Value} {Z : State} (hw : HW a0 Z) : (Jvm.Cond.instanceMethod ({ cls := "java/lang/Enum", name := "ordinal", desc := "()I" } : Jvm.MethodName)).before a0 Z = true := hw _ (List.mem_of_getElem? (i := 57) rfl)
theorem w58 {a0 : Array Value} {Z : State} (hw : HW a0 Z) : (Jvm.Cond.selects "com/example/avain/avain/model/Type" ({ cls := "com/example/avain/avain/model/Type", name := "ordinal", desc := "()I" } : Jvm.MethodName) ({ cls := "java/lang/Enum", name := "ordinal", desc := "()I" } : Jvm.MethodName)).before a0 Z = true := hw _ (List.mem_of_getElem? (i := 58) rfl)
theorem w59 {a0 : Array Value} {Z : State} (hw : HW a0 Z) : (Jvm.Cond.initialized "java/lang/Enum").before a0 Z = true := hw _ (List.mem_of_getElem? (i := 59) rfl)
theorem w60 {a0 : Array Value} {Z : State} (hw : HW a0 Z) : (Jvm.Cond.code ({ cls := "java/lang/Enum", name := "ordinal", desc := "()I" } : Jvm.MethodName) jdk_37_method_2_code (1 : Nat) (Option.some Jvm.ClassFile.FieldType.int)).before a0 Z = true := hw _ (List.mem_of_getElem? (i := 60) rfl)
theorem w61 {a0 : Array Value} {Z : State} (hw : HW a0 Z) : (Jvm.Cond.fieldLink "java/lang/Enum" (7 : Nat) "java/lang/Enum" "ordinal" "I").before a0 Z = true := hw _ (List.mem_of_getElem? (i := 61) rfl)
theorem w63 {a0 : Array Value} {Z : State} (hw : HW a0 Z) : (Jvm.Cond.methodLink "com/example/avain/avain/model/Atom" (45 : Nat) ({ cls := "java/lang/String", name := "hashCode", desc := "()I" } : Jvm.MethodName)).before a0 Z = true := hw _ (List.mem_of_getElem? (i := 63) rfl)
theorem w64 {a0 : Array Value} {Z : State} (hw : HW a0 Z) : (Jvm.Cond.declares ({ cls := "java/lang/String", name := "hashCode", desc := "()I" } : Jvm.MethodName)).before a0 Z = true := hw _ (List.mem_of_getElem? (i := 64) rfl)
theorem w65 {a0 : Array Value} {Z : State} (hw : HW a0 Z) : (Jvm.Cond.instanceMethod ({ cls := "java/lang/String", name := "hashCode", desc := "()I" } : Jvm.MethodName)).before a0 Z = true := hw _ (List.mem_of_getElem? (i := 65) rfl)
theorem w66 {a0 : Array Value} {Z : State} (hw : HW a0 Z) : (Jvm.Cond.selects "java/lang/String" ({ cls := "java/lang/String", name := "hashCode", desc := "()I" } : Jvm.MethodName) ({ cls := "java/lang/String", name := "hashCode", desc := "()I" } : Jvm.MethodName)).before a0 Z = true := hw _ (List.mem_of_getElem? (i := 66) rfl)
theorem w67 {a0 : Array Value} {Z : State} (hw : HW a0 Z) : (Jvm.Cond.code ({ cls := "java/lang/String", name := "hashCode", desc := "()I" } : Jvm.MethodName) jdk_42_method_78_code (2 : Nat) (Option.some Jvm.ClassFile.FieldType.int)).before a0 Z = true := hw _ (List.mem_of_getElem? (i := 67) rfl)
theorem w68 {a0 : Array Value} {Z : State} (hw : HW a0 Z) : (Jvm.Cond.fieldLink "java/lang/String" (19 : Nat) "java/lang/String" "hash" "I").before a0 Z = true := hw _ (List.mem_of_getElem? (i := 68) rfl)
theorem w69 {a0 : Array Value} {Z : State} (hw : HW a0 Z) : (Jvm.Cond.lays "java/lang/String" "java/lang/String" "hash" "I").before a0 Z = true := hw _ (List.mem_of_getElem? (i := 69) rfl)
theorem w70 {a0 : Array Value} {Z : State} (hw : HW a0 Z) : (Jvm.Cond.fieldLink "java/lang/String" (23 : Nat) "java/lang/String" "hashIsZero" "Z").before a0 Z = true := hw _ (List.mem_of_getElem? (i := 70) rfl)
theorem w71 {a0 : Array Value} {Z : State} (hw : HW a0 Z) : (Jvm.Cond.lays "java/lang/String" "java/lang/String" "hashIsZero" "Z").before a0 Z = true := hw _ (List.mem_of_getElem? (i := 71) rfl)
theorem w72 {a0 : Array Value} {Z : State} (hw : HW a0 Z) : (Jvm.Cond.methodLink "java/lang/String" (492 : Nat) ({ cls := "java/lang/String", name := "isLatin1", desc := "()Z" } : Jvm.MethodName)).before a0 Z = true := hw _ (List.mem_of_getElem? (i := 72) rfl)
theorem w73 {a0 : Array Value} {Z : State} (hw : HW a0 Z) : (Jvm.Cond.declares ({ cls := "java/lang/String", name := "isLatin1", desc := "()Z" } : Jvm.MethodName)).before a0 Z = true := hw _ (List.mem_of_getElem? (i := 73) rfl)
theorem w74 {a0 : Array Value} {Z : State} (hw : HW a0 Z) : (Jvm.Cond.instanceMethod ({ cls := "java/lang/String", name := "isLatin1", desc := "()Z" } : Jvm.MethodName)).before a0 Z = true := hw _ (List.mem_of_getElem? (i := 74) rfl)
theorem w75 {a0 : Array Value} {Z : State} (hw : HW a0 Z) : (Jvm.Cond.selects "java/lang/String" ({ cls := "java/lang/String", name := "isLatin1", desc := "()Z" } : Jvm.MethodName) ({ cls := "java/lang/String", name := "isLatin1", desc := "()Z" } : Jvm.MethodName)).before a0 Z = true := hw _ (List.mem_of_getElem? (i := 75) rfl)
theorem w76 {a0 : Array Value} {Z : State} (hw : HW a0 Z) : (Jvm.Cond.code ({ cls := "java/lang/String", name := "isLatin1", desc := "()Z" } : Jvm.MethodName) jdk_42_method_154_code (1 : Nat) (Option.some Jvm.ClassFile.FieldType.boolean)).before a0 Z = true := hw _ (List.mem_of_getElem? (i := 76) rfl)
theorem w77 {a0 : Array Value} {Z : State} (hw : HW a0 Z) : (Jvm.Cond.fieldLink "java/lang/String" (38 : Nat) "java/lang/String" "COMPACT_STRINGS" "Z").before a0 Z = true := hw _ (List.mem_of_getElem? (i := 77) rfl)
theorem w78 {a0 : Array Value} {Z : State} (hw : HW a0 Z) : (Jvm.Cond.methodLink "java/lang/String" (628 : Nat) ({ cls := "java/lang/StringLatin1", name := "hashCode", desc := "([B)I" } : Jvm.MethodName)).before a0 Z = true := hw _ (List.mem_of_getElem? (i := 78) rfl)
theorem w79 {a0 : Array Value} {Z : State} (hw : HW a0 Z) : (Jvm.Cond.static ({ cls := "java/lang/StringLatin1", name := "hashCode", desc := "([B)I" } : Jvm.MethodName)).before a0 Z = true := hw _ (List.mem_of_getElem? (i := 79) rfl)
theorem w80 {a0 : Array Value} {Z : State} (hw : HW a0 Z) : (Jvm.Cond.initialized "java/lang/StringLatin1").before a0 Z = true := hw _ (List.mem_of_getElem? (i := 80) rfl)
theorem w81 {a0 : Array Value} {Z : State} (hw : HW a0 Z) : (Jvm.Cond.code ({ cls := "java/lang/StringLatin1", name := "hashCode", desc := "([B)I" } : Jvm.MethodName) jdk_43_method_21_code (1 : Nat) (Option.some Jvm.ClassFile.FieldType.int)).before a0 Z = true := hw _ (List.mem_of_getElem? (i := 81) rfl)
theorem w82 {a0 : Array Value} {Z : State} (hw : HW a0 Z) : (Jvm.Cond.fieldLink "com/example/avain/avain/model/Atom" (48 : Nat) "com/example/avain/avain/model/Atom" "hash" "I").before a0 Z = true := hw _ (List.mem_of_getElem? (i := 82) rfl)
theorem w83 {a0 : Array Value} {Z : State} (hw : HW a0 Z) : (Jvm.Cond.laysFinal "com/example/avain/avain/model/Atom" "com/example/avain/avain/model/Atom" "hash" "I").before a0 Z = true := hw _ (List.mem_of_getElem? (i := 83) rfl)
theorem w84 {a0 : Array Value} {Z : State} (hw : HW a0 Z) : (Jvm.Cond.methodLink "com/example/avain/avain/model/AtomEqualsPinLaw" (45 : Nat) ({ cls := "com/example/avain/avain/model/Atom", name := "equals", desc := "(Ljava/lang/Object;)Z" } : Jvm.MethodName)).before a0 Z = true := hw _ (List.mem_of_getElem? (i := 84) rfl)
theorem w85 {a0 : Array Value} {Z : State} (hw : HW a0 Z) : (Jvm.Cond.declares ({ cls := "com/example/avain/avain/model/Atom", name := "equals", desc := "(Ljava/lang/Object;)Z" } : Jvm.MethodName)).before a0 Z = true := hw _ (List.mem_of_getElem? (i := 85) rfl)
theorem w86 {a0 : Array Value} {Z : State} (hw : HW a0 Z) : (Jvm.Cond.instanceMethod ({ cls := "com/example/avain/avain/model/Atom", name := "equals", desc := "(Ljava/lang/Object;)Z" } : Jvm.MethodName)).before a0 Z = true := hw _ (List.mem_of_getElem? (i := 86) rfl)
theorem w87 {a0 : Array Value} {Z : State} (hw : HW a0 Z) : (Jvm.Cond.selects "com/example/avain/avain/model/Atom" ({ cls := "com/example/avain/avain/model/Atom", name := "equals", desc := "(Ljava/lang/Object;)Z" } : Jvm.MethodName) ({ cls := "com/example/avain/avain/model/Atom", name := "equals", desc := "(Ljava/lang/Object;)Z" } : Jvm.MethodName)).before a0 Z = true := hw _ (List.mem_of_getElem? (i := 87) rfl)
theorem w88 {a0 : Array Value} {Z : State} (hw : HW a0 Z) : (Jvm.Cond.code ({ cls := "com/example/avain/avain/model/Atom", name := "equals", desc := "(Ljava/lang/Object;)Z" } : Jvm.MethodName) prog_44_method_10_code (3 : Nat) (Option.some Jvm.ClassFile.FieldType.boolean)).before a0 Z = true := hw _ (List.mem_of_getElem? (i := 88) rfl)
theorem w89 {a0 : Array Value} {Z : State} (hw : HW a0 Z) : (Jvm.Cond.classLink "com/example/avain/avain/model/Atom" (31 : Nat) "com/example/avain/avain/model/Atom").before a0 Z = true := hw _ (List.mem_of_getElem? (i := 89) rfl)
theorem w91 {a0 : Array Value} {Z : State} (hw : HW a0 Z) : (Jvm.Cond.methodLink "com/example/avain/avain/model/Atom" (94 : Nat) ({ cls := "java/lang/String", name := "equals", desc := "(Ljava/lang/Object;)Z" } : Jvm.MethodName)).before a0 Z = true := hw _ (List.mem_of_getElem? (i := 91) rfl)
theorem w92 {a0 : Array Value} {Z : State} (hw : HW a0 Z) : (Jvm.Cond.declares ({ cls := "java/lang/String", name := "equals", desc := "(Ljava/lang/Object;)Z" } : Jvm.MethodName)).before a0 Z = true := hw _ (List.mem_of_getElem? (i := 92) rfl)
theorem w93 {a0 : Array Value} {Z : State} (hw : HW a0 Z) : (Jvm.Cond.instanceMethod ({ cls := "java/lang/String", name := "equals", desc := "(Ljava/lang/Object;)Z" } : Jvm.MethodName)).before a0 Z = true := hw _ (List.mem_of_getElem? (i := 93) rfl)
theorem w94 {a0 : Array Value} {Z : State} (hw : HW a0 Z) : (Jvm.Cond.selects "java/lang/String" ({ cls := "java/lang/String", name := "equals", desc := "(Ljava/lang/Object;)Z" } : Jvm.MethodName) ({ cls := "java/lang/String", name := "equals", desc := "(Ljava/lang/Object;)Z" } : Jvm.MethodName)).before a0 Z = true := hw _ (List.mem_of_getElem? (i := 94) rfl)
theorem w100 {a0 : Array Value} {Z : State} (hw : HW a0 Z) : (Jvm.Cond.fieldLink "com/example/avain/avain/model/AtomEqualsPinLaw" (13 : Nat) "com/example/avain/avain/model/Type" "NUMBER" "Lcom/example/avain/avain/model/Type;").before a0 Z = true := hw _ (List.mem_of_getElem? (i := 100) rfl)
theorem w101 {a0 : Array Value} {Z : State} (hw : HW a0 Z) : (Jvm.Cond.laysStatic "com/example/avain/avain/model/Type" "NUMBER" "Lcom/example/avain/avain/model/Type;").before a0 Z = true := hw _ (List.mem_of_getElem? (i := 101) rfl)
theorem w102 {a0 : Array Value} {Z : State} (hw : HW a0 Z) : (Jvm.Cond.methodLink "java/lang/String" (177 : Nat) ({ cls := "java/lang/StringUTF16", name := "compress", desc := "([CII)[B" } : Jvm.MethodName)).before a0 Z = true := hw _ (List.mem_of_getElem? (i := 102) rfl)
theorem w103 {a0 : Array Value} {Z : State} (hw : HW a0 Z) : (Jvm.Cond.static ({ cls := "java/lang/StringUTF16", name := "compress", desc := "([CII)[B" } : Jvm.MethodName)).before a0 Z = true := hw _ (List.mem_of_getElem? (i := 103) rfl)
theorem w104 {a0 : Array Value} {Z : State} (hw : HW a0 Z) : (Jvm.Cond.initialized "java/lang/StringUTF16").before a0 Z = true := hw _ (List.mem_of_getElem? (i := 104) rfl)
theorem w105 {a0 : Array Value} {Z : State} (hw : HW a0 Z) : (Jvm.Cond.code ({ cls := "java/lang/StringUTF16", name := "compress", desc := "([CII)[B" } : Jvm.MethodName) jdk_52_method_16_code (6 : Nat) (Option.some (Jvm.ClassFile.FieldType.array Jvm.ClassFile.FieldType.byte))).before a0 Z = true := hw _ (List.mem_of_getElem? (i := 105) rfl)
theorem w106 {a0 : Array Value} {Z : State} (hw : HW a0 Z) : (Jvm.Cond.methodLink "java/lang/StringUTF16" (115 : Nat) ({ cls := "java/lang/StringUTF16", name := "compress", desc := "([CI[BII)I" } : Jvm.MethodName)).before a0 Z = true := hw _ (List.mem_of_getElem? (i := 106) rfl)
theorem w107 {a0 : Array Value} {Z : State} (hw : HW a0 Z) : (Jvm.Cond.static ({ cls := "java/lang/StringUTF16", name := "compress", desc := "([CI[BII)I" } : Jvm.MethodName)).before a0 Z = true := hw _ (List.mem_of_getElem? (i := 107) rfl)
theorem w108 {a0 : Array Value} {Z : State} (hw : HW a0 Z) : (Jvm.Cond.code ({ cls := "java/lang/StringUTF16", name := "compress", desc := "([CI[BII)I" } : Jvm.MethodName) jdk_52_method_21_code (7 : Nat) (Option.some Jvm.ClassFile.FieldType.int)).before a0 Z = true := hw _ (List.mem_of_getElem? (i := 108) rfl)
theorem w109 {a0 : Array Value} {Z : State} (hw : HW a0 Z) : (Jvm.Cond.methodLink "java/lang/String" (47 : Nat) ({ cls := "java/lang/StringUTF16", name := "coderFromArrayLen", desc := "([BI)B" } : Jvm.MethodName)).before a0 Z = true := hw _ (List.mem_of_getElem? (i := 109) rfl)
theorem w110 {a0 : Array Value} {Z : State} (hw : HW a0 Z) : (Jvm.Cond.static ({ cls := "java/lang/StringUTF16", name := "coderFromArrayLen", desc := "([BI)B" } : Jvm.MethodName)).before a0 Z = true := hw _ (List.mem_of_getElem? (i := 110) rfl)
theorem w111 {a0 : Array Value} {Z : State} (hw : HW a0 Z) : (Jvm.Cond.code ({ cls := "java/lang/StringUTF16", name := "coderFromArrayLen", desc := "([BI)B" } : Jvm.MethodName) jdk_52_method_15_code (2 : Nat) (Option.some Jvm.ClassFile.FieldType.byte)).before a0 Z = true := hw _ (List.mem_of_getElem? (i := 111) rfl)
theorem w112 {a0 : Array Value} {Z : State} (hw : HW a0 Z) : (Jvm.Cond.methodLink "java/lang/StringLatin1" (84 : Nat) ({ cls := "jdk/internal/util/ArraysSupport", name := "vectorizedHashCode", desc := "(Ljava/lang/Object;IIII)I" } : Jvm.MethodName)).before a0 Z = true := hw _ (List.mem_of_getElem? (i := 112) rfl)
theorem w113 {a0 : Array Value} {Z : State} (hw : HW a0 Z) : (Jvm.Cond.static ({ cls := "jdk/internal/util/ArraysSupport", name := "vectorizedHashCode", desc := "(Ljava/lang/Object;IIII)I" } : Jvm.MethodName)).before a0 Z = true := hw _ (List.mem_of_getElem? (i := 113) rfl)
theorem w114 {a0 : Array Value} {Z : State} (hw : HW a0 Z) : (Jvm.Cond.initialized "jdk/internal/util/ArraysSupport").before a0 Z = true := hw _ (List.mem_of_getElem? (i := 114) rfl)
theorem w115 {a0 : Array Value} {Z : State} (hw : HW a0 Z) : (Jvm.Cond.code ({ cls := "jdk/internal/util/ArraysSupport", name := "vectorizedHashCode", desc := "(Ljava/lang/Object;IIII)I" } : Jvm.MethodName) jdk_48_method_4_code (5 : Nat) (Option.some Jvm.ClassFile.FieldType.int)).before a0 Z = true := hw _ (List.mem_of_getElem? (i := 115) rfl)
theorem w116 {a0 : Array Value} {Z : State} (hw : HW a0 Z) : (Jvm.Cond.classLink "jdk/internal/util/ArraysSupport" (60 : Nat) "[B").before a0 Z = true := hw _ (List.mem_of_getElem? (i := 116) rfl)
theorem w118 {a0 : Array Value} {Z : State} (hw : HW a0 Z) : (Jvm.Cond.methodLink "jdk/internal/util/ArraysSupport" (62 : Nat) ({ cls := "jdk/internal/util/ArraysSupport", name := "signedHashCode", desc := "(I[BII)I" } : Jvm.MethodName)).before a0 Z = true := hw _ (List.mem_of_getElem? (i := 118) rfl)
theorem w119 {a0 : Array Value} {Z : State} (hw : HW a0 Z) : (Jvm.Cond.static ({ cls := "jdk/internal/util/ArraysSupport", name := "signedHashCode", desc := "(I[BII)I" } : Jvm.MethodName)).before a0 Z = true := hw _ (List.mem_of_getElem? (i := 119) rfl)
theorem w120 {a0 : Array Value} {Z : State} (hw : HW a0 Z) : (Jvm.Cond.code ({ cls := "jdk/internal/util/ArraysSupport", name := "signedHashCode", desc := "(I[BII)I" } : Jvm.MethodName) jdk_48_method_5_code (6 : Nat) (Option.some Jvm.ClassFile.FieldType.int)).before a0 Z = true := hw _ (List.mem_of_getElem? (i := 120) rfl)
theorem w121 {a0 : Array Value} {Z : State} (hw : HW a0 Z) : (Jvm.Cond.methodLink "com/example/avain/avain/model/AtomEqualsPinLaw" (39 : Nat) ({ cls := "com/example/avain/avain/model/Variable", name := "of", desc := "(Ljava/lang/String;Lcom/example/avain/avain/model/Type;)Lcom/example/avain/avain/model/Variable;" } : Jvm.MethodName)).before a0 Z = true := hw _ (List.mem_of_getElem? (i := 121) rfl)
theorem w122 {a0 : Array Value} {Z : State} (hw : HW a0 Z) : (Jvm.Cond.static ({ cls := "com/example/avain/avain/model/Variable", name := "of", desc := "(Ljava/lang/String;Lcom/example/avain/avain/model/Type;)Lcom/example/avain/avain/model/Variable;" } : Jvm.MethodName)).before a0 Z = true := hw _ (List.mem_of_getElem? (i := 122) rfl)
theorem w123 {a0 : Array Value} {Z : State} (hw : HW a0 Z) : (Jvm.Cond.initialized "com/example/avain/avain/model/Variable").before a0 Z = true := hw _ (List.mem_of_getElem? (i := 123) rfl)
theorem w124 {a0 : Array Value} {Z : State} (hw : HW a0 Z) : (Jvm.Cond.code ({ cls := "com/example/avain/avain/model/Variable", name := "of", desc := "(Ljava/lang/String;Lcom/example/avain/avain/model/Type;)Lcom/example/avain/avain/model/Variable;" } : Jvm.MethodName) prog_61_method_2_code (2 : Nat) (Option.some (Jvm.ClassFile.FieldType.object "com/example/avain/avain/model/Variable"))).before a0 Z = true := hw _ (List.mem_of_getElem? (i := 124) rfl)
theorem w125 {a0 : Array Value} {Z : State} (hw : HW a0 Z) : (Jvm.Cond.fieldLink "com/example/avain/avain/model/Variable" (49 : Nat) "com/example/avain/avain/model/Type" "FUNCTION" "Lcom/example/avain/avain/model/Type;").before a0 Z = true := hw _ (List.mem_of_getElem? (i := 125) rfl)
theorem w126 {a0 : Array Value} {Z : State} (hw : HW a0 Z) : (Jvm.Cond.classLink "com/example/avain/avain/model/Variable" (18 : Nat) "com/example/avain/avain/model/Variable").before a0 Z = true := hw _ (List.mem_of_getElem? (i := 126) rfl)
theorem w127 {a0 : Array Value} {Z : State} (hw : HW a0 Z) : (Jvm.Cond.instantiable "com/example/avain/avain/model/Variable" (4 : Nat)).before a0 Z = true := hw _ (List.mem_of_getElem? (i := 127) rfl)
theorem w128 {a0 : Array Value} {Z : State} (hw : HW a0 Z) : (Jvm.Cond.methodLink "com/example/avain/avain/model/Variable" (61 : Nat) ({ cls := "com/example/avain/avain/model/Variable", name := "<init>", desc := "(Ljava/lang/String;Lcom/example/avain/avain/model/Type;Lcom/example/avain/avain/model/Term;)V" } : Jvm.MethodName)).before a0 Z = true := hw _ (List.mem_of_getElem? (i := 128) rfl)
theorem w129 {a0 : Array Value} {Z : State} (hw : HW a0 Z) : (Jvm.Cond.instanceMethod ({ cls := "com/example/avain/avain/model/Variable", name := "<init>", desc := "(Ljava/lang/String;Lcom/example/avain/avain/model/Type;Lcom/example/avain/avain/model/Term;)V" } : Jvm.MethodName)).before a0 Z = true := hw _ (List.mem_of_getElem? (i := 129) rfl)
theorem w130 {a0 : Array Value} {Z : State} (hw : HW a0 Z) : (Jvm.Cond.code ({ cls := "com/example/avain/avain/model/Variable", name := "<init>", desc := "(Ljava/lang/String;Lcom/example/avain/avain/model/Type;Lcom/example/avain/avain/model/Term;)V" } : Jvm.MethodName) prog_61_method_1_code (4 : Nat) (Option.none : Option Jvm.ClassFile.FieldType)).before a0 Z = true := hw _ (List.mem_of_getElem? (i := 130) rfl)
theorem w131 {a0 : Array Value} {Z : State} (hw : HW a0 Z) : (Jvm.Cond.methodLink "com/example/avain/avain/model/Variable" (1 : Nat) ({ cls := "java/lang/Object", name := "<init>", desc := "()V" } : Jvm.MethodName)).before a0 Z = true := hw _ (List.mem_of_getElem? (i := 131) rfl)
theorem w132 {a0 : Array Value} {Z : State} (hw : HW a0 Z) : (Jvm.Cond.stringLink "com/example/avain/avain/model/Variable" (7 : Nat) "name").before a0 Z = true := hw _ (List.mem_of_getElem? (i := 132) rfl)
theorem w133 {a0 : Array Value} {Z : State} (hw : HW a0 Z) : (Jvm.Cond.methodLink "com/example/avain/avain/model/Variable" (9 : Nat) ({ cls := "java/util/Objects", name := "requireNonNull", desc := "(Ljava/lang/Object;Ljava/lang/String;)Ljava/lang/Object;" } : Jvm.MethodName)).before a0 Z = true := hw _ (List.mem_of_getElem? (i := 133) rfl)
theorem w134 {a0 : Array Value} {Z : State} (hw : HW a0 Z) : (Jvm.Cond.classLink "com/example/avain/avain/model/Variable" (15 : Nat) "java/lang/String").before a0 Z = true := hw _ (List.mem_of_getElem? (i := 134) rfl)
theorem w135 {a0 : Array Value} {Z : State} (hw : HW a0 Z) : (Jvm.Cond.fieldLink "com/example/avain/avain/model/Variable" (17 : Nat) "com/example/avain/avain/model/Variable" "name" "Ljava/lang/String;").before a0 Z = true := hw _ (List.mem_of_getElem? (i := 135) rfl)
theorem w136 {a0 : Array Value} {Z : State} (hw : HW a0 Z) : (Jvm.Cond.laysFinal "com/example/avain/avain/model/Variable" "com/example/avain/avain/model/Variable" "name" "Ljava/lang/String;").before a0 Z = true := hw _ (List.mem_of_getElem? (i := 136) rfl)
theorem w137 {a0 : Array Value} {Z : State} (hw : HW a0 Z) : (Jvm.Cond.fieldLink "com/example/avain/avain/model/Variable" (22 : Nat) "com/example/avain/avain/model/Variable" "type" "Lcom/example/avain/avain/model/Type;").before a0 Z = true := hw _ (List.mem_of_getElem? (i := 137) rfl)
theorem w138 {a0 : Array Value} {Z : State} (hw : HW a0 Z) : (Jvm.Cond.laysFinal "com/example/avain/avain/model/Variable" "com/example/avain/avain/model/Variable" "type" "Lcom/example/avain/avain/model/Type;").before a0 Z = true := hw _ (List.mem_of_getElem? (i := 138) rfl)
theorem w139 {a0 : Array Value} {Z : State} (hw : HW a0 Z) : (Jvm.Cond.fieldLink "com/example/avain/avain/model/Variable" (26 : Nat) "com/example/avain/avain/model/Variable" "shape" "Lcom/example/avain/avain/model/Term;").before a0 Z = true := hw _ (List.mem_of_getElem? (i := 139) rfl)
theorem w140 {a0 : Array Value} {Z : State} (hw : HW a0 Z) : (Jvm.Cond.laysFinal "com/example/avain/avain/model/Variable" "com/example/avain/avain/model/Variable" "shape" "Lcom/example/avain/avain/model/Term;").before a0 Z = true := hw _ (List.mem_of_getElem? (i := 140) rfl)
theorem w141 {a0 : Array Value} {Z : State} (hw : HW a0 Z) : (Jvm.Cond.classLink "com/example/avain/avain/model/Variable" (2 : Nat) "java/lang/Object").before a0 Z = true := hw _ (List.mem_of_getElem? (i := 141) rfl)
theorem w142 {a0 : Array Value} {Z : State} (hw : HW a0 Z) : (Jvm.Cond.arrayOver (Jvm.ClassFile.FieldType.object "java/lang/Object")).before a0 Z = true := hw _ (List.mem_of_getElem? (i := 142) rfl)
theorem w143 {a0 : Array Value} {Z : State} (hw : HW a0 Z) : (Jvm.Cond.castable "java/lang/String" "java/lang/Object").before a0 Z = true := hw _ (List.mem_of_getElem? (i := 143) rfl)
theorem w144 {a0 : Array Value} {Z : State} (hw : HW a0 Z) : (Jvm.Cond.methodLink "com/example/avain/avain/model/Variable" (30 : Nat) ({ cls := "com/example/avain/avain/model/Type", name := "ordinal", desc := "()I" } : Jvm.MethodName)).before a0 Z = true := hw _ (List.mem_of_getElem? (i := 144) rfl)
theorem w145 {a0 : Array Value} {Z : State} (hw : HW a0 Z) : (Jvm.Cond.methodLink "com/example/avain/avain/model/Variable" (36 : Nat) ({ cls := "java/lang/Integer", name := "valueOf", desc := "(I)Ljava/lang/Integer;" } : Jvm.MethodName)).before a0 Z = true := hw _ (List.mem_of_getElem? (i := 145) rfl)
theorem w146 {a0 : Array Value} {Z : State} (hw : HW a0 Z) : (Jvm.Cond.static ({ cls := "java/lang/Integer", name := "valueOf", desc := "(I)Ljava/lang/Integer;" } : Jvm.MethodName)).before a0 Z = true := hw _ (List.mem_of_getElem? (i := 146) rfl)
theorem w147 {a0 : Array Value} {Z : State} (hw : HW a0 Z) : (Jvm.Cond.initialized "java/lang/Integer").before a0 Z = true := hw _ (List.mem_of_getElem? (i := 147) rfl)
theorem w148 {a0 : Array Value} {Z : State} (hw : HW a0 Z) : (Jvm.Cond.code ({ cls := "java/lang/Integer", name := "valueOf", desc := "(I)Ljava/lang/Integer;" } : Jvm.MethodName) jdk_33_method_22_code (1 : Nat) (Option.some (Jvm.ClassFile.FieldType.object "java/lang/Integer"))).before a0 Z = true := hw _ (List.mem_of_getElem? (i := 148) rfl)
theorem w149 {a0 : Array Value} {Z : State} (hw : HW a0 Z) : (Jvm.Cond.fieldLink "java/lang/Integer" (191 : Nat) "java/lang/Integer$IntegerCache" "high" "I").before a0 Z = true := hw _ (List.mem_of_getElem? (i := 149) rfl)
theorem w150 {a0 : Array Value} {Z : State} (hw : HW a0 Z) : (Jvm.Cond.initialized "java/lang/Integer$IntegerCache").before a0 Z = true := hw _ (List.mem_of_getElem? (i := 150) rfl)
theorem w151 {a0 : Array Value} {Z : State} (hw : HW a0 Z) : (Jvm.Cond.fieldLink "java/lang/Integer" (195 : Nat) "java/lang/Integer$IntegerCache" "cache" "[Ljava/lang/Integer;").before a0 Z = true := hw _ (List.mem_of_getElem? (i := 151) rfl)
theorem w152 {a0 : Array Value} {Z : State} (hw : HW a0 Z) : (Jvm.Cond.castable "java/lang/Integer" "java/lang/Object").before a0 Z = true := hw _ (List.mem_of_getElem? (i := 152) rfl)
theorem w153 {a0 : Array Value} {Z : State} (hw : HW a0 Z) : (Jvm.Cond.methodLink "com/example/avain/avain/model/Variable" (42 : Nat) ({ cls := "java/util/Objects", name := "hash", desc := "([Ljava/lang/Object;)I" } : Jvm.MethodName)).before a0 Z = true := hw _ (List.mem_of_getElem? (i := 153) rfl)
theorem w154 {a0 : Array Value} {Z : State} (hw : HW a0 Z) : (Jvm.Cond.static ({ cls := "java/util/Objects", name := "hash", desc := "([Ljava/lang/Object;)I" } : Jvm.MethodName)).before a0 Z = true := hw _ (List.mem_of_getElem? (i := 154) rfl)
theorem w155 {a0 : Array Value} {Z : State} (hw : HW a0 Z) : (Jvm.Cond.code ({ cls := "java/util/Objects", name := "hash", desc := "([Ljava/lang/Object;)I" } : Jvm.MethodName) jdk_31_method_5_code (1 : Nat) (Option.some Jvm.ClassFile.FieldType.int)).before a0 Z = true := hw _ (List.mem_of_getElem? (i := 155) rfl)
theorem w156 {a0 : Array Value} {Z : State} (hw : HW a0 Z) : (Jvm.Cond.methodLink "java/util/Objects" (28 : Nat) ({ cls := "java/util/Arrays", name := "hashCode", desc := "([Ljava/lang/Object;)I" } : Jvm.MethodName)).before a0 Z = true := hw _ (List.mem_of_getElem? (i := 156) rfl)
theorem w157 {a0 : Array Value} {Z : State} (hw : HW a0 Z) : (Jvm.Cond.static ({ cls := "java/util/Arrays", name := "hashCode", desc := "([Ljava/lang/Object;)I" } : Jvm.MethodName)).before a0 Z = true := hw _ (List.mem_of_getElem? (i := 157) rfl)
theorem w158 {a0 : Array Value} {Z : State} (hw : HW a0 Z) : (Jvm.Cond.initialized "java/util/Arrays").before a0 Z = true := hw _ (List.mem_of_getElem? (i := 158) rfl)
theorem w159 {a0 : Array Value} {Z : State} (hw : HW a0 Z) : (Jvm.Cond.code ({ cls := "java/util/Arrays", name := "hashCode", desc := "([Ljava/lang/Object;)I" } : Jvm.MethodName) jdk_65_method_157_code (6 : Nat) (Option.some Jvm.ClassFile.FieldType.int)).before a0 Z = true := hw _ (List.mem_of_getElem? (i := 159) rfl)
theorem w160 {a0 : Array Value} {Z : State} (hw : HW a0 Z) : (Jvm.Cond.methodLink "java/util/Arrays" (383 : Nat) ({ cls := "java/lang/Object", name := "hashCode", desc := "()I" } : Jvm.MethodName)).before a0 Z = true := hw _ (List.mem_of_getElem? (i := 160) rfl)
theorem w161 {a0 : Array Value} {Z : State} (hw : HW a0 Z) : (Jvm.Cond.declares ({ cls := "java/lang/Object", name := "hashCode", desc := "()I" } : Jvm.MethodName)).before a0 Z = true := hw _ (List.mem_of_getElem? (i := 161) rfl)
theorem w163 {a0 : Array Value} {Z : State} (hw : HW a0 Z) : (Jvm.Cond.selects "java/lang/String" ({ cls := "java/lang/Object", name := "hashCode", desc := "()I" } : Jvm.MethodName) ({ cls := "java/lang/String", name := "hashCode", desc := "()I" } : Jvm.MethodName)).before a0 Z = true := hw _ (List.mem_of_getElem? (i := 163) rfl)
theorem w164 {a0 : Array Value} {Z : State} (hw : HW a0 Z) : (Jvm.Cond.selects "java/lang/Integer" ({ cls := "java/lang/Object", name := "hashCode", desc := "()I" } : Jvm.MethodName) ({ cls := "java/lang/Integer", name := "hashCode", desc := "()I" } : Jvm.MethodName)).before a0 Z = true := hw _ (List.mem_of_getElem? (i := 164) rfl)
theorem w165 {a0 : Array Value} {Z : State} (hw : HW a0 Z) : (Jvm.Cond.instanceMethod ({ cls := "java/lang/Integer", name := "hashCode", desc := "()I" } : Jvm.MethodName)).before a0 Z = true := hw _ (List.mem_of_getElem? (i := 165) rfl)
theorem w166 {a0 : Array Value} {Z : State} (hw : HW a0 Z) : (Jvm.Cond.code ({ cls := "java/lang/Integer", name := "hashCode", desc := "()I" } : Jvm.MethodName) jdk_33_method_32_code (1 : Nat) (Option.some Jvm.ClassFile.FieldType.int)).before a0 Z = true := hw _ (List.mem_of_getElem? (i := 166) rfl)
theorem w167 {a0 : Array Value} {Z : State} (hw : HW a0 Z) : (Jvm.Cond.fieldLink "java/lang/Integer" (205 : Nat) "java/lang/Integer" "value" "I").before a0 Z = true := hw _ (List.mem_of_getElem? (i := 167) rfl)
theorem w169 {a0 : Array Value} {Z : State} (hw : HW a0 Z) : (Jvm.Cond.methodLink "java/lang/Integer" (208 : Nat) ({ cls := "java/lang/Integer", name := "hashCode", desc := "(I)I" } : Jvm.MethodName)).before a0 Z = true := hw _ (List.mem_of_getElem? (i := 169) rfl)
theorem w170 {a0 : Array Value} {Z : State} (hw : HW a0 Z) : (Jvm.Cond.static ({ cls := "java/lang/Integer", name := "hashCode", desc := "(I)I" } : Jvm.MethodName)).before a0 Z = true := hw _ (List.mem_of_getElem? (i := 170) rfl)
theorem w171 {a0 : Array Value} {Z : State} (hw : HW a0 Z) : (Jvm.Cond.code ({ cls := "java/lang/Integer", name := "hashCode", desc := "(I)I" } : Jvm.MethodName) jdk_33_method_33_code (1 : Nat) (Option.some Jvm.ClassFile.FieldType.int)).before a0 Z = true := hw _ (List.mem_of_getElem? (i := 171) rfl)
theorem w172 {a0 : Array Value} {Z : State} (hw : HW a0 Z) : (Jvm.Cond.fieldLink "com/example/avain/avain/model/Variable" (46 : Nat) "com/example/avain/avain/model/Variable" "hash" "I").before a0 Z = true := hw _ (List.mem_of_getElem? (i := 172) rfl)
theorem w173 {a0 : Array Value} {Z : State} (hw : HW a0 Z) : (Jvm.Cond.laysFinal "com/example/avain/avain/model/Variable" "com/example/avain/avain/model/Variable" "hash" "I").before a0 Z = true := hw _ (List.mem_of_getElem? (i := 173) rfl)
theorem w174 {a0 : Array Value} {Z : State} (hw : HW a0 Z) : (Jvm.Cond.superclass "com/example/avain/avain/model/Variable" "java/lang/Object").before a0 Z = true := hw _ (List.mem_of_getElem? (i := 174) rfl)
theorem w175 {a0 : Array Value} {Z : State} (hw : HW a0 Z) : (Jvm.Cond.noSuperclass "java/lang/Object").before a0 Z = true := hw _ (List.mem_of_getElem? (i := 175) rfl)
theorem w176 {a0 : Array Value} {Z : State} (hw : HW a0 Z) : (Jvm.Cond.superclass "java/lang/String" "java/lang/Object").before a0 Z = true := hw _ (List.mem_of_getElem? (i := 176) rfl)
theorem w177 {a0 : Array Value} {Z : State} (hw : HW a0 Z) : (Jvm.Cond.fieldLink "com/example/avain/avain/model/AtomEqualsPinLaw" (16 : Nat) "com/example/avain/avain/model/Type" "SYMMETRIC_KEY" "Lcom/example/avain/avain/model/Type;").before a0 Z = true := hw _ (List.mem_of_getElem? (i := 177) rfl)
theorem w178 {a0 : Array Value} {Z : State} (hw : HW a0 Z) : (Jvm.Cond.laysStatic "com/example/avain/avain/model/Type" "SYMMETRIC_KEY" "Lcom/example/avain/avain/model/Type;").before a0 Z = true := hw _ (List.mem_of_getElem? (i := 178) rfl)
theorem d1_0 : decode method_3_code 0 = .ok (.iload_n 0, 1) := by decide +kernel
theorem d1_1 : decode method_3_code 1 = .ok (.ifCond .ne 14, 3) := by decide +kernel
theorem d1_4 : decode method_3_code 4 = .ok (.new 19, 3) := by decide +kernel
theorem d1_7 : decode method_3_code 7 = .ok (.dup, 1) := by decide +kernel
theorem d1_8 : decode method_3_code 8 = .ok (.iconst 0, 1) := by decide +kernel
theorem d1_9 : decode method_3_code 9 = .ok (.newarray .char, 2) := by decide +kernel
theorem d1_11 : decode method_3_code 11 = .ok (.invokespecial 21, 3) := by decide +kernel
theorem d1_14 : decode method_3_code 14 = .ok (.areturn, 1) := by decide +kernel
theorem d1_15 : decode method_3_code 15 = .ok (.iload_n 0, 1) := by decide +kernel
theorem d1_16 : decode method_3_code 16 = .ok (.iconst 1, 1) := by decide +kernel
theorem d1_17 : decode method_3_code 17 = .ok (.if_icmp .ne 20, 3) := by decide +kernel
theorem d1_20 : decode method_3_code 20 = .ok (.iconst 1, 1) := by decide +kernel
theorem d1_21 : decode method_3_code 21 = .ok (.newarray .char, 2) := by decide +kernel
theorem d1_23 : decode method_3_code 23 = .ok (.astore_n 3, 1) := by decide +kernel
theorem d1_24 : decode method_3_code 24 = .ok (.aload_n 3, 1) := by decide +kernel
theorem d1_25 : decode method_3_code 25 = .ok (.iconst 0, 1) := by decide +kernel
theorem d1_26 : decode method_3_code 26 = .ok (.iload_n 1, 1) := by decide +kernel
theorem d1_27 : decode method_3_code 27 = .ok (.castore, 1) := by decide +kernel
theorem d1_28 : decode method_3_code 28 = .ok (.new 19, 3) := by decide +kernel
theorem d1_31 : decode method_3_code 31 = .ok (.dup, 1) := by decide +kernel
theorem d1_32 : decode method_3_code 32 = .ok (.aload_n 3, 1) := by decide +kernel
theorem d1_33 : decode method_3_code 33 = .ok (.invokespecial 21, 3) := by decide +kernel
theorem d1_36 : decode method_3_code 36 = .ok (.areturn, 1) := by decide +kernel
theorem d1_37 : decode method_3_code 37 = .ok (.iconst 2, 1) := by decide +kernel
theorem d1_38 : decode method_3_code 38 = .ok (.newarray .char, 2) := by decide +kernel
theorem d1_40 : decode method_3_code 40 = .ok (.astore_n 3, 1) := by decide +kernel
theorem d1_41 : decode method_3_code 41 = .ok (.aload_n 3, 1) := by decide +kernel
theorem d1_42 : decode method_3_code 42 = .ok (.iconst 0, 1) := by decide +kernel
theorem d1_43 : decode method_3_code 43 = .ok (.iload_n 1, 1) := by decide +kernel
theorem d1_44 : decode method_3_code 44 = .ok (.castore, 1) := by decide +kernel
theorem d1_45 : decode method_3_code 45 = .ok (.aload_n 3, 1) := by decide +kernel
theorem d1_46 : decode method_3_code 46 = .ok (.iconst 1, 1) := by decide +kernel
theorem d1_47 : decode method_3_code 47 = .ok (.iload_n 2, 1) := by decide +kernel
theorem d1_48 : decode method_3_code 48 = .ok (.castore, 1) := by decide +kernel
theorem d1_49 : decode method_3_code 49 = .ok (.new 19, 3) := by decide +kernel
theorem d1_52 : decode method_3_code 52 = .ok (.dup, 1) := by decide +kernel
theorem d1_53 : decode method_3_code 53 = .ok (.aload_n 3, 1) := by decide +kernel
theorem d1_54 : decode method_3_code 54 = .ok (.invokespecial 21, 3) := by decide +kernel
theorem d1_57 : decode method_3_code 57 = .ok (.areturn, 1) := by decide +kernel
theorem d2_0 : decode jdk_42_method_3_code 0 = .ok (.aload_n 0, 1) := by decide +kernel
theorem d2_1 : decode jdk_42_method_3_code 1 = .ok (.aload_n 1, 1) := by decide +kernel
theorem d2_2 : decode jdk_42_method_3_code 2 = .ok (.iconst 0, 1) := by decide +kernel
theorem d2_3 : decode jdk_42_method_3_code 3 = .ok (.aload_n 1, 1) := by decide +kernel
theorem d2_4 : decode jdk_42_method_3_code 4 = .ok (.arraylength, 1) := by decide +kernel
theorem d2_5 : decode jdk_42_method_3_code 5 = .ok (.aconst_null, 1) := by decide +kernel
theorem d2_6 : decode jdk_42_method_3_code 6 = .ok (.invokespecial 27, 3) := by decide +kernel
theorem d2_9 : decode jdk_42_method_3_code 9 = .ok (.return_, 1) := by decide +kernel
theorem d3_0 : decode jdk_42_method_149_code 0 = .ok (.aload_n 0, 1) := by decide +kernel
theorem d3_1 : decode jdk_42_method_149_code 1 = .ok (.invokespecial 1, 3) := by decide +kernel
theorem d3_4 : decode jdk_42_method_149_code 4 = .ok (.iload_n 3, 1) := by decide +kernel
theorem d3_5 : decode jdk_42_method_149_code 5 = .ok (.ifCond .ne 22, 3) := by decide +kernel
theorem d3_8 : decode jdk_42_method_149_code 8 = .ok (.aload_n 0, 1) := by decide +kernel
theorem d3_9 : decode jdk_42_method_149_code 9 = .ok (.ldc 7, 2) := by decide +kernel
theorem d3_11 : decode jdk_42_method_149_code 11 = .ok (.getfield 9, 3) := by decide +kernel
theorem d3_14 : decode jdk_42_method_149_code 14 = .ok (.putfield 9, 3) := by decide +kernel
theorem d3_17 : decode jdk_42_method_149_code 17 = .ok (.aload_n 0, 1) := by decide +kernel
theorem d3_18 : decode jdk_42_method_149_code 18 = .ok (.ldc 7, 2) := by decide +kernel
theorem d3_20 : decode jdk_42_method_149_code 20 = .ok (.getfield 15, 3) := by decide +kernel
theorem d3_23 : decode jdk_42_method_149_code 23 = .ok (.putfield 15, 3) := by decide +kernel
theorem d3_26 : decode jdk_42_method_149_code 26 = .ok (.return_, 1) := by decide +kernel
theorem d3_27 : decode jdk_42_method_149_code 27 = .ok (.getstatic 38, 3) := by decide +kernel
theorem d3_30 : decode jdk_42_method_149_code 30 = .ok (.ifCond .eq 28, 3) := by decide +kernel
theorem d3_33 : decode jdk_42_method_149_code 33 = .ok (.aload_n 1, 1) := by decide +kernel
theorem d3_34 : decode jdk_42_method_149_code 34 = .ok (.iload_n 2, 1) := by decide +kernel
theorem d3_35 : decode jdk_42_method_149_code 35 = .ok (.iload_n 3, 1) := by decide +kernel
theorem d3_36 : decode jdk_42_method_149_code 36 = .ok (.invokestatic 177, 3) := by decide +kernel
theorem d3_39 : decode jdk_42_method_149_code 39 = .ok (.astore 5, 2) := by decide +kernel
theorem d3_41 : decode jdk_42_method_149_code 41 = .ok (.aload_n 0, 1) := by decide +kernel
theorem d3_42 : decode jdk_42_method_149_code 42 = .ok (.aload 5, 2) := by decide +kernel
theorem d3_44 : decode jdk_42_method_149_code 44 = .ok (.iload_n 3, 1) := by decide +kernel
theorem d3_45 : decode jdk_42_method_149_code 45 = .ok (.invokestatic 47, 3) := by decide +kernel
theorem d3_48 : decode jdk_42_method_149_code 48 = .ok (.putfield 15, 3) := by decide +kernel
theorem d3_51 : decode jdk_42_method_149_code 51 = .ok (.aload_n 0, 1) := by decide +kernel
theorem d3_52 : decode jdk_42_method_149_code 52 = .ok (.aload 5, 2) := by decide +kernel
theorem d3_54 : decode jdk_42_method_149_code 54 = .ok (.putfield 9, 3) := by decide +kernel
theorem d3_57 : decode jdk_42_method_149_code 57 = .ok (.return_, 1) := by decide +kernel
theorem d5_0 : decode method_2_code 0 = .ok (.iload_n 0, 1) := by decide +kernel
theorem d5_1 : decode method_2_code 1 = .ok (.ifCond .ne 7, 3) := by decide +kernel
theorem d5_4 : decode method_2_code 4 = .ok (.getstatic 7, 3) := by decide +kernel
theorem d5_7 : decode method_2_code 7 = .ok (.areturn, 1) := by decide +kernel
theorem d5_8 : decode method_2_code 8 = .ok (.iload_n 0, 1) := by decide +kernel
theorem d5_9 : decode method_2_code 9 = .ok (.iconst 1, 1) := by decide +kernel
theorem d5_10 : decode method_2_code 10 = .ok (.if_icmp .ne 7, 3) := by decide +kernel
theorem d5_13 : decode method_2_code 13 = .ok (.getstatic 13, 3) := by decide +kernel
theorem d5_16 : decode method_2_code 16 = .ok (.areturn, 1) := by decide +kernel
theorem d5_17 : decode method_2_code 17 = .ok (.getstatic 16, 3) := by decide +kernel
theorem d5_20 : decode method_2_code 20 = .ok (.areturn, 1) := by decide +kernel
theorem d6_0 : decode prog_44_method_1_code 0 = .ok (.aload_n 0, 1) := by decide +kernel
theorem d6_1 : decode prog_44_method_1_code 1 = .ok (.invokespecial 1, 3) := by decide +kernel
theorem d6_4 : decode prog_44_method_1_code 4 = .ok (.aload_n 1, 1) := by decide +kernel
theorem d6_5 : decode prog_44_method_1_code 5 = .ok (.getstatic 7, 3) := by decide +kernel
theorem d6_8 : decode prog_44_method_1_code 8 = .ok (.if_acmp .ne 17, 3) := by decide +kernel
theorem d6_25 : decode prog_44_method_1_code 25 = .ok (.aload_n 0, 1) := by decide +kernel
theorem d6_26 : decode prog_44_method_1_code 26 = .ok (.aload_n 1, 1) := by decide +kernel
theorem d6_27 : decode prog_44_method_1_code 27 = .ok (.ldc 22, 2) := by decide +kernel
theorem d6_29 : decode prog_44_method_1_code 29 = .ok (.invokestatic 24, 3) := by decide +kernel
theorem d6_32 : decode prog_44_method_1_code 32 = .ok (.checkcast 8, 3) := by decide +kernel
theorem d6_35 : decode prog_44_method_1_code 35 = .ok (.putfield 30, 3) := by decide +kernel
theorem d6_38 : decode prog_44_method_1_code 38 = .ok (.aload_n 0, 1) := by decide +kernel
theorem d6_39 : decode prog_44_method_1_code 39 = .ok (.aload_n 2, 1) := by decide +kernel
theorem d6_40 : decode prog_44_method_1_code 40 = .ok (.ldc 34, 2) := by decide +kernel
theorem d6_42 : decode prog_44_method_1_code 42 = .ok (.invokestatic 24, 3) := by decide +kernel
theorem d6_45 : decode prog_44_method_1_code 45 = .ok (.checkcast 36, 3) := by decide +kernel
theorem d6_48 : decode prog_44_method_1_code 48 = .ok (.putfield 38, 3) := by decide +kernel
theorem d6_51 : decode prog_44_method_1_code 51 = .ok (.aload_n 0, 1) := by decide +kernel
theorem d6_52 : decode prog_44_method_1_code 52 = .ok (.bipush 31, 2) := by decide +kernel
theorem d6_54 : decode prog_44_method_1_code 54 = .ok (.aload_n 1, 1) := by decide +kernel
theorem d6_55 : decode prog_44_method_1_code 55 = .ok (.invokevirtual 41, 3) := by decide +kernel
theorem d6_58 : decode prog_44_method_1_code 58 = .ok (.imul, 1) := by decide +kernel
theorem d6_59 : decode prog_44_method_1_code 59 = .ok (.aload_n 2, 1) := by decide +kernel
theorem d6_60 : decode prog_44_method_1_code 60 = .ok (.invokevirtual 45, 3) := by decide +kernel
theorem d6_63 : decode prog_44_method_1_code 63 = .ok (.iadd, 1) := by decide +kernel
theorem d6_64 : decode prog_44_method_1_code 64 = .ok (.putfield 48, 3) := by decide +kernel
theorem d6_67 : decode prog_44_method_1_code 67 = .ok (.return_, 1) := by decide +kernel
theorem d7_0 : decode jdk_31_method_11_code 0 = .ok (.aload_n 0, 1) := by decide +kernel
theorem d7_1 : decode jdk_31_method_11_code 1 = .ok (.ifnonnull 12, 3) := by decide +kernel
theorem d7_13 : decode jdk_31_method_11_code 13 = .ok (.aload_n 0, 1) := by decide +kernel
theorem d7_14 : decode jdk_31_method_11_code 14 = .ok (.areturn, 1) := by decide +kernel
theorem d8_0 : decode jdk_37_method_2_code 0 = .ok (.aload_n 0, 1) := by decide +kernel
theorem d8_1 : decode jdk_37_method_2_code 1 = .ok (.getfield 7, 3) := by decide +kernel
theorem d8_4 : decode jdk_37_method_2_code 4 = .ok (.ireturn, 1) := by decide +kernel
theorem d9_0 : decode jdk_42_method_78_code 0 = .ok (.aload_n 0, 1) := by decide +kernel
theorem d9_1 : decode jdk_42_method_78_code 1 = .ok (.getfield 19, 3) := by decide +kernel
theorem d9_4 : decode jdk_42_method_78_code 4 = .ok (.istore_n 1, 1) := by decide +kernel
theorem d9_5 : decode jdk_42_method_78_code 5 = .ok (.iload_n 1, 1) := by decide +kernel
theorem d9_6 : decode jdk_42_method_78_code 6 = .ok (.ifCond .ne 52, 3) := by decide +kernel
theorem d9_9 : decode jdk_42_method_78_code 9 = .ok (.aload_n 0, 1) := by decide +kernel
theorem d9_10 : decode jdk_42_method_78_code 10 = .ok (.getfield 23, 3) := by decide +kernel
theorem d9_13 : decode jdk_42_method_78_code 13 = .ok (.ifCond .ne 45, 3) := by decide +kernel
theorem d9_16 : decode jdk_42_method_78_code 16 = .ok (.aload_n 0, 1) := by decide +kernel
theorem d9_17 : decode jdk_42_method_78_code 17 = .ok (.invokevirtual 492, 3) := by decide +kernel
theorem d9_20 : decode jdk_42_method_78_code 20 = .ok (.ifCond .eq 13, 3) := by decide +kernel
theorem d9_23 : decode jdk_42_method_78_code 23 = .ok (.aload_n 0, 1) := by decide +kernel
theorem d9_24 : decode jdk_42_method_78_code 24 = .ok (.getfield 9, 3) := by decide +kernel
theorem d9_27 : decode jdk_42_method_78_code 27 = .ok (.invokestatic 628, 3) := by decide +kernel
theorem d9_30 : decode jdk_42_method_78_code 30 = .ok (.goto 10, 3) := by decide +kernel
theorem d9_40 : decode jdk_42_method_78_code 40 = .ok (.istore_n 1, 1) := by decide +kernel
theorem d9_41 : decode jdk_42_method_78_code 41 = .ok (.iload_n 1, 1) := by decide +kernel
theorem d9_42 : decode jdk_42_method_78_code 42 = .ok (.ifCond .ne 11, 3) := by decide +kernel
theorem d9_45 : decode jdk_42_method_78_code 45 = .ok (.aload_n 0, 1) := by decide +kernel
theorem d9_46 : decode jdk_42_method_78_code 46 = .ok (.iconst 1, 1) := by decide +kernel
theorem d9_47 : decode jdk_42_method_78_code 47 = .ok (.putfield 23, 3) := by decide +kernel
theorem d9_50 : decode jdk_42_method_78_code 50 = .ok (.goto 8, 3) := by decide +kernel
theorem d9_53 : decode jdk_42_method_78_code 53 = .ok (.aload_n 0, 1) := by decide +kernel
theorem d9_54 : decode jdk_42_method_78_code 54 = .ok (.iload_n 1, 1) := by decide +kernel
theorem d9_55 : decode jdk_42_method_78_code 55 = .ok (.putfield 19, 3) := by decide +kernel
theorem d9_58 : decode jdk_42_method_78_code 58 = .ok (.iload_n 1, 1) := by decide +kernel
theorem d9_59 : decode jdk_42_method_78_code 59 = .ok (.ireturn, 1) := by decide +kernel
theorem d10_0 : decode jdk_42_method_154_code 0 = .ok (.getstatic 38, 3) := by decide +kernel
theorem d10_3 : decode jdk_42_method_154_code 3 = .ok (.ifCond .eq 14, 3) := by decide +kernel
theorem d10_6 : decode jdk_42_method_154_code 6 = .ok (.aload_n 0, 1) := by decide +kernel
theorem d10_7 : decode jdk_42_method_154_code 7 = .ok (.getfield 15, 3) := by decide +kernel
theorem d10_10 : decode jdk_42_method_154_code 10 = .ok (.ifCond .ne 7, 3) := by decide +kernel
theorem d10_13 : decode jdk_42_method_154_code 13 = .ok (.iconst 1, 1) := by decide +kernel
theorem d10_14 : decode jdk_42_method_154_code 14 = .ok (.goto 4, 3) := by decide +kernel
theorem d10_18 : decode jdk_42_method_154_code 18 = .ok (.ireturn, 1) := by decide +kernel
theorem d11_0 : decode jdk_43_method_21_code 0 = .ok (.aload_n 0, 1) := by decide +kernel
theorem d11_1 : decode jdk_43_method_21_code 1 = .ok (.arraylength, 1) := by decide +kernel
theorem d11_2 : decode jdk_43_method_21_code 2 = .ok (.lookupswitch 40 #[(0, 26), (1, 30)], 26) := by decide +kernel
theorem d11_28 : decode jdk_43_method_21_code 28 = .ok (.iconst 0, 1) := by decide +kernel
theorem d11_29 : decode jdk_43_method_21_code 29 = .ok (.goto 22, 3) := by decide +kernel
theorem d11_32 : decode jdk_43_method_21_code 32 = .ok (.aload_n 0, 1) := by decide +kernel
theorem d11_33 : decode jdk_43_method_21_code 33 = .ok (.iconst 0, 1) := by decide +kernel
theorem d11_34 : decode jdk_43_method_21_code 34 = .ok (.baload, 1) := by decide +kernel
theorem d11_35 : decode jdk_43_method_21_code 35 = .ok (.sipush 255, 3) := by decide +kernel
theorem d11_38 : decode jdk_43_method_21_code 38 = .ok (.iand, 1) := by decide +kernel
theorem d11_39 : decode jdk_43_method_21_code 39 = .ok (.goto 12, 3) := by decide +kernel
theorem d11_42 : decode jdk_43_method_21_code 42 = .ok (.aload_n 0, 1) := by decide +kernel
theorem d11_43 : decode jdk_43_method_21_code 43 = .ok (.iconst 0, 1) := by decide +kernel
theorem d11_44 : decode jdk_43_method_21_code 44 = .ok (.aload_n 0, 1) := by decide +kernel
theorem d11_45 : decode jdk_43_method_21_code 45 = .ok (.arraylength, 1) := by decide +kernel
theorem d11_46 : decode jdk_43_method_21_code 46 = .ok (.iconst 0, 1) := by decide +kernel
theorem d11_47 : decode jdk_43_method_21_code 47 = .ok (.iconst 4, 1) := by decide +kernel
theorem d11_48 : decode jdk_43_method_21_code 48 = .ok (.invokestatic 84, 3) := by decide +kernel
theorem d11_51 : decode jdk_43_method_21_code 51 = .ok (.ireturn, 1) := by decide +kernel
theorem d12_0 : decode prog_44_method_10_code 0 = .ok (.aload_n 1, 1) := by decide +kernel
theorem d12_1 : decode prog_44_method_10_code 1 = .ok (.instanceof 31, 3) := by decide +kernel
theorem d12_4 : decode prog_44_method_10_code 4 = .ok (.ifCond .ne 5, 3) := by decide +kernel
theorem d12_7 : decode prog_44_method_10_code 7 = .ok (.iconst 0, 1) := by decide +kernel
theorem d12_8 : decode prog_44_method_10_code 8 = .ok (.ireturn, 1) := by decide +kernel
theorem d12_9 : decode prog_44_method_10_code 9 = .ok (.aload_n 1, 1) := by decide +kernel
theorem d12_10 : decode prog_44_method_10_code 10 = .ok (.checkcast 31, 3) := by decide +kernel
theorem d12_13 : decode prog_44_method_10_code 13 = .ok (.astore_n 2, 1) := by decide +kernel
theorem d12_14 : decode prog_44_method_10_code 14 = .ok (.aload_n 0, 1) := by decide +kernel
theorem d12_15 : decode prog_44_method_10_code 15 = .ok (.getfield 30, 3) := by decide +kernel
theorem d12_18 : decode prog_44_method_10_code 18 = .ok (.aload_n 2, 1) := by decide +kernel
theorem d12_19 : decode prog_44_method_10_code 19 = .ok (.getfield 30, 3) := by decide +kernel
theorem d12_22 : decode prog_44_method_10_code 22 = .ok (.if_acmp .ne 21, 3) := by decide +kernel
theorem d12_25 : decode prog_44_method_10_code 25 = .ok (.aload_n 0, 1) := by decide +kernel
theorem d12_26 : decode prog_44_method_10_code 26 = .ok (.getfield 38, 3) := by decide +kernel
theorem d12_29 : decode prog_44_method_10_code 29 = .ok (.aload_n 2, 1) := by decide +kernel
theorem d12_30 : decode prog_44_method_10_code 30 = .ok (.getfield 38, 3) := by decide +kernel
theorem d12_33 : decode prog_44_method_10_code 33 = .ok (.invokevirtual 94, 3) := by decide +kernel
theorem d12_36 : decode prog_44_method_10_code 36 = .ok (.ifCond .eq 7, 3) := by decide +kernel
theorem d12_39 : decode prog_44_method_10_code 39 = .ok (.iconst 1, 1) := by decide +kernel
theorem d12_40 : decode prog_44_method_10_code 40 = .ok (.goto 4, 3) := by decide +kernel
theorem d12_43 : decode prog_44_method_10_code 43 = .ok (.iconst 0, 1) := by decide +kernel
theorem d12_44 : decode prog_44_method_10_code 44 = .ok (.ireturn, 1) := by decide +kernel
theorem d15_0 : decode jdk_52_method_16_code 0 = .ok (.iload_n 2, 1) := by decide +kernel
theorem d15_1 : decode jdk_52_method_16_code 1 = .ok (.newarray .byte, 2) := by decide +kernel
theorem d15_3 : decode jdk_52_method_16_code 3 = .ok (.astore_n 3, 1) := by decide +kernel
theorem d15_4 : decode jdk_52_method_16_code 4 = .ok (.aload_n 0, 1) := by decide +kernel
theorem d15_5 : decode jdk_52_method_16_code 5 = .ok (.iload_n 1, 1) := by decide +kernel
theorem d15_6 : decode jdk_52_method_16_code 6 = .ok (.aload_n 3, 1) := by decide +kernel
theorem d15_7 : decode jdk_52_method_16_code 7 = .ok (.iconst 0, 1) := by decide +kernel
theorem d15_8 : decode jdk_52_method_16_code 8 = .ok (.iload_n 2, 1) := by decide +kernel
theorem d15_9 : decode jdk_52_method_16_code 9 = .ok (.invokestatic 115, 3) := by decide +kernel
theorem d15_12 : decode jdk_52_method_16_code 12 = .ok (.istore 4, 2) := by decide +kernel
theorem d15_14 : decode jdk_52_method_16_code 14 = .ok (.iload 4, 2) := by decide +kernel
theorem d15_16 : decode jdk_52_method_16_code 16 = .ok (.iload_n 2, 1) := by decide +kernel
theorem d15_17 : decode jdk_52_method_16_code 17 = .ok (.if_icmp .eq 40, 3) := by decide +kernel
theorem d15_57 : decode jdk_52_method_16_code 57 = .ok (.aload_n 3, 1) := by decide +kernel
theorem d15_58 : decode jdk_52_method_16_code 58 = .ok (.areturn, 1) := by decide +kernel
theorem d16_0 : decode jdk_52_method_21_code 0 = .ok (.iconst 0, 1) := by decide +kernel
theorem d16_1 : decode jdk_52_method_21_code 1 = .ok (.istore 5, 2) := by decide +kernel
theorem d16_3 : decode jdk_52_method_21_code 3 = .ok (.iload 5, 2) := by decide +kernel
theorem d16_5 : decode jdk_52_method_21_code 5 = .ok (.iload 4, 2) := by decide +kernel
theorem d16_7 : decode jdk_52_method_21_code 7 = .ok (.if_icmp .ge 37, 3) := by decide +kernel
theorem d16_10 : decode jdk_52_method_21_code 10 = .ok (.aload_n 0, 1) := by decide +kernel
theorem d16_11 : decode jdk_52_method_21_code 11 = .ok (.iload_n 1, 1) := by decide +kernel
theorem d16_12 : decode jdk_52_method_21_code 12 = .ok (.caload, 1) := by decide +kernel
theorem d16_13 : decode jdk_52_method_21_code 13 = .ok (.istore 6, 2) := by decide +kernel
theorem d16_15 : decode jdk_52_method_21_code 15 = .ok (.iload 6, 2) := by decide +kernel
theorem d16_17 : decode jdk_52_method_21_code 17 = .ok (.sipush 255, 3) := by decide +kernel
theorem d16_20 : decode jdk_52_method_21_code 20 = .ok (.if_icmp .le 6, 3) := by decide +kernel
theorem d16_26 : decode jdk_52_method_21_code 26 = .ok (.aload_n 2, 1) := by decide +kernel
theorem d16_27 : decode jdk_52_method_21_code 27 = .ok (.iload_n 3, 1) := by decide +kernel
theorem d16_28 : decode jdk_52_method_21_code 28 = .ok (.iload 6, 2) := by decide +kernel
theorem d16_30 : decode jdk_52_method_21_code 30 = .ok (.i2b, 1) := by decide +kernel
theorem d16_31 : decode jdk_52_method_21_code 31 = .ok (.bastore, 1) := by decide +kernel
theorem d16_32 : decode jdk_52_method_21_code 32 = .ok (.iinc 1 1, 3) := by decide +kernel
theorem d16_35 : decode jdk_52_method_21_code 35 = .ok (.iinc 3 1, 3) := by decide +kernel
theorem d16_38 : decode jdk_52_method_21_code 38 = .ok (.iinc 5 1, 3) := by decide +kernel
theorem d16_41 : decode jdk_52_method_21_code 41 = .ok (.goto (-38), 3) := by decide +kernel
theorem d16_44 : decode jdk_52_method_21_code 44 = .ok (.iload 4, 2) := by decide +kernel
theorem d16_46 : decode jdk_52_method_21_code 46 = .ok (.ireturn, 1) := by decide +kernel
theorem d17_0 : decode jdk_52_method_15_code 0 = .ok (.iload_n 1, 1) := by decide +kernel
theorem d17_1 : decode jdk_52_method_15_code 1 = .ok (.aload_n 0, 1) := by decide +kernel
theorem d17_2 : decode jdk_52_method_15_code 2 = .ok (.arraylength, 1) := by decide +kernel
theorem d17_3 : decode jdk_52_method_15_code 3 = .ok (.isub, 1) := by decide +kernel
theorem d17_4 : decode jdk_52_method_15_code 4 = .ok (.bipush 31, 2) := by decide +kernel
theorem d17_6 : decode jdk_52_method_15_code 6 = .ok (.iushr, 1) := by decide +kernel
theorem d17_7 : decode jdk_52_method_15_code 7 = .ok (.i2b, 1) := by decide +kernel
theorem d17_8 : decode jdk_52_method_15_code 8 = .ok (.ireturn, 1) := by decide +kernel
theorem d18_0 : decode jdk_48_method_4_code 0 = .ok (.iload 4, 2) := by decide +kernel
theorem d18_2 : decode jdk_48_method_4_code 2 = .ok (.tableswitch 127 4 10 #[42, 55, 127, 127, 88, 101, 114], 42) := by decide +kernel
theorem d18_44 : decode jdk_48_method_4_code 44 = .ok (.iload_n 3, 1) := by decide +kernel
theorem d18_45 : decode jdk_48_method_4_code 45 = .ok (.aload_n 0, 1) := by decide +kernel
theorem d18_46 : decode jdk_48_method_4_code 46 = .ok (.checkcast 60, 3) := by decide +kernel
theorem d18_49 : decode jdk_48_method_4_code 49 = .ok (.iload_n 1, 1) := by decide +kernel
theorem d18_50 : decode jdk_48_method_4_code 50 = .ok (.iload_n 2, 1) := by decide +kernel
theorem d18_51 : decode jdk_48_method_4_code 51 = .ok (.invokestatic 62, 3) := by decide +kernel
theorem d18_54 : decode jdk_48_method_4_code 54 = .ok (.goto 103, 3) := by decide +kernel
theorem d18_157 : decode jdk_48_method_4_code 157 = .ok (.ireturn, 1) := by decide +kernel
theorem d19_0 : decode jdk_48_method_5_code 0 = .ok (.iload_n 2, 1) := by decide +kernel
theorem d19_1 : decode jdk_48_method_5_code 1 = .ok (.iload_n 3, 1) := by decide +kernel
theorem d19_2 : decode jdk_48_method_5_code 2 = .ok (.iadd, 1) := by decide +kernel
theorem d19_3 : decode jdk_48_method_5_code 3 = .ok (.istore 4, 2) := by decide +kernel
theorem d19_5 : decode jdk_48_method_5_code 5 = .ok (.iload_n 2, 1) := by decide +kernel
theorem d19_6 : decode jdk_48_method_5_code 6 = .ok (.istore 5, 2) := by decide +kernel
theorem d19_8 : decode jdk_48_method_5_code 8 = .ok (.iload 5, 2) := by decide +kernel
theorem d19_10 : decode jdk_48_method_5_code 10 = .ok (.iload 4, 2) := by decide +kernel
theorem d19_12 : decode jdk_48_method_5_code 12 = .ok (.if_icmp .ge 23, 3) := by decide +kernel
theorem d19_15 : decode jdk_48_method_5_code 15 = .ok (.bipush 31, 2) := by decide +kernel
theorem d19_17 : decode jdk_48_method_5_code 17 = .ok (.iload_n 0, 1) := by decide +kernel
theorem d19_18 : decode jdk_48_method_5_code 18 = .ok (.imul, 1) := by decide +kernel
theorem d19_19 : decode jdk_48_method_5_code 19 = .ok (.aload_n 1, 1) := by decide +kernel
theorem d19_20 : decode jdk_48_method_5_code 20 = .ok (.iload 5, 2) := by decide +kernel
theorem d19_22 : decode jdk_48_method_5_code 22 = .ok (.baload, 1) := by decide +kernel
theorem d19_23 : decode jdk_48_method_5_code 23 = .ok (.sipush 255, 3) := by decide +kernel
theorem d19_26 : decode jdk_48_method_5_code 26 = .ok (.iand, 1) := by decide +kernel
theorem d19_27 : decode jdk_48_method_5_code 27 = .ok (.iadd, 1) := by decide +kernel
theorem d19_28 : decode jdk_48_method_5_code 28 = .ok (.istore_n 0, 1) := by decide +kernel
theorem d19_29 : decode jdk_48_method_5_code 29 = .ok (.iinc 5 1, 3) := by decide +kernel
theorem d19_32 : decode jdk_48_method_5_code 32 = .ok (.goto (-24), 3) := by decide +kernel
theorem d19_35 : decode jdk_48_method_5_code 35 = .ok (.iload_n 0, 1) := by decide +kernel
theorem d19_36 : decode jdk_48_method_5_code 36 = .ok (.ireturn, 1) := by decide +kernel
theorem d20_0 : decode prog_61_method_2_code 0 = .ok (.aload_n 1, 1) := by decide +kernel
theorem d20_1 : decode prog_61_method_2_code 1 = .ok (.ifnull 10, 3) := by decide +kernel
theorem d20_4 : decode prog_61_method_2_code 4 = .ok (.aload_n 1, 1) := by decide +kernel
theorem d20_5 : decode prog_61_method_2_code 5 = .ok (.getstatic 49, 3) := by decide +kernel
theorem d20_8 : decode prog_61_method_2_code 8 = .ok (.if_acmp .ne 17, 3) := by decide +kernel
theorem d20_25 : decode prog_61_method_2_code 25 = .ok (.new 18, 3) := by decide +kernel
theorem d20_28 : decode prog_61_method_2_code 28 = .ok (.dup, 1) := by decide +kernel
theorem d20_29 : decode prog_61_method_2_code 29 = .ok (.aload_n 0, 1) := by decide +kernel
theorem d20_30 : decode prog_61_method_2_code 30 = .ok (.aload_n 1, 1) := by decide +kernel
theorem d20_31 : decode prog_61_method_2_code 31 = .ok (.aconst_null, 1) := by decide +kernel
theorem d20_32 : decode prog_61_method_2_code 32 = .ok (.invokespecial 61, 3) := by decide +kernel
theorem d20_35 : decode prog_61_method_2_code 35 = .ok (.areturn, 1) := by decide +kernel
theorem d21_0 : decode prog_61_method_1_code 0 = .ok (.aload_n 0, 1) := by decide +kernel
theorem d21_1 : decode prog_61_method_1_code 1 = .ok (.invokespecial 1, 3) := by decide +kernel
theorem d21_4 : decode prog_61_method_1_code 4 = .ok (.aload_n 0, 1) := by decide +kernel
theorem d21_5 : decode prog_61_method_1_code 5 = .ok (.aload_n 1, 1) := by decide +kernel
theorem d21_6 : decode prog_61_method_1_code 6 = .ok (.ldc 7, 2) := by decide +kernel
theorem d21_8 : decode prog_61_method_1_code 8 = .ok (.invokestatic 9, 3) := by decide +kernel
theorem d21_11 : decode prog_61_method_1_code 11 = .ok (.checkcast 15, 3) := by decide +kernel
theorem d21_14 : decode prog_61_method_1_code 14 = .ok (.putfield 17, 3) := by decide +kernel
theorem d21_17 : decode prog_61_method_1_code 17 = .ok (.aload_n 0, 1) := by decide +kernel
theorem d21_18 : decode prog_61_method_1_code 18 = .ok (.aload_n 2, 1) := by decide +kernel
theorem d21_19 : decode prog_61_method_1_code 19 = .ok (.putfield 22, 3) := by decide +kernel
theorem d21_22 : decode prog_61_method_1_code 22 = .ok (.aload_n 0, 1) := by decide +kernel
theorem d21_23 : decode prog_61_method_1_code 23 = .ok (.aload_n 3, 1) := by decide +kernel
theorem d21_24 : decode prog_61_method_1_code 24 = .ok (.putfield 26, 3) := by decide +kernel
theorem d21_27 : decode prog_61_method_1_code 27 = .ok (.aload_n 0, 1) := by decide +kernel
theorem d21_28 : decode prog_61_method_1_code 28 = .ok (.iconst 3, 1) := by decide +kernel
theorem d21_29 : decode prog_61_method_1_code 29 = .ok (.anewarray 2, 3) := by decide +kernel
theorem d21_32 : decode prog_61_method_1_code 32 = .ok (.dup, 1) := by decide +kernel
theorem d21_33 : decode prog_61_method_1_code 33 = .ok (.iconst 0, 1) := by decide +kernel
theorem d21_34 : decode prog_61_method_1_code 34 = .ok (.aload_n 1, 1) := by decide +kernel
theorem d21_35 : decode prog_61_method_1_code 35 = .ok (.aastore, 1) := by decide +kernel
theorem d21_36 : decode prog_61_method_1_code 36 = .ok (.dup, 1) := by decide +kernel
theorem d21_37 : decode prog_61_method_1_code 37 = .ok (.iconst 1, 1) := by decide +kernel
theorem d21_38 : decode prog_61_method_1_code 38 = .ok (.aload_n 2, 1) := by decide +kernel
theorem d21_39 : decode prog_61_method_1_code 39 = .ok (.ifnonnull 7, 3) := by decide +kernel
theorem d21_46 : decode prog_61_method_1_code 46 = .ok (.aload_n 2, 1) := by decide +kernel
theorem d21_47 : decode prog_61_method_1_code 47 = .ok (.invokevirtual 30, 3) := by decide +kernel
theorem d21_50 : decode prog_61_method_1_code 50 = .ok (.invokestatic 36, 3) := by decide +kernel
theorem d21_53 : decode prog_61_method_1_code 53 = .ok (.aastore, 1) := by decide +kernel
theorem d21_54 : decode prog_61_method_1_code 54 = .ok (.dup, 1) := by decide +kernel
theorem d21_55 : decode prog_61_method_1_code 55 = .ok (.iconst 2, 1) := by decide +kernel
theorem d21_56 : decode prog_61_method_1_code 56 = .ok (.aload_n 3, 1) := by decide +kernel
theorem d21_57 : decode prog_61_method_1_code 57 = .ok (.aastore, 1) := by decide +kernel
theorem d21_58 : decode prog_61_method_1_code 58 = .ok (.invokestatic 42, 3) := by decide +kernel
theorem d21_61 : decode prog_61_method_1_code 61 = .ok (.putfield 46, 3) := by decide +kernel
theorem d21_64 : decode prog_61_method_1_code 64 = .ok (.return_, 1) := by decide +kernel
theorem d22_0 : decode jdk_33_method_22_code 0 = .ok (.iload_n 0, 1) := by decide +kernel
theorem d22_1 : decode jdk_33_method_22_code 1 = .ok (.bipush (-128), 2) := by decide +kernel
theorem d22_3 : decode jdk_33_method_22_code 3 = .ok (.if_icmp .lt 20, 3) := by decide +kernel
theorem d22_6 : decode jdk_33_method_22_code 6 = .ok (.iload_n 0, 1) := by decide +kernel
theorem d22_7 : decode jdk_33_method_22_code 7 = .ok (.getstatic 191, 3) := by decide +kernel
theorem d22_10 : decode jdk_33_method_22_code 10 = .ok (.if_icmp .gt 13, 3) := by decide +kernel
theorem d22_13 : decode jdk_33_method_22_code 13 = .ok (.getstatic 195, 3) := by decide +kernel
theorem d22_16 : decode jdk_33_method_22_code 16 = .ok (.iload_n 0, 1) := by decide +kernel
theorem d22_17 : decode jdk_33_method_22_code 17 = .ok (.sipush 128, 3) := by decide +kernel
theorem d22_20 : decode jdk_33_method_22_code 20 = .ok (.iadd, 1) := by decide +kernel
theorem d22_21 : decode jdk_33_method_22_code 21 = .ok (.aaload, 1) := by decide +kernel
theorem d22_22 : decode jdk_33_method_22_code 22 = .ok (.areturn, 1) := by decide +kernel
theorem d23_0 : decode jdk_31_method_5_code 0 = .ok (.aload_n 0, 1) := by decide +kernel
theorem d23_1 : decode jdk_31_method_5_code 1 = .ok (.invokestatic 28, 3) := by decide +kernel
theorem d23_4 : decode jdk_31_method_5_code 4 = .ok (.ireturn, 1) := by decide +kernel
theorem d24_0 : decode jdk_65_method_157_code 0 = .ok (.aload_n 0, 1) := by decide +kernel
theorem d24_1 : decode jdk_65_method_157_code 1 = .ok (.ifnonnull 5, 3) := by decide +kernel
theorem d24_6 : decode jdk_65_method_157_code 6 = .ok (.iconst 1, 1) := by decide +kernel
theorem d24_7 : decode jdk_65_method_157_code 7 = .ok (.istore_n 1, 1) := by decide +kernel
theorem d24_8 : decode jdk_65_method_157_code 8 = .ok (.aload_n 0, 1) := by decide +kernel
theorem d24_9 : decode jdk_65_method_157_code 9 = .ok (.astore_n 2, 1) := by decide +kernel
theorem d24_10 : decode jdk_65_method_157_code 10 = .ok (.aload_n 2, 1) := by decide +kernel
theorem d24_11 : decode jdk_65_method_157_code 11 = .ok (.arraylength, 1) := by decide +kernel
theorem d24_12 : decode jdk_65_method_157_code 12 = .ok (.istore_n 3, 1) := by decide +kernel
theorem d24_13 : decode jdk_65_method_157_code 13 = .ok (.iconst 0, 1) := by decide +kernel
theorem d24_14 : decode jdk_65_method_157_code 14 = .ok (.istore 4, 2) := by decide +kernel
theorem d24_16 : decode jdk_65_method_157_code 16 = .ok (.iload 4, 2) := by decide +kernel
theorem d24_18 : decode jdk_65_method_157_code 18 = .ok (.iload_n 3, 1) := by decide +kernel
theorem d24_19 : decode jdk_65_method_157_code 19 = .ok (.if_icmp .ge 35, 3) := by decide +kernel
theorem d24_22 : decode jdk_65_method_157_code 22 = .ok (.aload_n 2, 1) := by decide +kernel
theorem d24_23 : decode jdk_65_method_157_code 23 = .ok (.iload 4, 2) := by decide +kernel
theorem d24_25 : decode jdk_65_method_157_code 25 = .ok (.aaload, 1) := by decide +kernel
theorem d24_26 : decode jdk_65_method_157_code 26 = .ok (.astore 5, 2) := by decide +kernel
theorem d24_28 : decode jdk_65_method_157_code 28 = .ok (.bipush 31, 2) := by decide +kernel
theorem d24_30 : decode jdk_65_method_157_code 30 = .ok (.iload_n 1, 1) := by decide +kernel
theorem d24_31 : decode jdk_65_method_157_code 31 = .ok (.imul, 1) := by decide +kernel
theorem d24_32 : decode jdk_65_method_157_code 32 = .ok (.aload 5, 2) := by decide +kernel
theorem d24_34 : decode jdk_65_method_157_code 34 = .ok (.ifnonnull 7, 3) := by decide +kernel
theorem d24_37 : decode jdk_65_method_157_code 37 = .ok (.iconst 0, 1) := by decide +kernel
theorem d24_38 : decode jdk_65_method_157_code 38 = .ok (.goto 8, 3) := by decide +kernel
theorem d24_41 : decode jdk_65_method_157_code 41 = .ok (.aload 5, 2) := by decide +kernel
theorem d24_43 : decode jdk_65_method_157_code 43 = .ok (.invokevirtual 383, 3) := by decide +kernel
theorem d24_46 : decode jdk_65_method_157_code 46 = .ok (.iadd, 1) := by decide +kernel
theorem d24_47 : decode jdk_65_method_157_code 47 = .ok (.istore_n 1, 1) := by decide +kernel
theorem d24_48 : decode jdk_65_method_157_code 48 = .ok (.iinc 4 1, 3) := by decide +kernel
theorem d24_51 : decode jdk_65_method_157_code 51 = .ok (.goto (-35), 3) := by decide +kernel
theorem d24_54 : decode jdk_65_method_157_code 54 = .ok (.iload_n 1, 1) := by decide +kernel
theorem d24_55 : decode jdk_65_method_157_code 55 = .ok (.ireturn, 1) := by decide +kernel
theorem d25_0 : decode jdk_33_method_32_code 0 = .ok (.aload_n 0, 1) := by decide +kernel
theorem d25_1 : decode jdk_33_method_32_code 1 = .ok (.getfield 205, 3) := by decide +kernel
theorem d25_4 : decode jdk_33_method_32_code 4 = .ok (.invokestatic 208, 3) := by decide +kernel
theorem d25_7 : decode jdk_33_method_32_code 7 = .ok (.ireturn, 1) := by decide +kernel
theorem d26_0 : decode jdk_33_method_33_code 0 = .ok (.iload_n 0, 1) := by decide +kernel
theorem d26_1 : decode jdk_33_method_33_code 1 = .ok (.ireturn, 1) := by decide +kernel
theorem pd_0 : parseMethodDescriptor "([CIILjava/lang/Void;)V" = some ⟨[(.array .char), .int, .int, (.object "java/lang/Void")], none⟩ := by decide +kernel
theorem pd_1 : parseMethodDescriptor "([CI[BII)I" = some ⟨[(.array .char), .int, (.array .byte), .int, .int], (some .int)⟩ := by decide +kernel
theorem pd_2 : parseMethodDescriptor "([CII)[B" = some ⟨[(.array .char), .int, .int], (some (.array .byte))⟩ := by decide +kernel
theorem pd_3 : parseMethodDescriptor "([BI)B" = some ⟨[(.array .byte), .int], (some .byte)⟩ := by decide +kernel
theorem pd_4 : parseMethodDescriptor "([C)V" = some ⟨[(.array .char)], none⟩ := by decide +kernel
theorem pd_5 : parseMethodDescriptor "(I[BII)I" = some ⟨[.int, (.array .byte), .int, .int], (some .int)⟩ := by decide +kernel
theorem pd_6 : parseMethodDescriptor "(Ljava/lang/Object;IIII)I" = some ⟨[(.object "java/lang/Object"), .int, .int, .int, .int], (some .int)⟩ := by decide +kernel
theorem pd_7 : parseMethodDescriptor "()Z" = some ⟨[], (some .boolean)⟩ := by decide +kernel
theorem pd_8 : parseMethodDescriptor "([B)I" = some ⟨[(.array .byte)], (some .int)⟩ := by decide +kernel
theorem pd_9 : parseMethodDescriptor "(Ljava/lang/Object;Ljava/lang/String;)Ljava/lang/Object;" = some ⟨[(.object "java/lang/Object"), (.object "java/lang/String")], (some (.object "java/lang/Object"))⟩ := by decide +kernel
theorem pd_10 : parseMethodDescriptor "()I" = some ⟨[], (some .int)⟩ := by decide +kernel
theorem pd_11 : parseMethodDescriptor "(I)I" = some ⟨[.int], (some .int)⟩ := by decide +kernel
theorem pd_12 : parseMethodDescriptor "([Ljava/lang/Object;)I" = some ⟨[(.array (.object "java/lang/Object"))], (some .int)⟩ := by decide +kernel
theorem pd_13 : parseMethodDescriptor "(I)Ljava/lang/Integer;" = some ⟨[.int], (some (.object "java/lang/Integer"))⟩ := by decide +kernel
theorem pd_14 : parseMethodDescriptor "(Ljava/lang/String;Lcom/example/avain/avain/model/Type;Lcom/example/avain/avain/model/Term;)V" = some ⟨[(.object "java/lang/String"), (.object "com/example/avain/avain/model/Type"), (.object "com/example/avain/avain/model/Term")], none⟩ := by decide +kernel
theorem pd_15 : parseMethodDescriptor "(Ljava/lang/Object;)Z" = some ⟨[(.object "java/lang/Object")], (some .boolean)⟩ := by decide +kernel
theorem pd_16 : parseMethodDescriptor "(ICC)Ljava/lang/String;" = some ⟨[.int, .char, .char], (some (.object "java/lang/String"))⟩ := by decide +kernel
theorem pd_17 : parseMethodDescriptor "(I)Lcom/example/avain/avain/model/Type;" = some ⟨[.int], (some (.object "com/example/avain/avain/model/Type"))⟩ := by decide +kernel
theorem pd_18 : parseMethodDescriptor "(Lcom/example/avain/avain/model/Type;Ljava/lang/String;)V" = some ⟨[(.object "com/example/avain/avain/model/Type"), (.object "java/lang/String")], none⟩ := by decide +kernel
theorem pd_19 : parseMethodDescriptor "(Ljava/lang/String;Lcom/example/avain/avain/model/Type;)Lcom/example/avain/avain/model/Variable;" = some ⟨[(.object "java/lang/String"), (.object "com/example/avain/avain/model/Type")], (some (.object "com/example/avain/avain/model/Variable"))⟩ := by decide +kernel
theorem pf_0 : plainFor (⟨"jdk/internal/util/ArraysSupport", "signedHashCode", "(I[BII)I"⟩ : MethodName) = true := by decide +kernel
theorem pf_1 : plainFor (⟨"jdk/internal/util/ArraysSupport", "vectorizedHashCode", "(Ljava/lang/Object;IIII)I"⟩ : MethodName) = true := by decide +kernel
theorem pf_2 : plainFor (⟨"java/lang/Integer", "hashCode", "(I)I"⟩ : MethodName) = true := by decide +kernel
theorem pf_3 : plainFor (⟨"java/lang/Integer", "hashCode", "()I"⟩ : MethodName) = true := by decide +kernel
theorem pf_4 : plainFor (⟨"java/lang/Integer", "valueOf", "(I)Ljava/lang/Integer;"⟩ : MethodName) = true := by decide +kernel
theorem pn_0 : plainName "java/lang/String" = true := by first | (simp [plainName, overriddenIn]; done) | decide +kernel
theorem pn_1 : plainName "java/lang/StringUTF16" = true := by first | (simp [plainName, overriddenIn]; done) | decide +kernel
theorem pn_2 : plainName "java/lang/StringLatin1" = true := by first | (simp [plainName, overriddenIn]; done) | decide +kernel
theorem pn_3 : plainName "java/util/Objects" = true := by first | (simp [plainName, overriddenIn]; done) | decide +kernel
theorem pn_4 : plainName "java/lang/Enum" = true := by first | (simp [plainName, overriddenIn]; done) | decide +kernel
theorem pn_5 : plainName "java/util/Arrays" = true := by first | (simp [plainName, overriddenIn]; done) | decide +kernel
theorem pn_6 : plainName "com/example/avain/avain/model/Variable" = true := by first | (simp [plainName, overriddenIn]; done) | decide +kernel
theorem pn_7 : plainName "com/example/avain/avain/model/AtomEqualsPinLaw" = true := by first | (simp [plainName, overriddenIn]; done) | decide +kernel
theorem pn_8 : plainName "com/example/avain/avain/model/Atom" = true := by first | (simp [plainName, overriddenIn]; done) | decide +kernel
theorem hws {a0 : Array Value} {Z : State} (hw : HW a0 Z) : ∀ d ∈ StrChars.Road.words, d.before a0 Z = true := fun d hd => hw d ((by decide +kernel : ∀ d ∈ StrChars.Road.words, d ∈ tables_1) d hd)
theorem heq {a0 : Array Value} {Z : State} (hw : HW a0 Z) : ∀ d ∈ StrChars.Road.wordsEq, d.before a0 Z = true := fun d hd => hw d ((by decide +kernel : ∀ d ∈ StrChars.Road.wordsEq, d ∈ tables_1) d hd)
theorem ew {a0 : Array Value} {Z : State} (hw : HW a0 Z) : EW Z a0 consts_1 := (EW.cons (w41 hw) (by decide) (EW.cons (w50 hw) (by decide) (EW.cons (w132 hw) (by decide) (EW.cons (w18 hw) (by decide) EW.nil))))
theorem wS {a0 : Array Value} {Z : State} (hw : HW a0 Z) : ∀ a ∈ Bundle.stringAtoms, a.before a0 Z = true := fun d hd => hw d ((by decide +kernel : ∀ d ∈ Bundle.stringAtoms, d ∈ tables_1) d hd)
def strf (n c0 c1 : Int32) : List Int32 := if n = (0 : Int32) then [] else if n = (1 : Int32) then [c0] else [c0, c1]
theorem strf_len (n c0 c1 : Int32) : (strf n c0 c1).length ≤ 4000 := by
  unfold strf
  split
  · exact Nat.le_of_ble_eq_true rfl
  · split <;> exact Nat.le_of_ble_eq_true rfl
theorem strf_eq {n m a b c d : Int32} (hn : n = 0 ∨ n = 1 ∨ n = 2) (hm : m = 0 ∨ m = 1 ∨ m = 2) : strf n a b = strf m c d ↔ n = m ∧ (n < 1 ∨ a = c) ∧ (n < 2 ∨ b = d) := by
  rcases hn with rfl | rfl | rfl <;> rcases hm with rfl | rfl | rfl <;> simp [strf] <;> decide
theorem rem3 {x : Int32} (q : 0 ≤ x.toInt) : x % (3 : Int32) = 0 ∨ x % (3 : Int32) = 1 ∨ x % (3 : Int32) = 2 := by
  have r := (c_irem x 3 3 (by decide)).1 q
  simp only [← Int32.toInt_inj]
  generalize (x % (3 : Int32)).toInt = y at *
  show y = 0 ∨ y = 1 ∨ y = 2
  omega
theorem nonneg_and (x : Int32) {m : Int32} (q : 0 ≤ m.toInt) : 0 ≤ (x &&& m).toInt := (c_and x m q).1
theorem pick {r : Int32} {P : Prop} (hr : (r = 1 ∧ P) ∨ (r = 0 ∧ ¬ P)) (q : P) : r = 1 := hr.elim (fun z => z.1) (fun z => absurd q z.2)
theorem pick0 {r : Int32} {P : Prop} (hr : (r = 1 ∧ P) ∨ (r = 0 ∧ ¬ P)) (q : ¬ P) : r = 0 := hr.elim (fun z => absurd z.2 q) (fun z => z.1)
def kf (a0 a1 a2 : Addr) (k : Int32) : Addr := if k = (0 : Int32) then a0 else if k = (1 : Int32) then a1 else a2
abbrev inK (k : Int32) : Prop := k = 0 ∨ k = 1 ∨ k = 2
theorem kf_ord {Z : State} {h : Heap} {a0 a1 a2 : Addr} (F0 : Fld Z h a0 "java/lang/Enum" "ordinal" "I" (.int (0 : Int32))) (F1 : Fld Z h a1 "java/lang/Enum" "ordinal" "I" (.int (1 : Int32))) (F2 : Fld Z h a2 "java/lang/Enum" "ordinal" "I" (.int (2 : Int32))) {k : Int32} (q : inK k) : Fld Z h (kf a0 a1 a2 k) "java/lang/Enum" "ordinal" "I" (.int k) := by
  rcases q with rfl | rfl | rfl
  · simpa [kf] using F0
  · simpa [kf] using F1
  · simpa [kf] using F2
theorem kf_eq {Z : State} {h : Heap} {f : Int32 → Addr} (H : ∀ k, inK k → Fld Z h (f k) "java/lang/Enum" "ordinal" "I" (.int k)) {j k : Int32} (qj : inK j) (qk : inK k) : f j = f k ↔ j = k := by
  refine ⟨fun e => Classical.byContradiction fun ne => ?_, fun e => by rw [e]⟩
  exact Fld.ne (H j qj) (H k qk) (fun z => ne (Value.int.inj z)) e
theorem psm {s : Int32} {P : Prop} (h : (s = 1 ∧ P) ∨ (s = 0 ∧ ¬ P)) (q : ¬ s = 0) : P := h.elim (fun z => z.2) (fun z => absurd z.1 q)
theorem psm0 {s : Int32} {P : Prop} (h : (s = 1 ∧ P) ∨ (s = 0 ∧ ¬ P)) (q : s = 0) : ¬ P := h.elim (fun z => absurd (z.1.symm.trans q) (by decide)) (fun z => z.2)
theorem inK_lo {k : Int32} (q : inK k) : ¬ k < (-128 : Int32) := by rcases q with rfl | rfl | rfl <;> decide
theorem inK_hi {k : Int32} (q : inK k) : ¬ (127 : Int32) < k := by rcases q with rfl | rfl | rfl <;> decide
theorem kf_exa {Z : State} {h : Heap} {C : String} {a0 a1 a2 : Addr} (X0 : Exa Z h a0 C) (X1 : Exa Z h a1 C) (X2 : Exa Z h a2 C) {k : Int32} (q : inK k) : Exa Z h (kf a0 a1 a2 k) C := by
  rcases q with rfl | rfl | rfl
  · simpa [kf] using X0
  · simpa [kf] using X1
  · simpa [kf] using X2
theorem sta_int {args : Array Value} {s : State} {C n d : String} {v : Int32} (hv : (Jvm.Cond.eq (Term.static C n d) (Term.int v)).value args s none s [] = some true) (hi : (Jvm.Cond.initializedFor C n d).before args s = true ∨ ((Jvm.Cond.initialized C).before args s = true ∧ (Jvm.Cond.laysStatic C n d).before args s = true)) : Sta s s.heap C n d (.int v) := by
  obtain ⟨x, y, e1, e2, k1, k2⟩ := cmp_v (Or.inl hv)
  cases (Term.int_eval v).symm.trans e2
  obtain ⟨z, rfl⟩ := k2
  have := gotT (Cond.eq_ints e1 (Term.int_eval v)) hv
  subst this
  exact Sta.start e1 hi
theorem sub_ff {args : Array Value} {first s : State} {o : Option Outcome} {idx : List Nat} {a b : Term} {x y : Int32} (ha : a.eval args first o idx s = some (.int x)) (hb : b.eval args first o idx s = some (.int y)) : (Term.sub a b).eval args first o idx s = some (.int (x - y)) := by simp [Term.eval, ha, hb]
theorem cache_at {args : Array Value} {s : State} {ca : Addr} {C n d : String} (ev : (Term.static C n d).eval args s none [] s = some (.ref ca)) (zA : (Jvm.Cond.arrayOf (Term.static C n d) (.object "java/lang/Integer")).value args s none s [] = some true) (zL : (Jvm.Cond.eq (Term.length (Term.static C n d)) (Term.int 256)).value args s none s [] = some true)
    (zB : (Jvm.Cond.all (Term.static C n d) (.and (.exactly (.elem (Term.static C n d) (.index 0)) "java/lang/Integer") (.eq (.field (.elem (Term.static C n d) (.index 0)) "java/lang/Integer" "value" "I") (.sub (.index 0) (.int 128))))).value args s none s [] = some true) :
    ∀ k, inK k → ∃ (i : Nat) (b : Addr), (k + (128 : Int32)).toInt = (i : Int) ∧ At1 s s.heap ca (.object "java/lang/Integer") i (.ref b) ∧ Exa s s.heap b "java/lang/Integer" ∧ Fld s s.heap b "java/lang/Integer" "value" "I" (.int k) := by
  obtain ⟨c, A⟩ := Arr.start ev zA
  have hA := A.fin (Vm.Alike.refl _)
  obtain ⟨x, y, e1, e2, k1, k2⟩ := cmp_v (Or.inl zL)
  cases (Term.int_eval 256).symm.trans e2
  obtain ⟨z, rfl⟩ := k2
  have hz := gotT (Cond.eq_ints e1 (Term.int_eval 256)) zL
  subst hz
  have hl : c.slots.size < 2 ^ 31 ∧ c.slots.size.toInt32 = 256 := by
    by_cases q : c.slots.size < 2 ^ 31
    · rw [len_f ev hA q] at e1
      exact ⟨q, Value.int.inj (Option.some.inj e1)⟩
    · exfalso
      rw [Term.eval] at e1
      simp [ev, hA, q] at e1
  have B : Bxs s ca c "java/lang/Integer" "I" 256 (fun j => .int (j - 128)) := Bxs.start (fun _ => ev) A hl.1 hl.2 (by decide) zB (fun X j hj h => eqv_i (sub_ff (idx_at hj) (Term.int_eval 128)) h)
  intro k q
  have hk : k = 0 ∨ k = 1 ∨ k = 2 := q
  have nn : ¬ (k + (128 : Int32)) < 0 := by rcases hk with rfl | rfl | rfl <;> decide
  have cl : (k + (128 : Int32)).toNatClampNeg < 256 := by rcases hk with rfl | rfl | rfl <;> decide
  have sz : c.slots.size = 256 := B.2.1
  obtain ⟨b, b1, b2, b3⟩ := B.2.2.2 (k + 128) (fun z => z.elim nn (fun z => by omega))
  refine ⟨(k + (128 : Int32)).toNatClampNeg, b, ?_, ⟨c, A, b1⟩, b2, ?_⟩
  · rcases hk with rfl | rfl | rfl <;> decide
  · have e : k + (128 : Int32) - 128 = k := by rcases hk with rfl | rfl | rfl <;> decide
    have b4 : Fld s s.heap b "java/lang/Integer" "value" "I" (.int (k + 128 - 128)) := b3
    rw [e] at b4; exact b4
abbrev G_new4_0 (md : Md) (l : Launch) (Z : State) (n0 : Nat) (x b : Addr) (z : Int32)  (h0 : Heap) := Go md l Z n0 ({ frames := 1, cells := 4, slots := 8, locals := 12 } : Room) jdk_42_method_149_code 6 none "java/lang/String" "<init>" (fun v h' _ => v = none ∧ Keep h0 h' [x] ∧ Hst Z h' x [])
theorem ef_new4_0 (mid : MethodId) (x b : Addr) (z : Int32)   : entryFrame mid #[(.ref x), (.ref b), (.int (0 : Int32)), (.int (0 : Int32)), .null] 6 = mkF mid 0 #[.val (.ref x), .val (.ref b), .val (.int (0 : Int32)), .val (.int (0 : Int32)), .val .null, .unset] [] := by first | (simp [entryFrame, mkF, argsToLocals, Value.category]; done) | rfl
set_option maxRecDepth 65536 in
set_option maxHeartbeats 40000000 in
theorem c_new4_0 {l : Launch} {Z : State} {n0 : Nat} {a0 : Array Value} (hw : HW a0 Z) (x b : Addr) (z : Int32)  {h0 : Heap} (E : Exa Z h0 x "java/lang/String") (n0x : n0 ≤ x) {v0 u0 : Value} (V : Fld Z h0 x "java/lang/String" "value" "[B" v0) (C : Fld Z h0 x "java/lang/String" "coder" "B" u0) (H : Fld Z h0 x "java/lang/String" "hash" "I" (.int 0)) (HZ : Fld Z h0 x "java/lang/String" "hashIsZero" "Z" (.int 0)) (A : Ary Z h0 b .char []) (SC : Sta Z Z.heap "java/lang/String" "COMPACT_STRINGS" "Z" (.int z)) (hz : ¬ z = 0)  : G_new4_0 (some consts_1) l Z n0 x b z h0 0 0 [x] h0 0 #[.val (.ref x), .val (.ref b), .val (.int (0 : Int32)), .val (.int (0 : Int32)), .val .null, .unset] [] := by
  refine Go.aloadN 1 d3_0 rfl rfl rfl ?_
  refine Go.initO (W := 0) 4 d3_1 rfl (w15 hw) (w16 hw) (w17 hw) rfl (by decide) (Nat.le_of_ble_eq_true rfl) (by decide) ?_
  refine Go.iloadN 5 d3_4 rfl rfl ?_
  refine Go.ifN 8 d3_5 rfl (teq (by decide)).2 ?_
  refine Go.aloadN 9 d3_8 rfl rfl rfl ?_
  refine Go.ldcL (vs := []) (z := (0 : Int32)) 0 11 d3_9 rfl (w18 hw) (wS hw) (List.mem_of_getElem? (i := 3) rfl) ⟨by decide, rfl⟩ (by decide) (by decide) (by decide) (by decide) (Nat.le_of_ble_eq_true rfl) (Nat.le_of_ble_eq_true rfl) (fun h_1 s_2 b_3 k_4 E_5 A_6 C_7 V_8 B_9 ne_10 => ?_)
  have B_11 : Ary Z h_1 b_3 .byte [] := Ary.ofArv B_9 rfl (by decide)
  have S_12 : Str Z h_1 s_2 [] := ⟨_, A_6, C_7, V_8, B_11, by unfold Lat; decide⟩
  show G_new4_0 (some consts_1) l Z n0 x b z h0 2 4 [x] h_1 11 #[.val (.ref x), .val (.ref b), .val (.int (0 : Int32)), .val (.int (0 : Int32)), .val .null, .unset] [(.ref s_2), (.ref x)]
  refine Go.getF 14 d3_11 rfl (w24 hw) Via.refl V_8 ?_
  have f_13 := E.ext E_5
  have f_14 := V.ext E_5
  refine Go.putF 17 (.ref b_3) d3_14 rfl (w24 hw) Via.refl f_14 f_13 (Or.inr ⟨(w20 hw), rfl, rfl⟩) (w5 hw) (ty := (.array .byte)) (by decide) rfl rfl (List.mem_of_getElem? (i := 0) rfl) n0x (fun h_15 W_16 => ?_)
  refine Go.aloadN 18 d3_17 rfl rfl rfl ?_
  refine Go.ldcL (vs := []) (z := (0 : Int32)) 0 20 d3_18 rfl (w18 hw) (wS hw) (List.mem_of_getElem? (i := 3) rfl) ⟨by decide, rfl⟩ (by decide) (by decide) (by decide) (by decide) (Nat.le_of_ble_eq_true rfl) (Nat.le_of_ble_eq_true rfl) (fun h_17 s_18 b_19 k_20 E_21 A_22 C_23 V_24 B_25 ne_26 => ?_)
  have B_27 : Ary Z h_17 b_19 .byte [] := Ary.ofArv B_25 rfl (by decide)
  have S_28 : Str Z h_17 s_18 [] := ⟨_, A_22, C_23, V_24, B_27, by unfold Lat; decide⟩
  show G_new4_0 (some consts_1) l Z n0 x b z h0 4 8 [x] h_17 20 #[.val (.ref x), .val (.ref b), .val (.int (0 : Int32)), .val (.int (0 : Int32)), .val .null, .unset] [(.ref s_18), (.ref x)]
  refine Go.getF 23 d3_20 rfl (w25 hw) Via.refl C_23 ?_
  have f_29 := ((f_13.wr W_16).ext E_21)
  have f_30 := (((C.ext E_5).other W_16 (Or.inr (slot_ne (Or.inr (w21 hw)) (Or.inr (w20 hw)) (by decide) (t := .byte) (t' := (.array .byte)) (by decide) (by decide)))).ext E_21)
  refine Go.putF 26 (.int (0 : Int32)) d3_23 rfl (w25 hw) Via.refl f_30 f_29 (Or.inr ⟨(w21 hw), rfl, rfl⟩) (w5 hw) (ty := .byte) (by decide) rfl rfl (List.mem_of_getElem? (i := 0) rfl) n0x (fun h_31 W_32 => ?_)
  have f_33 := (((f_14.same W_16).ext E_21).other W_32 (Or.inr (slot_ne (Or.inr (w20 hw)) (Or.inr (w21 hw)) (by decide) (t := (.array .byte)) (t' := .byte) (by decide) (by decide))))
  have f_34 := (f_29.wr W_32)
  have f_35 := (((B_11.other W_16 (Ne.symm (ne_10 x (List.mem_of_getElem? (i := 0) rfl)).2)).ext E_21).other W_32 (Ne.symm (ne_10 x (List.mem_of_getElem? (i := 0) rfl)).2))
  have f_36 := ((((H.ext E_5).other W_16 (Or.inr (slot_ne (Or.inl (w69 hw)) (Or.inr (w20 hw)) (by decide) (t := .int) (t' := (.array .byte)) (by decide) (by decide)))).ext E_21).other W_32 (Or.inr (slot_ne (Or.inl (w69 hw)) (Or.inr (w21 hw)) (by decide) (t := .int) (t' := .byte) (by decide) (by decide))))
  have f_37 := ((((HZ.ext E_5).other W_16 (Or.inr (slot_ne (Or.inl (w71 hw)) (Or.inr (w20 hw)) (by decide) (t := .boolean) (t' := (.array .byte)) (by decide) (by decide)))).ext E_21).other W_32 (Or.inr (slot_ne (Or.inl (w71 hw)) (Or.inr (w21 hw)) (by decide) (t := .boolean) (t' := .byte) (by decide) (by decide))))
  exact Go.ret0 d3_26 rfl (sf' := []) (⟨rfl, (((((Keep.refl h0 [x]).ext E_5).wr W_16 (Or.inl (List.mem_of_getElem? (i := 0) rfl))).ext E_21).wr W_32 (Or.inl (List.mem_of_getElem? (i := 0) rfl))), b_3, f_34, (f_30.same W_32), f_33, f_35, latN, f_36, f_37, fun q => absurd q (by simp)⟩) (fun _ q => nomatch q) (Nat.le_of_ble_eq_true rfl) (Nat.le_of_ble_eq_true rfl)
abbrev G_new1_0 (md : Md) (l : Launch) (Z : State) (n0 : Nat) (x b : Addr) (z : Int32)  (h0 : Heap) := Go md l Z n0 ({ frames := 2, cells := 4, slots := 8, locals := 29 } : Room) jdk_42_method_3_code 2 none "java/lang/String" "<init>" (fun v h' _ => v = none ∧ Keep h0 h' [x] ∧ Hst Z h' x [])
theorem ef_new1_0 (mid : MethodId) (x b : Addr) (z : Int32)   : entryFrame mid #[(.ref x), (.ref b)] 2 = mkF mid 0 #[.val (.ref x), .val (.ref b)] [] := by first | (simp [entryFrame, mkF, argsToLocals, Value.category]; done) | rfl
set_option maxRecDepth 65536 in
set_option maxHeartbeats 40000000 in
theorem c_new1_0 {l : Launch} {Z : State} {n0 : Nat} {a0 : Array Value} (hw : HW a0 Z) (x b : Addr) (z : Int32)  {h0 : Heap} (E : Exa Z h0 x "java/lang/String") (n0x : n0 ≤ x) {v0 u0 : Value} (V : Fld Z h0 x "java/lang/String" "value" "[B" v0) (C : Fld Z h0 x "java/lang/String" "coder" "B" u0) (H : Fld Z h0 x "java/lang/String" "hash" "I" (.int 0)) (HZ : Fld Z h0 x "java/lang/String" "hashIsZero" "Z" (.int 0)) (A : Ary Z h0 b .char []) (SC : Sta Z Z.heap "java/lang/String" "COMPACT_STRINGS" "Z" (.int z)) (hz : ¬ z = 0)  : G_new1_0 (some consts_1) l Z n0 x b z h0 0 0 [x] h0 0 #[.val (.ref x), .val (.ref b)] [] := by
  refine Go.aloadN 1 d2_0 rfl rfl rfl ?_
  refine Go.aloadN 2 d2_1 rfl rfl rfl ?_
  refine Go.iconst 3 (0 : Int32) d2_2 rfl rfl ?_
  refine Go.aloadN 4 d2_3 rfl rfl rfl ?_
  refine Go.alen 5 (0 : Int32) d2_4 rfl A rfl ?_
  refine Go.aconstNull 6 d2_5 rfl ?_
  refine Go.callC (S := []) (a := x) 9 [(.ref b), (.int (0 : Int32)), (.int (0 : Int32)), .null] d2_6 rfl rfl rfl (w11 hw) (w12 hw) (w14 hw) (by decide) (call_of_go (R := _) (len := 3) (W := 0) (plainFor_of_name pn_0) (fun mid => ef_new4_0 mid x b z ) (c_new4_0 hw x b z E n0x V C H HZ A SC hz) (w14 hw) (w6 hw) (by decide) (by decide)) (lenOf pd_0 rfl) (Nat.le_of_ble_eq_true rfl) rfl (Nat.le_of_ble_eq_true rfl) (Nat.le_of_ble_eq_true rfl) (fun _ q => q) (fun v h_1 sf_2 hq => ?_)
  obtain ⟨rfl, K2, S2⟩ := hq
  refine Go.more (sf' := [x]) ?_ (Nat.le_refl _) (Nat.le_refl _) (fun _ q => List.mem_append_right _ q)
  show G_new1_0 (some consts_1) l Z n0 x b z h0 4 8 [x] h_1 9 #[.val (.ref x), .val (.ref b)] []
  exact Go.ret0 d2_9 rfl (sf' := []) (⟨rfl, K2, S2⟩) (fun _ q => nomatch q) (Nat.le_of_ble_eq_true rfl) (Nat.le_of_ble_eq_true rfl)
abbrev G_cmp5_1 (md : Md) (l : Launch) (Z : State) (n0 : Nat) (b d : Addr) (c0 : Int32) (h0 : Heap) := Go md l Z n0 ({ frames := 0, cells := 0, slots := 0, locals := 0 } : Room) jdk_52_method_21_code 7 (some .int) "java/lang/StringUTF16" "compress" (fun v h' _ => v = some (.int (1 : Int32)) ∧ Keep h0 h' [d] ∧ Ary Z h' d .byte [(.int c0.toInt8.toInt32)])
theorem ef_cmp5_1 (mid : MethodId) (b d : Addr) (c0 : Int32)  : entryFrame mid #[(.ref b), (.int (0 : Int32)), (.ref d), (.int (0 : Int32)), (.int (1 : Int32))] 7 = mkF mid 0 #[.val (.ref b), .val (.int (0 : Int32)), .val (.ref d), .val (.int (0 : Int32)), .val (.int (1 : Int32)), .unset, .unset] [] := by first | (simp [entryFrame, mkF, argsToLocals, Value.category]; done) | rfl
set_option maxRecDepth 65536 in
set_option maxHeartbeats 40000000 in
theorem c_cmp5_1 {md : Md} {l : Launch} {Z : State} {n0 : Nat} {a0 : Array Value} (hw : HW a0 Z) (b d : Addr) (c0 : Int32) {h0 : Heap} (A : Ary Z h0 b .char [(.int c0)]) (b_c0 : ¬ c0 < 0 ∧ ¬ (255 : Int32) < c0) (D : Ary Z h0 d .byte [(.int (0 : Int32))]) (n0d : n0 ≤ d) (nbd : b ≠ d) : G_cmp5_1 md l Z n0 b d c0 h0 0 0 [d] h0 0 #[.val (.ref b), .val (.int (0 : Int32)), .val (.ref d), .val (.int (0 : Int32)), .val (.int (1 : Int32)), .unset, .unset] [] := by
  refine Go.iconst 1 (0 : Int32) d16_0 rfl rfl ?_
  refine Go.istore 3 #[.val (.ref b), .val (.int (0 : Int32)), .val (.ref d), .val (.int (0 : Int32)), .val (.int (1 : Int32)), .val (.int (0 : Int32)), .unset] d16_1 rfl rfl ?_
  refine Go.iload 5 d16_3 rfl rfl ?_
  refine Go.iload 7 d16_5 rfl rfl ?_
  refine Go.icmpN 10 d16_7 rfl (tlt (by decide)).2.1 ?_
  refine Go.aloadN 11 d16_10 rfl rfl rfl ?_
  refine Go.iloadN 12 d16_11 rfl rfl ?_
  refine Go.caload 0 13 d16_12 rfl A (by decide) rfl ?_
  refine Go.istore 15 #[.val (.ref b), .val (.int (0 : Int32)), .val (.ref d), .val (.int (0 : Int32)), .val (.int (1 : Int32)), .val (.int (0 : Int32)), .val (.int c0)] d16_13 rfl rfl ?_
  refine Go.iload 17 d16_15 rfl rfl ?_
  refine Go.sipush 20 (255 : Int32) d16_17 rfl rfl ?_
  refine Go.icmpY 26 d16_20 (by decide) (by decide) (flt b_c0.2).2.2.2 ?_
  refine Go.aloadN 27 d16_26 rfl rfl rfl ?_
  refine Go.iloadN 28 d16_27 rfl rfl ?_
  refine Go.iload 30 d16_28 rfl rfl ?_
  refine Go.i2b 31 d16_30 rfl ?_
  refine Go.bastore 0 32 d16_31 rfl D (by decide) (Nat.le_of_ble_eq_true rfl) (List.mem_of_getElem? (i := 0) rfl) n0d (fun h_1 W_2 A_3 => ?_)
  have A_4 : Ary Z h_1 d .byte [(.int (c0).toInt8.toInt32)] := by have := A_3; rw [i8_idem _] at this; exact this
  refine Go.iinc 35 #[.val (.ref b), .val (.int ((0 : Int32) + (1 : Int32))), .val (.ref d), .val (.int (0 : Int32)), .val (.int (1 : Int32)), .val (.int (0 : Int32)), .val (.int c0)] (1 : Int32) d16_32 rfl rfl rfl rfl ?_
  rw [show ((0 : Int32) + (1 : Int32)) = (1 : Int32) from by decide]
  refine Go.iinc 38 #[.val (.ref b), .val (.int (1 : Int32)), .val (.ref d), .val (.int ((0 : Int32) + (1 : Int32))), .val (.int (1 : Int32)), .val (.int (0 : Int32)), .val (.int c0)] (1 : Int32) d16_35 rfl rfl rfl rfl ?_
  rw [show ((0 : Int32) + (1 : Int32)) = (1 : Int32) from by decide]
  refine Go.iinc 41 #[.val (.ref b), .val (.int (1 : Int32)), .val (.ref d), .val (.int (1 : Int32)), .val (.int (1 : Int32)), .val (.int ((0 : Int32) + (1 : Int32))), .val (.int c0)] (1 : Int32) d16_38 rfl rfl rfl rfl ?_
  rw [show ((0 : Int32) + (1 : Int32)) = (1 : Int32) from by decide]
  refine Go.goto 3 d16_41 (by decide) (by decide) ?_
  refine Go.iload 5 d16_3 rfl rfl ?_
  refine Go.iload 7 d16_5 rfl rfl ?_
  refine Go.icmpY 44 d16_7 (by decide) (by decide) (flt (by decide)).2.1 ?_
  refine Go.iload 46 d16_44 rfl rfl ?_
  exact Go.retI d16_46 rfl (sf' := []) (⟨rfl, ((Keep.refl h0 [d]).wr W_2 (Or.inl (List.mem_of_getElem? (i := 0) rfl))), A_4⟩) (fun _ q => nomatch q) (Nat.le_of_ble_eq_true rfl) (Nat.le_of_ble_eq_true rfl)
abbrev G_cmp3_1 (md : Md) (l : Launch) (Z : State) (n0 : Nat) (b : Addr) (c0 : Int32) (h0 : Heap) := Go md l Z n0 ({ frames := 1, cells := 1, slots := 1, locals := 18 } : Room) jdk_52_method_16_code 6 (some (.array .byte)) "java/lang/StringUTF16" "compress" (fun v h' _ => ∃ x, v = some (.ref x) ∧ Ext h0 h' ∧ h0.size ≤ x ∧ Ary Z h' x .byte [(.int c0.toInt8.toInt32)] ∧ Exa Z h' x "[B")
theorem ef_cmp3_1 (mid : MethodId) (b : Addr) (c0 : Int32)  : entryFrame mid #[(.ref b), (.int (0 : Int32)), (.int (1 : Int32))] 6 = mkF mid 0 #[.val (.ref b), .val (.int (0 : Int32)), .val (.int (1 : Int32)), .unset, .unset, .unset] [] := by first | (simp [entryFrame, mkF, argsToLocals, Value.category]; done) | rfl
set_option maxRecDepth 65536 in
set_option maxHeartbeats 40000000 in
theorem c_cmp3_1 {md : Md} {l : Launch} {Z : State} {n0 : Nat} {a0 : Array Value} (hw : HW a0 Z) (b : Addr) (c0 : Int32) {h0 : Heap} (A : Ary Z h0 b .char [(.int c0)]) (b_c0 : ¬ c0 < 0 ∧ ¬ (255 : Int32) < c0)  : G_cmp3_1 md l Z n0 b c0 h0 0 0 [] h0 0 #[.val (.ref b), .val (.int (0 : Int32)), .val (.int (1 : Int32)), .unset, .unset, .unset] [] := by
  refine Go.iloadN 1 d15_0 rfl rfl ?_
  refine Go.newE (C := "[B") 1 3 d15_1 rfl rfl rfl (w19 hw) (by decide) 1 (Nat.le_refl _) (by decide) (Nat.le_of_ble_eq_true rfl) (Nat.le_of_ble_eq_true rfl) (fun h_1 x_2 g_3 q_4 E_5 lt_6 A_7 EX_8 => ?_)
  have A_9 : Ary Z h_1 x_2 .byte [(.int (0 : Int32))] := A_7
  show G_cmp3_1 md l Z n0 b c0 h0 1 1 [x_2] h_1 3 #[.val (.ref b), .val (.int (0 : Int32)), .val (.int (1 : Int32)), .unset, .unset, .unset] [(.ref x_2)]
  refine Go.astoreN 4 #[.val (.ref b), .val (.int (0 : Int32)), .val (.int (1 : Int32)), .val (.ref x_2), .unset, .unset] d15_3 rfl rfl rfl ?_
  refine Go.aloadN 5 d15_4 rfl rfl rfl ?_
  refine Go.iloadN 6 d15_5 rfl rfl ?_
  refine Go.aloadN 7 d15_6 rfl rfl rfl ?_
  refine Go.iconst 8 (0 : Int32) d15_7 rfl rfl ?_
  refine Go.iloadN 9 d15_8 rfl rfl ?_
  have f_10 := A.ext E_5
  have nbd : b ≠ x_2 := Nat.ne_of_lt (Nat.lt_of_lt_of_le A.lt (Nat.le_of_eq g_3))
  refine Go.callS (S := []) 12 [(.ref b), (.int (0 : Int32)), (.ref x_2), (.int (0 : Int32)), (.int (1 : Int32))] d15_9 rfl rfl (w106 hw) (w107 hw) (w104 hw) (w108 hw) (by decide) (call_of_go (R := _) (len := 3) (W := 0) (plainFor_of_name pn_1) (fun mid => ef_cmp5_1 mid b x_2 c0 ) (c_cmp5_1 hw b x_2 c0 f_10 b_c0 A_9 q_4 nbd) (w108 hw) (w104 hw) (by decide) (by decide)) (lenOf pd_1 rfl) (Nat.le_of_ble_eq_true rfl) rfl (Nat.le_of_ble_eq_true rfl) (Nat.le_of_ble_eq_true rfl) (fun _ q => q) (fun v h_11 sf_12 hq => ?_)
  obtain ⟨rfl, K5, D5⟩ := hq
  refine Go.more (sf' := [x_2]) ?_ (Nat.le_refl _) (Nat.le_refl _) (fun _ q => List.mem_append_right _ q)
  show G_cmp3_1 md l Z n0 b c0 h0 1 1 [x_2] h_11 12 #[.val (.ref b), .val (.int (0 : Int32)), .val (.int (1 : Int32)), .val (.ref x_2), .unset, .unset] [(.int (1 : Int32))]
  refine Go.istore 14 #[.val (.ref b), .val (.int (0 : Int32)), .val (.int (1 : Int32)), .val (.ref x_2), .val (.int (1 : Int32)), .unset] d15_12 rfl rfl ?_
  refine Go.iload 16 d15_14 rfl rfl ?_
  refine Go.iloadN 17 d15_16 rfl rfl ?_
  refine Go.icmpY 57 d15_17 (by decide) (by decide) (teq (by decide)).1 ?_
  refine Go.aloadN 58 d15_57 rfl rfl rfl ?_
  have X_13 : Ext h0 h_11 := extK E_5 K5 (allS (Nat.le_of_eq g_3) all0)
  exact Go.retA d15_58 rfl rfl rfl (sf' := []) (⟨_, rfl, X_13, (Nat.le_of_eq g_3), D5, (EX_8.keep K5)⟩) (fun _ q => nomatch q) (Nat.le_of_ble_eq_true rfl) (Nat.le_of_ble_eq_true rfl)
abbrev G_cfl1 (md : Md) (l : Launch) (Z : State) (n0 : Nat) (d : Addr) (vs : List Value) (h0 : Heap) := Go md l Z n0 ({ frames := 0, cells := 0, slots := 0, locals := 0 } : Room) jdk_52_method_15_code 2 (some .byte) "java/lang/StringUTF16" "coderFromArrayLen" (fun v h' _ => h0 = h' ∧ v = some (.int 0))
theorem ef_cfl1 (mid : MethodId) (d : Addr) (vs : List Value)  : entryFrame mid #[(.ref d), (.int (1 : Int32))] 2 = mkF mid 0 #[.val (.ref d), .val (.int (1 : Int32))] [] := by first | (simp [entryFrame, mkF, argsToLocals, Value.category]; done) | rfl
set_option maxRecDepth 65536 in
set_option maxHeartbeats 40000000 in
theorem c_cfl1 {md : Md} {l : Launch} {Z : State} {n0 : Nat} {a0 : Array Value} (hw : HW a0 Z) (d : Addr) (vs : List Value) {h0 : Heap} (A : Ary Z h0 d .byte vs) (hl : vs.length = 1) : G_cfl1 md l Z n0 d vs h0 0 0 [] h0 0 #[.val (.ref d), .val (.int (1 : Int32))] [] := by
  refine Go.iloadN 1 d17_0 rfl rfl ?_
  refine Go.aloadN 2 d17_1 rfl rfl rfl ?_
  refine Go.alen 3 (1 : Int32) d17_2 rfl A (by rw [hl]; rfl) ?_
  refine Go.isub 4 d17_3 rfl ?_
  rw [show ((1 : Int32) - (1 : Int32)) = (0 : Int32) from by decide]
  refine Go.bipush 6 (31 : Int32) d17_4 rfl rfl ?_
  refine Go.iushr 7 d17_6 rfl ?_
  refine Go.i2b 8 d17_7 rfl ?_
  exact Go.retN (0 : Int32) d17_8 rfl (t := .byte) (by simp) (by decide) (sf' := []) (⟨rfl, rfl⟩) (fun _ q => nomatch q) (Nat.le_of_ble_eq_true rfl) (Nat.le_of_ble_eq_true rfl)
abbrev G_new4_1 (md : Md) (l : Launch) (Z : State) (n0 : Nat) (x b : Addr) (z : Int32) (c0 : Int32) (h0 : Heap) := Go md l Z n0 ({ frames := 2, cells := 1, slots := 1, locals := 35 } : Room) jdk_42_method_149_code 6 none "java/lang/String" "<init>" (fun v h' _ => v = none ∧ Keep h0 h' [x] ∧ Hst Z h' x [c0])
theorem ef_new4_1 (mid : MethodId) (x b : Addr) (z : Int32) (c0 : Int32)  : entryFrame mid #[(.ref x), (.ref b), (.int (0 : Int32)), (.int (1 : Int32)), .null] 6 = mkF mid 0 #[.val (.ref x), .val (.ref b), .val (.int (0 : Int32)), .val (.int (1 : Int32)), .val .null, .unset] [] := by first | (simp [entryFrame, mkF, argsToLocals, Value.category]; done) | rfl
set_option maxRecDepth 65536 in
set_option maxHeartbeats 40000000 in
theorem c_new4_1 {md : Md} {l : Launch} {Z : State} {n0 : Nat} {a0 : Array Value} (hw : HW a0 Z) (x b : Addr) (z : Int32) (c0 : Int32) {h0 : Heap} (E : Exa Z h0 x "java/lang/String") (n0x : n0 ≤ x) {v0 u0 : Value} (V : Fld Z h0 x "java/lang/String" "value" "[B" v0) (C : Fld Z h0 x "java/lang/String" "coder" "B" u0) (H : Fld Z h0 x "java/lang/String" "hash" "I" (.int 0)) (HZ : Fld Z h0 x "java/lang/String" "hashIsZero" "Z" (.int 0)) (A : Ary Z h0 b .char [(.int c0)]) (b_c0 : ¬ c0 < 0 ∧ ¬ (255 : Int32) < c0) (SC : Sta Z Z.heap "java/lang/String" "COMPACT_STRINGS" "Z" (.int z)) (hz : ¬ z = 0)  : G_new4_1 md l Z n0 x b z c0 h0 0 0 [x] h0 0 #[.val (.ref x), .val (.ref b), .val (.int (0 : Int32)), .val (.int (1 : Int32)), .val .null, .unset] [] := by
  refine Go.aloadN 1 d3_0 rfl rfl rfl ?_
  refine Go.initO (W := 0) 4 d3_1 rfl (w15 hw) (w16 hw) (w17 hw) rfl (by decide) (Nat.le_of_ble_eq_true rfl) (by decide) ?_
  refine Go.iloadN 5 d3_4 rfl rfl ?_
  refine Go.ifY 27 d3_5 (by decide) (by decide) (feq (by decide)).2 ?_
  refine Go.getS 30 d3_27 rfl (w77 hw) Via.refl SC ?_
  refine Go.ifN 33 d3_30 rfl (feq hz).1 ?_
  refine Go.aloadN 34 d3_33 rfl rfl rfl ?_
  refine Go.iloadN 35 d3_34 rfl rfl ?_
  refine Go.iloadN 36 d3_35 rfl rfl ?_
  refine Go.callS (S := []) 39 [(.ref b), (.int (0 : Int32)), (.int (1 : Int32))] d3_36 rfl rfl (w102 hw) (w103 hw) (w104 hw) (w105 hw) (by decide) (call_of_go (R := _) (len := 3) (W := 0) (plainFor_of_name pn_1) (fun mid => ef_cmp3_1 mid b c0 ) (c_cmp3_1 hw b c0 A b_c0) (w105 hw) (w104 hw) (by decide) (by decide)) (lenOf pd_2 rfl) (Nat.le_of_ble_eq_true rfl) rfl (Nat.le_of_ble_eq_true rfl) (Nat.le_of_ble_eq_true rfl) (fun _ q => nomatch q) (fun v h_1 sf_2 hq => ?_)
  obtain ⟨y, rfl, X3, le3, A3, E3⟩ := hq
  have nyx : y ≠ x := Nat.ne_of_gt (Nat.lt_of_lt_of_le E.lt le3)
  refine Go.more (sf' := [x]) ?_ (Nat.le_refl _) (Nat.le_refl _) (fun _ q => List.mem_append_right _ q)
  show G_new4_1 md l Z n0 x b z c0 h0 1 1 [x] h_1 39 #[.val (.ref x), .val (.ref b), .val (.int (0 : Int32)), .val (.int (1 : Int32)), .val .null, .unset] [(.ref y)]
  refine Go.astore 41 #[.val (.ref x), .val (.ref b), .val (.int (0 : Int32)), .val (.int (1 : Int32)), .val .null, .val (.ref y)] d3_39 rfl rfl rfl ?_
  refine Go.aloadN 42 d3_41 rfl rfl rfl ?_
  refine Go.aload 44 d3_42 rfl rfl rfl ?_
  refine Go.iloadN 45 d3_44 rfl rfl ?_
  refine Go.callS (S := [(.ref x)]) 48 [(.ref y), (.int (1 : Int32))] d3_45 rfl rfl (w109 hw) (w110 hw) (w104 hw) (w111 hw) (by decide) (call_of_go (R := _) (len := 3) (W := 1) (plainFor_of_name pn_1) (fun mid => ef_cfl1 mid y [(.int c0.toInt8.toInt32)] ) (c_cfl1 hw y [(.int c0.toInt8.toInt32)] A3 rfl) (w111 hw) (w104 hw) (by decide) (by decide)) (lenOf pd_3 rfl) (Nat.le_of_ble_eq_true rfl) rfl (Nat.le_of_ble_eq_true rfl) (Nat.le_of_ble_eq_true rfl) (fun _ q => nomatch q) (fun v h_3 sf_4 hq => ?_)
  obtain ⟨rfl, rfl⟩ := hq
  refine Go.more (sf' := [x]) ?_ (Nat.le_refl _) (Nat.le_refl _) (fun _ q => List.mem_append_right _ q)
  show G_new4_1 md l Z n0 x b z c0 h0 1 1 [x] h_1 48 #[.val (.ref x), .val (.ref b), .val (.int (0 : Int32)), .val (.int (1 : Int32)), .val .null, .val (.ref y)] [(.int (0 : Int32)), (.ref x)]
  have f_5 := E.ext X3
  have f_6 := C.ext X3
  refine Go.putF 51 (.int (0 : Int32)) d3_48 rfl (w25 hw) Via.refl f_6 f_5 (Or.inr ⟨(w21 hw), rfl, rfl⟩) (w5 hw) (ty := .byte) (by decide) rfl rfl (List.mem_of_getElem? (i := 0) rfl) n0x (fun h_7 W_8 => ?_)
  refine Go.aloadN 52 d3_51 rfl rfl rfl ?_
  refine Go.aload 54 d3_52 rfl rfl rfl ?_
  have f_9 := (f_5.wr W_8)
  have f_10 := ((V.ext X3).other W_8 (Or.inr (slot_ne (Or.inr (w20 hw)) (Or.inr (w21 hw)) (by decide) (t := (.array .byte)) (t' := .byte) (by decide) (by decide))))
  refine Go.putF 57 (.ref y) d3_54 rfl (w24 hw) Via.refl f_10 f_9 (Or.inr ⟨(w20 hw), rfl, rfl⟩) (w5 hw) (ty := (.array .byte)) (by decide) rfl rfl (List.mem_of_getElem? (i := 0) rfl) n0x (fun h_11 W_12 => ?_)
  have f_13 := (f_9.wr W_12)
  have f_14 := ((f_6.same W_8).other W_12 (Or.inr (slot_ne (Or.inr (w21 hw)) (Or.inr (w20 hw)) (by decide) (t := .byte) (t' := (.array .byte)) (by decide) (by decide))))
  have f_15 := ((A3.other W_8 nyx).other W_12 nyx)
  have f_16 := (((H.ext X3).other W_8 (Or.inr (slot_ne (Or.inl (w69 hw)) (Or.inr (w21 hw)) (by decide) (t := .int) (t' := .byte) (by decide) (by decide)))).other W_12 (Or.inr (slot_ne (Or.inl (w69 hw)) (Or.inr (w20 hw)) (by decide) (t := .int) (t' := (.array .byte)) (by decide) (by decide))))
  have f_17 := (((HZ.ext X3).other W_8 (Or.inr (slot_ne (Or.inl (w71 hw)) (Or.inr (w21 hw)) (by decide) (t := .boolean) (t' := .byte) (by decide) (by decide)))).other W_12 (Or.inr (slot_ne (Or.inl (w71 hw)) (Or.inr (w20 hw)) (by decide) (t := .boolean) (t' := (.array .byte)) (by decide) (by decide))))
  exact Go.ret0 d3_57 rfl (sf' := []) (⟨rfl, ((((Keep.refl h0 [x]).ext X3).wr W_8 (Or.inl (List.mem_of_getElem? (i := 0) rfl))).wr W_12 (Or.inl (List.mem_of_getElem? (i := 0) rfl))), y, f_13, f_14, (f_10.same W_12), f_15, (lat1 b_c0), f_16, f_17, fun q => absurd q (by simp)⟩) (fun _ q => nomatch q) (Nat.le_of_ble_eq_true rfl) (Nat.le_of_ble_eq_true rfl)
abbrev G_new1_1 (md : Md) (l : Launch) (Z : State) (n0 : Nat) (x b : Addr) (z : Int32) (c0 : Int32) (h0 : Heap) := Go md l Z n0 ({ frames := 3, cells := 1, slots := 1, locals := 52 } : Room) jdk_42_method_3_code 2 none "java/lang/String" "<init>" (fun v h' _ => v = none ∧ Keep h0 h' [x] ∧ Hst Z h' x [c0])
theorem ef_new1_1 (mid : MethodId) (x b : Addr) (z : Int32) (c0 : Int32)  : entryFrame mid #[(.ref x), (.ref b)] 2 = mkF mid 0 #[.val (.ref x), .val (.ref b)] [] := by first | (simp [entryFrame, mkF, argsToLocals, Value.category]; done) | rfl
set_option maxRecDepth 65536 in
set_option maxHeartbeats 40000000 in
theorem c_new1_1 {md : Md} {l : Launch} {Z : State} {n0 : Nat} {a0 : Array Value} (hw : HW a0 Z) (x b : Addr) (z : Int32) (c0 : Int32) {h0 : Heap} (E : Exa Z h0 x "java/lang/String") (n0x : n0 ≤ x) {v0 u0 : Value} (V : Fld Z h0 x "java/lang/String" "value" "[B" v0) (C : Fld Z h0 x "java/lang/String" "coder" "B" u0) (H : Fld Z h0 x "java/lang/String" "hash" "I" (.int 0)) (HZ : Fld Z h0 x "java/lang/String" "hashIsZero" "Z" (.int 0)) (A : Ary Z h0 b .char [(.int c0)]) (b_c0 : ¬ c0 < 0 ∧ ¬ (255 : Int32) < c0) (SC : Sta Z Z.heap "java/lang/String" "COMPACT_STRINGS" "Z" (.int z)) (hz : ¬ z = 0)  : G_new1_1 md l Z n0 x b z c0 h0 0 0 [x] h0 0 #[.val (.ref x), .val (.ref b)] [] := by
  refine Go.aloadN 1 d2_0 rfl rfl rfl ?_
  refine Go.aloadN 2 d2_1 rfl rfl rfl ?_
  refine Go.iconst 3 (0 : Int32) d2_2 rfl rfl ?_
  refine Go.aloadN 4 d2_3 rfl rfl rfl ?_
  refine Go.alen 5 (1 : Int32) d2_4 rfl A rfl ?_
  refine Go.aconstNull 6 d2_5 rfl ?_
  refine Go.callC (S := []) (a := x) 9 [(.ref b), (.int (0 : Int32)), (.int (1 : Int32)), .null] d2_6 rfl rfl rfl (w11 hw) (w12 hw) (w14 hw) (by decide) (call_of_go (R := _) (len := 3) (W := 0) (plainFor_of_name pn_0) (fun mid => ef_new4_1 mid x b z c0 ) (c_new4_1 hw x b z c0 E n0x V C H HZ A b_c0 SC hz) (w14 hw) (w6 hw) (by decide) (by decide)) (lenOf pd_0 rfl) (Nat.le_of_ble_eq_true rfl) rfl (Nat.le_of_ble_eq_true rfl) (Nat.le_of_ble_eq_true rfl) (fun _ q => q) (fun v h_1 sf_2 hq => ?_)
  obtain ⟨rfl, K2, S2⟩ := hq
  refine Go.more (sf' := [x]) ?_ (Nat.le_refl _) (Nat.le_refl _) (fun _ q => List.mem_append_right _ q)
  show G_new1_1 md l Z n0 x b z c0 h0 1 1 [x] h_1 9 #[.val (.ref x), .val (.ref b)] []
  exact Go.ret0 d2_9 rfl (sf' := []) (⟨rfl, K2, S2⟩) (fun _ q => nomatch q) (Nat.le_of_ble_eq_true rfl) (Nat.le_of_ble_eq_true rfl)
abbrev G_cmp5_2 (md : Md) (l : Launch) (Z : State) (n0 : Nat) (b d : Addr) (c0 c1 : Int32) (h0 : Heap) := Go md l Z n0 ({ frames := 0, cells := 0, slots := 0, locals := 0 } : Room) jdk_52_method_21_code 7 (some .int) "java/lang/StringUTF16" "compress" (fun v h' _ => v = some (.int (2 : Int32)) ∧ Keep h0 h' [d] ∧ Ary Z h' d .byte [(.int c0.toInt8.toInt32), (.int c1.toInt8.toInt32)])
theorem ef_cmp5_2 (mid : MethodId) (b d : Addr) (c0 c1 : Int32)  : entryFrame mid #[(.ref b), (.int (0 : Int32)), (.ref d), (.int (0 : Int32)), (.int (2 : Int32))] 7 = mkF mid 0 #[.val (.ref b), .val (.int (0 : Int32)), .val (.ref d), .val (.int (0 : Int32)), .val (.int (2 : Int32)), .unset, .unset] [] := by first | (simp [entryFrame, mkF, argsToLocals, Value.category]; done) | rfl
set_option maxRecDepth 65536 in
set_option maxHeartbeats 40000000 in
theorem c_cmp5_2 {md : Md} {l : Launch} {Z : State} {n0 : Nat} {a0 : Array Value} (hw : HW a0 Z) (b d : Addr) (c0 c1 : Int32) {h0 : Heap} (A : Ary Z h0 b .char [(.int c0), (.int c1)]) (b_c0 : ¬ c0 < 0 ∧ ¬ (255 : Int32) < c0) (b_c1 : ¬ c1 < 0 ∧ ¬ (255 : Int32) < c1) (D : Ary Z h0 d .byte [(.int (0 : Int32)), (.int (0 : Int32))]) (n0d : n0 ≤ d) (nbd : b ≠ d) : G_cmp5_2 md l Z n0 b d c0 c1 h0 0 0 [d] h0 0 #[.val (.ref b), .val (.int (0 : Int32)), .val (.ref d), .val (.int (0 : Int32)), .val (.int (2 : Int32)), .unset, .unset] [] := by
  refine Go.iconst 1 (0 : Int32) d16_0 rfl rfl ?_
  refine Go.istore 3 #[.val (.ref b), .val (.int (0 : Int32)), .val (.ref d), .val (.int (0 : Int32)), .val (.int (2 : Int32)), .val (.int (0 : Int32)), .unset] d16_1 rfl rfl ?_
  refine Go.iload 5 d16_3 rfl rfl ?_
  refine Go.iload 7 d16_5 rfl rfl ?_
  refine Go.icmpN 10 d16_7 rfl (tlt (by decide)).2.1 ?_
  refine Go.aloadN 11 d16_10 rfl rfl rfl ?_
  refine Go.iloadN 12 d16_11 rfl rfl ?_
  refine Go.caload 0 13 d16_12 rfl A (by decide) rfl ?_
  refine Go.istore 15 #[.val (.ref b), .val (.int (0 : Int32)), .val (.ref d), .val (.int (0 : Int32)), .val (.int (2 : Int32)), .val (.int (0 : Int32)), .val (.int c0)] d16_13 rfl rfl ?_
  refine Go.iload 17 d16_15 rfl rfl ?_
  refine Go.sipush 20 (255 : Int32) d16_17 rfl rfl ?_
  refine Go.icmpY 26 d16_20 (by decide) (by decide) (flt b_c0.2).2.2.2 ?_
  refine Go.aloadN 27 d16_26 rfl rfl rfl ?_
  refine Go.iloadN 28 d16_27 rfl rfl ?_
  refine Go.iload 30 d16_28 rfl rfl ?_
  refine Go.i2b 31 d16_30 rfl ?_
  refine Go.bastore 0 32 d16_31 rfl D (by decide) (Nat.le_of_ble_eq_true rfl) (List.mem_of_getElem? (i := 0) rfl) n0d (fun h_1 W_2 A_3 => ?_)
  have A_4 : Ary Z h_1 d .byte [(.int (c0).toInt8.toInt32), (.int (0 : Int32))] := by have := A_3; rw [i8_idem _] at this; exact this
  refine Go.iinc 35 #[.val (.ref b), .val (.int ((0 : Int32) + (1 : Int32))), .val (.ref d), .val (.int (0 : Int32)), .val (.int (2 : Int32)), .val (.int (0 : Int32)), .val (.int c0)] (1 : Int32) d16_32 rfl rfl rfl rfl ?_
  rw [show ((0 : Int32) + (1 : Int32)) = (1 : Int32) from by decide]
  refine Go.iinc 38 #[.val (.ref b), .val (.int (1 : Int32)), .val (.ref d), .val (.int ((0 : Int32) + (1 : Int32))), .val (.int (2 : Int32)), .val (.int (0 : Int32)), .val (.int c0)] (1 : Int32) d16_35 rfl rfl rfl rfl ?_
  rw [show ((0 : Int32) + (1 : Int32)) = (1 : Int32) from by decide]
  refine Go.iinc 41 #[.val (.ref b), .val (.int (1 : Int32)), .val (.ref d), .val (.int (1 : Int32)), .val (.int (2 : Int32)), .val (.int ((0 : Int32) + (1 : Int32))), .val (.int c0)] (1 : Int32) d16_38 rfl rfl rfl rfl ?_
  rw [show ((0 : Int32) + (1 : Int32)) = (1 : Int32) from by decide]
  refine Go.goto 3 d16_41 (by decide) (by decide) ?_
  refine Go.iload 5 d16_3 rfl rfl ?_
  refine Go.iload 7 d16_5 rfl rfl ?_
  refine Go.icmpN 10 d16_7 rfl (tlt (by decide)).2.1 ?_
  refine Go.aloadN 11 d16_10 rfl rfl rfl ?_
  refine Go.iloadN 12 d16_11 rfl rfl ?_
  have f_5 := (A.other W_2 nbd)
  refine Go.caload 1 13 d16_12 rfl f_5 (by decide) rfl ?_
  refine Go.istore 15 #[.val (.ref b), .val (.int (1 : Int32)), .val (.ref d), .val (.int (1 : Int32)), .val (.int (2 : Int32)), .val (.int (1 : Int32)), .val (.int c1)] d16_13 rfl rfl ?_
  refine Go.iload 17 d16_15 rfl rfl ?_
  refine Go.sipush 20 (255 : Int32) d16_17 rfl rfl ?_
  refine Go.icmpY 26 d16_20 (by decide) (by decide) (flt b_c1.2).2.2.2 ?_
  refine Go.aloadN 27 d16_26 rfl rfl rfl ?_
  refine Go.iloadN 28 d16_27 rfl rfl ?_
  refine Go.iload 30 d16_28 rfl rfl ?_
  refine Go.i2b 31 d16_30 rfl ?_
  refine Go.bastore 1 32 d16_31 rfl A_4 (by decide) (Nat.le_of_ble_eq_true rfl) (List.mem_of_getElem? (i := 0) rfl) n0d (fun h_6 W_7 A_8 => ?_)
  have A_9 : Ary Z h_6 d .byte [(.int (c0).toInt8.toInt32), (.int (c1).toInt8.toInt32)] := by have := A_8; rw [i8_idem _] at this; exact this
  refine Go.iinc 35 #[.val (.ref b), .val (.int ((1 : Int32) + (1 : Int32))), .val (.ref d), .val (.int (1 : Int32)), .val (.int (2 : Int32)), .val (.int (1 : Int32)), .val (.int c1)] (1 : Int32) d16_32 rfl rfl rfl rfl ?_
  rw [show ((1 : Int32) + (1 : Int32)) = (2 : Int32) from by decide]
  refine Go.iinc 38 #[.val (.ref b), .val (.int (2 : Int32)), .val (.ref d), .val (.int ((1 : Int32) + (1 : Int32))), .val (.int (2 : Int32)), .val (.int (1 : Int32)), .val (.int c1)] (1 : Int32) d16_35 rfl rfl rfl rfl ?_
  rw [show ((1 : Int32) + (1 : Int32)) = (2 : Int32) from by decide]
  refine Go.iinc 41 #[.val (.ref b), .val (.int (2 : Int32)), .val (.ref d), .val (.int (2 : Int32)), .val (.int (2 : Int32)), .val (.int ((1 : Int32) + (1 : Int32))), .val (.int c1)] (1 : Int32) d16_38 rfl rfl rfl rfl ?_
  rw [show ((1 : Int32) + (1 : Int32)) = (2 : Int32) from by decide]
  refine Go.goto 3 d16_41 (by decide) (by decide) ?_
  refine Go.iload 5 d16_3 rfl rfl ?_
  refine Go.iload 7 d16_5 rfl rfl ?_
  refine Go.icmpY 44 d16_7 (by decide) (by decide) (flt (by decide)).2.1 ?_
  refine Go.iload 46 d16_44 rfl rfl ?_
  exact Go.retI d16_46 rfl (sf' := []) (⟨rfl, (((Keep.refl h0 [d]).wr W_2 (Or.inl (List.mem_of_getElem? (i := 0) rfl))).wr W_7 (Or.inl (List.mem_of_getElem? (i := 0) rfl))), A_9⟩) (fun _ q => nomatch q) (Nat.le_of_ble_eq_true rfl) (Nat.le_of_ble_eq_true rfl)
abbrev G_cmp3_2 (md : Md) (l : Launch) (Z : State) (n0 : Nat) (b : Addr) (c0 c1 : Int32) (h0 : Heap) := Go md l Z n0 ({ frames := 1, cells := 1, slots := 2, locals := 18 } : Room) jdk_52_method_16_code 6 (some (.array .byte)) "java/lang/StringUTF16" "compress" (fun v h' _ => ∃ x, v = some (.ref x) ∧ Ext h0 h' ∧ h0.size ≤ x ∧ Ary Z h' x .byte [(.int c0.toInt8.toInt32), (.int c1.toInt8.toInt32)] ∧ Exa Z h' x "[B")
theorem ef_cmp3_2 (mid : MethodId) (b : Addr) (c0 c1 : Int32)  : entryFrame mid #[(.ref b), (.int (0 : Int32)), (.int (2 : Int32))] 6 = mkF mid 0 #[.val (.ref b), .val (.int (0 : Int32)), .val (.int (2 : Int32)), .unset, .unset, .unset] [] := by first | (simp [entryFrame, mkF, argsToLocals, Value.category]; done) | rfl
set_option maxRecDepth 65536 in
set_option maxHeartbeats 40000000 in
theorem c_cmp3_2 {md : Md} {l : Launch} {Z : State} {n0 : Nat} {a0 : Array Value} (hw : HW a0 Z) (b : Addr) (c0 c1 : Int32) {h0 : Heap} (A : Ary Z h0 b .char [(.int c0), (.int c1)]) (b_c0 : ¬ c0 < 0 ∧ ¬ (255 : Int32) < c0) (b_c1 : ¬ c1 < 0 ∧ ¬ (255 : Int32) < c1)  : G_cmp3_2 md l Z n0 b c0 c1 h0 0 0 [] h0 0 #[.val (.ref b), .val (.int (0 : Int32)), .val (.int (2 : Int32)), .unset, .unset, .unset] [] := by
  refine Go.iloadN 1 d15_0 rfl rfl ?_
  refine Go.newE (C := "[B") 2 3 d15_1 rfl rfl rfl (w19 hw) (by decide) 2 (Nat.le_refl _) (by decide) (Nat.le_of_ble_eq_true rfl) (Nat.le_of_ble_eq_true rfl) (fun h_1 x_2 g_3 q_4 E_5 lt_6 A_7 EX_8 => ?_)
  have A_9 : Ary Z h_1 x_2 .byte [(.int (0 : Int32)), (.int (0 : Int32))] := A_7
  show G_cmp3_2 md l Z n0 b c0 c1 h0 1 2 [x_2] h_1 3 #[.val (.ref b), .val (.int (0 : Int32)), .val (.int (2 : Int32)), .unset, .unset, .unset] [(.ref x_2)]
  refine Go.astoreN 4 #[.val (.ref b), .val (.int (0 : Int32)), .val (.int (2 : Int32)), .val (.ref x_2), .unset, .unset] d15_3 rfl rfl rfl ?_
  refine Go.aloadN 5 d15_4 rfl rfl rfl ?_
  refine Go.iloadN 6 d15_5 rfl rfl ?_
  refine Go.aloadN 7 d15_6 rfl rfl rfl ?_
  refine Go.iconst 8 (0 : Int32) d15_7 rfl rfl ?_
  refine Go.iloadN 9 d15_8 rfl rfl ?_
  have f_10 := A.ext E_5
  have nbd : b ≠ x_2 := Nat.ne_of_lt (Nat.lt_of_lt_of_le A.lt (Nat.le_of_eq g_3))
  refine Go.callS (S := []) 12 [(.ref b), (.int (0 : Int32)), (.ref x_2), (.int (0 : Int32)), (.int (2 : Int32))] d15_9 rfl rfl (w106 hw) (w107 hw) (w104 hw) (w108 hw) (by decide) (call_of_go (R := _) (len := 3) (W := 0) (plainFor_of_name pn_1) (fun mid => ef_cmp5_2 mid b x_2 c0 c1 ) (c_cmp5_2 hw b x_2 c0 c1 f_10 b_c0 b_c1 A_9 q_4 nbd) (w108 hw) (w104 hw) (by decide) (by decide)) (lenOf pd_1 rfl) (Nat.le_of_ble_eq_true rfl) rfl (Nat.le_of_ble_eq_true rfl) (Nat.le_of_ble_eq_true rfl) (fun _ q => q) (fun v h_11 sf_12 hq => ?_)
  obtain ⟨rfl, K5, D5⟩ := hq
  refine Go.more (sf' := [x_2]) ?_ (Nat.le_refl _) (Nat.le_refl _) (fun _ q => List.mem_append_right _ q)
  show G_cmp3_2 md l Z n0 b c0 c1 h0 1 2 [x_2] h_11 12 #[.val (.ref b), .val (.int (0 : Int32)), .val (.int (2 : Int32)), .val (.ref x_2), .unset, .unset] [(.int (2 : Int32))]
  refine Go.istore 14 #[.val (.ref b), .val (.int (0 : Int32)), .val (.int (2 : Int32)), .val (.ref x_2), .val (.int (2 : Int32)), .unset] d15_12 rfl rfl ?_
  refine Go.iload 16 d15_14 rfl rfl ?_
  refine Go.iloadN 17 d15_16 rfl rfl ?_
  refine Go.icmpY 57 d15_17 (by decide) (by decide) (teq (by decide)).1 ?_
  refine Go.aloadN 58 d15_57 rfl rfl rfl ?_
  have X_13 : Ext h0 h_11 := extK E_5 K5 (allS (Nat.le_of_eq g_3) all0)
  exact Go.retA d15_58 rfl rfl rfl (sf' := []) (⟨_, rfl, X_13, (Nat.le_of_eq g_3), D5, (EX_8.keep K5)⟩) (fun _ q => nomatch q) (Nat.le_of_ble_eq_true rfl) (Nat.le_of_ble_eq_true rfl)
abbrev G_cfl2 (md : Md) (l : Launch) (Z : State) (n0 : Nat) (d : Addr) (vs : List Value) (h0 : Heap) := Go md l Z n0 ({ frames := 0, cells := 0, slots := 0, locals := 0 } : Room) jdk_52_method_15_code 2 (some .byte) "java/lang/StringUTF16" "coderFromArrayLen" (fun v h' _ => h0 = h' ∧ v = some (.int 0))
theorem ef_cfl2 (mid : MethodId) (d : Addr) (vs : List Value)  : entryFrame mid #[(.ref d), (.int (2 : Int32))] 2 = mkF mid 0 #[.val (.ref d), .val (.int (2 : Int32))] [] := by first | (simp [entryFrame, mkF, argsToLocals, Value.category]; done) | rfl
set_option maxRecDepth 65536 in
set_option maxHeartbeats 40000000 in
theorem c_cfl2 {md : Md} {l : Launch} {Z : State} {n0 : Nat} {a0 : Array Value} (hw : HW a0 Z) (d : Addr) (vs : List Value) {h0 : Heap} (A : Ary Z h0 d .byte vs) (hl : vs.length = 2) : G_cfl2 md l Z n0 d vs h0 0 0 [] h0 0 #[.val (.ref d), .val (.int (2 : Int32))] [] := by
  refine Go.iloadN 1 d17_0 rfl rfl ?_
  refine Go.aloadN 2 d17_1 rfl rfl rfl ?_
  refine Go.alen 3 (2 : Int32) d17_2 rfl A (by rw [hl]; rfl) ?_
  refine Go.isub 4 d17_3 rfl ?_
  rw [show ((2 : Int32) - (2 : Int32)) = (0 : Int32) from by decide]
  refine Go.bipush 6 (31 : Int32) d17_4 rfl rfl ?_
  refine Go.iushr 7 d17_6 rfl ?_
  refine Go.i2b 8 d17_7 rfl ?_
  exact Go.retN (0 : Int32) d17_8 rfl (t := .byte) (by simp) (by decide) (sf' := []) (⟨rfl, rfl⟩) (fun _ q => nomatch q) (Nat.le_of_ble_eq_true rfl) (Nat.le_of_ble_eq_true rfl)
abbrev G_new4_2 (md : Md) (l : Launch) (Z : State) (n0 : Nat) (x b : Addr) (z : Int32) (c0 c1 : Int32) (h0 : Heap) := Go md l Z n0 ({ frames := 2, cells := 1, slots := 2, locals := 35 } : Room) jdk_42_method_149_code 6 none "java/lang/String" "<init>" (fun v h' _ => v = none ∧ Keep h0 h' [x] ∧ Hst Z h' x [c0, c1])
theorem ef_new4_2 (mid : MethodId) (x b : Addr) (z : Int32) (c0 c1 : Int32)  : entryFrame mid #[(.ref x), (.ref b), (.int (0 : Int32)), (.int (2 : Int32)), .null] 6 = mkF mid 0 #[.val (.ref x), .val (.ref b), .val (.int (0 : Int32)), .val (.int (2 : Int32)), .val .null, .unset] [] := by first | (simp [entryFrame, mkF, argsToLocals, Value.category]; done) | rfl
set_option maxRecDepth 65536 in
set_option maxHeartbeats 40000000 in
theorem c_new4_2 {md : Md} {l : Launch} {Z : State} {n0 : Nat} {a0 : Array Value} (hw : HW a0 Z) (x b : Addr) (z : Int32) (c0 c1 : Int32) {h0 : Heap} (E : Exa Z h0 x "java/lang/String") (n0x : n0 ≤ x) {v0 u0 : Value} (V : Fld Z h0 x "java/lang/String" "value" "[B" v0) (C : Fld Z h0 x "java/lang/String" "coder" "B" u0) (H : Fld Z h0 x "java/lang/String" "hash" "I" (.int 0)) (HZ : Fld Z h0 x "java/lang/String" "hashIsZero" "Z" (.int 0)) (A : Ary Z h0 b .char [(.int c0), (.int c1)]) (b_c0 : ¬ c0 < 0 ∧ ¬ (255 : Int32) < c0) (b_c1 : ¬ c1 < 0 ∧ ¬ (255 : Int32) < c1) (SC : Sta Z Z.heap "java/lang/String" "COMPACT_STRINGS" "Z" (.int z)) (hz : ¬ z = 0)  : G_new4_2 md l Z n0 x b z c0 c1 h0 0 0 [x] h0 0 #[.val (.ref x), .val (.ref b), .val (.int (0 : Int32)), .val (.int (2 : Int32)), .val .null, .unset] [] := by
  refine Go.aloadN 1 d3_0 rfl rfl rfl ?_
  refine Go.initO (W := 0) 4 d3_1 rfl (w15 hw) (w16 hw) (w17 hw) rfl (by decide) (Nat.le_of_ble_eq_true rfl) (by decide) ?_
  refine Go.iloadN 5 d3_4 rfl rfl ?_
  refine Go.ifY 27 d3_5 (by decide) (by decide) (feq (by decide)).2 ?_
  refine Go.getS 30 d3_27 rfl (w77 hw) Via.refl SC ?_
  refine Go.ifN 33 d3_30 rfl (feq hz).1 ?_
  refine Go.aloadN 34 d3_33 rfl rfl rfl ?_
  refine Go.iloadN 35 d3_34 rfl rfl ?_
  refine Go.iloadN 36 d3_35 rfl rfl ?_
  refine Go.callS (S := []) 39 [(.ref b), (.int (0 : Int32)), (.int (2 : Int32))] d3_36 rfl rfl (w102 hw) (w103 hw) (w104 hw) (w105 hw) (by decide) (call_of_go (R := _) (len := 3) (W := 0) (plainFor_of_name pn_1) (fun mid => ef_cmp3_2 mid b c0 c1 ) (c_cmp3_2 hw b c0 c1 A b_c0 b_c1) (w105 hw) (w104 hw) (by decide) (by decide)) (lenOf pd_2 rfl) (Nat.le_of_ble_eq_true rfl) rfl (Nat.le_of_ble_eq_true rfl) (Nat.le_of_ble_eq_true rfl) (fun _ q => nomatch q) (fun v h_1 sf_2 hq => ?_)
  obtain ⟨y, rfl, X3, le3, A3, E3⟩ := hq
  have nyx : y ≠ x := Nat.ne_of_gt (Nat.lt_of_lt_of_le E.lt le3)
  refine Go.more (sf' := [x]) ?_ (Nat.le_refl _) (Nat.le_refl _) (fun _ q => List.mem_append_right _ q)
  show G_new4_2 md l Z n0 x b z c0 c1 h0 1 2 [x] h_1 39 #[.val (.ref x), .val (.ref b), .val (.int (0 : Int32)), .val (.int (2 : Int32)), .val .null, .unset] [(.ref y)]
  refine Go.astore 41 #[.val (.ref x), .val (.ref b), .val (.int (0 : Int32)), .val (.int (2 : Int32)), .val .null, .val (.ref y)] d3_39 rfl rfl rfl ?_
  refine Go.aloadN 42 d3_41 rfl rfl rfl ?_
  refine Go.aload 44 d3_42 rfl rfl rfl ?_
  refine Go.iloadN 45 d3_44 rfl rfl ?_
  refine Go.callS (S := [(.ref x)]) 48 [(.ref y), (.int (2 : Int32))] d3_45 rfl rfl (w109 hw) (w110 hw) (w104 hw) (w111 hw) (by decide) (call_of_go (R := _) (len := 3) (W := 1) (plainFor_of_name pn_1) (fun mid => ef_cfl2 mid y [(.int c0.toInt8.toInt32), (.int c1.toInt8.toInt32)] ) (c_cfl2 hw y [(.int c0.toInt8.toInt32), (.int c1.toInt8.toInt32)] A3 rfl) (w111 hw) (w104 hw) (by decide) (by decide)) (lenOf pd_3 rfl) (Nat.le_of_ble_eq_true rfl) rfl (Nat.le_of_ble_eq_true rfl) (Nat.le_of_ble_eq_true rfl) (fun _ q => nomatch q) (fun v h_3 sf_4 hq => ?_)
  obtain ⟨rfl, rfl⟩ := hq
  refine Go.more (sf' := [x]) ?_ (Nat.le_refl _) (Nat.le_refl _) (fun _ q => List.mem_append_right _ q)
  show G_new4_2 md l Z n0 x b z c0 c1 h0 1 2 [x] h_1 48 #[.val (.ref x), .val (.ref b), .val (.int (0 : Int32)), .val (.int (2 : Int32)), .val .null, .val (.ref y)] [(.int (0 : Int32)), (.ref x)]
  have f_5 := E.ext X3
  have f_6 := C.ext X3
  refine Go.putF 51 (.int (0 : Int32)) d3_48 rfl (w25 hw) Via.refl f_6 f_5 (Or.inr ⟨(w21 hw), rfl, rfl⟩) (w5 hw) (ty := .byte) (by decide) rfl rfl (List.mem_of_getElem? (i := 0) rfl) n0x (fun h_7 W_8 => ?_)
  refine Go.aloadN 52 d3_51 rfl rfl rfl ?_
  refine Go.aload 54 d3_52 rfl rfl rfl ?_
  have f_9 := (f_5.wr W_8)
  have f_10 := ((V.ext X3).other W_8 (Or.inr (slot_ne (Or.inr (w20 hw)) (Or.inr (w21 hw)) (by decide) (t := (.array .byte)) (t' := .byte) (by decide) (by decide))))
  refine Go.putF 57 (.ref y) d3_54 rfl (w24 hw) Via.refl f_10 f_9 (Or.inr ⟨(w20 hw), rfl, rfl⟩) (w5 hw) (ty := (.array .byte)) (by decide) rfl rfl (List.mem_of_getElem? (i := 0) rfl) n0x (fun h_11 W_12 => ?_)
  have f_13 := (f_9.wr W_12)
  have f_14 := ((f_6.same W_8).other W_12 (Or.inr (slot_ne (Or.inr (w21 hw)) (Or.inr (w20 hw)) (by decide) (t := .byte) (t' := (.array .byte)) (by decide) (by decide))))
  have f_15 := ((A3.other W_8 nyx).other W_12 nyx)
  have f_16 := (((H.ext X3).other W_8 (Or.inr (slot_ne (Or.inl (w69 hw)) (Or.inr (w21 hw)) (by decide) (t := .int) (t' := .byte) (by decide) (by decide)))).other W_12 (Or.inr (slot_ne (Or.inl (w69 hw)) (Or.inr (w20 hw)) (by decide) (t := .int) (t' := (.array .byte)) (by decide) (by decide))))
  have f_17 := (((HZ.ext X3).other W_8 (Or.inr (slot_ne (Or.inl (w71 hw)) (Or.inr (w21 hw)) (by decide) (t := .boolean) (t' := .byte) (by decide) (by decide)))).other W_12 (Or.inr (slot_ne (Or.inl (w71 hw)) (Or.inr (w20 hw)) (by decide) (t := .boolean) (t' := (.array .byte)) (by decide) (by decide))))
  have f_18 := ((E3.wr W_8).wr W_12)
  exact Go.ret0 d3_57 rfl (sf' := []) (⟨rfl, ((((Keep.refl h0 [x]).ext X3).wr W_8 (Or.inl (List.mem_of_getElem? (i := 0) rfl))).wr W_12 (Or.inl (List.mem_of_getElem? (i := 0) rfl))), y, f_13, f_14, (f_10.same W_12), f_15, (lat2 b_c0 b_c1), f_16, f_17, fun q => f_18⟩) (fun _ q => nomatch q) (Nat.le_of_ble_eq_true rfl) (Nat.le_of_ble_eq_true rfl)
abbrev G_new1_2 (md : Md) (l : Launch) (Z : State) (n0 : Nat) (x b : Addr) (z : Int32) (c0 c1 : Int32) (h0 : Heap) := Go md l Z n0 ({ frames := 3, cells := 1, slots := 2, locals := 52 } : Room) jdk_42_method_3_code 2 none "java/lang/String" "<init>" (fun v h' _ => v = none ∧ Keep h0 h' [x] ∧ Hst Z h' x [c0, c1])
theorem ef_new1_2 (mid : MethodId) (x b : Addr) (z : Int32) (c0 c1 : Int32)  : entryFrame mid #[(.ref x), (.ref b)] 2 = mkF mid 0 #[.val (.ref x), .val (.ref b)] [] := by first | (simp [entryFrame, mkF, argsToLocals, Value.category]; done) | rfl
set_option maxRecDepth 65536 in
set_option maxHeartbeats 40000000 in
theorem c_new1_2 {md : Md} {l : Launch} {Z : State} {n0 : Nat} {a0 : Array Value} (hw : HW a0 Z) (x b : Addr) (z : Int32) (c0 c1 : Int32) {h0 : Heap} (E : Exa Z h0 x "java/lang/String") (n0x : n0 ≤ x) {v0 u0 : Value} (V : Fld Z h0 x "java/lang/String" "value" "[B" v0) (C : Fld Z h0 x "java/lang/String" "coder" "B" u0) (H : Fld Z h0 x "java/lang/String" "hash" "I" (.int 0)) (HZ : Fld Z h0 x "java/lang/String" "hashIsZero" "Z" (.int 0)) (A : Ary Z h0 b .char [(.int c0), (.int c1)]) (b_c0 : ¬ c0 < 0 ∧ ¬ (255 : Int32) < c0) (b_c1 : ¬ c1 < 0 ∧ ¬ (255 : Int32) < c1) (SC : Sta Z Z.heap "java/lang/String" "COMPACT_STRINGS" "Z" (.int z)) (hz : ¬ z = 0)  : G_new1_2 md l Z n0 x b z c0 c1 h0 0 0 [x] h0 0 #[.val (.ref x), .val (.ref b)] [] := by
  refine Go.aloadN 1 d2_0 rfl rfl rfl ?_
  refine Go.aloadN 2 d2_1 rfl rfl rfl ?_
  refine Go.iconst 3 (0 : Int32) d2_2 rfl rfl ?_
  refine Go.aloadN 4 d2_3 rfl rfl rfl ?_
  refine Go.alen 5 (2 : Int32) d2_4 rfl A rfl ?_
  refine Go.aconstNull 6 d2_5 rfl ?_
  refine Go.callC (S := []) (a := x) 9 [(.ref b), (.int (0 : Int32)), (.int (2 : Int32)), .null] d2_6 rfl rfl rfl (w11 hw) (w12 hw) (w14 hw) (by decide) (call_of_go (R := _) (len := 3) (W := 0) (plainFor_of_name pn_0) (fun mid => ef_new4_2 mid x b z c0 c1 ) (c_new4_2 hw x b z c0 c1 E n0x V C H HZ A b_c0 b_c1 SC hz) (w14 hw) (w6 hw) (by decide) (by decide)) (lenOf pd_0 rfl) (Nat.le_of_ble_eq_true rfl) rfl (Nat.le_of_ble_eq_true rfl) (Nat.le_of_ble_eq_true rfl) (fun _ q => q) (fun v h_1 sf_2 hq => ?_)
  obtain ⟨rfl, K2, S2⟩ := hq
  refine Go.more (sf' := [x]) ?_ (Nat.le_refl _) (Nat.le_refl _) (fun _ q => List.mem_append_right _ q)
  show G_new1_2 md l Z n0 x b z c0 c1 h0 1 2 [x] h_1 9 #[.val (.ref x), .val (.ref b)] []
  exact Go.ret0 d2_9 rfl (sf' := []) (⟨rfl, K2, S2⟩) (fun _ q => nomatch q) (Nat.le_of_ble_eq_true rfl) (Nat.le_of_ble_eq_true rfl)
abbrev G_str (md : Md) (l : Launch) (Z : State) (n0 : Nat) (n c0 c1 z : Int32) (h0 : Heap) := Go md l Z n0 ({ frames := 4, cells := 6, slots := 12, locals := 66 } : Room) method_3_code 4 (some (.object "java/lang/String")) "com/example/avain/avain/model/AtomEqualsPinLaw" "str" (fun v h' sf' => ∃ x, v = some (.ref x) ∧ Ext h0 h' ∧ h0.size ≤ x ∧ Hst Z h' x (strf n c0 c1) ∧ sf' = [x] ∧ n0 ≤ x)
theorem ef_str (mid : MethodId) (n c0 c1 z : Int32)  : entryFrame mid #[(.int n), (.int c0), (.int c1)] 4 = mkF mid 0 #[.val (.int n), .val (.int c0), .val (.int c1), .unset] [] := by first | (simp [entryFrame, mkF, argsToLocals, Value.category]; done) | rfl
set_option maxRecDepth 65536 in
set_option maxHeartbeats 40000000 in
theorem c_str {l : Launch} {Z : State} {n0 : Nat} {a0 : Array Value} (hw : HW a0 Z) (n c0 c1 z : Int32) {h0 : Heap} (b_c0 : ¬ c0 < 0 ∧ ¬ (255 : Int32) < c0) (b_c1 : ¬ c1 < 0 ∧ ¬ (255 : Int32) < c1) (SC : Sta Z Z.heap "java/lang/String" "COMPACT_STRINGS" "Z" (.int z)) (hz : ¬ z = 0)  : G_str (some consts_1) l Z n0 n c0 c1 z h0 0 0 [] h0 0 #[.val (.int n), .val (.int c0), .val (.int c1), .unset] [] := by
  refine Go.iloadN 1 d1_0 rfl rfl ?_
  by_cases hc1 : n = (0 : Int32)
  · skip
    refine Go.ifN 4 d1_1 rfl (teq hc1).2 ?_
    refine Go.new 7 d1_4 rfl (w4 hw) (w5 hw) (w6 hw) (Nat.le_of_ble_eq_true rfl) (Nat.le_of_ble_eq_true rfl) (fun h_1 x_2 g_3 q_4 E_5 lt_6 A_7 D_8 => ?_)
    show G_str (some consts_1) l Z n0 n c0 c1 z h0 1 4 [x_2] h_1 7 #[.val (.int n), .val (.int c0), .val (.int c1), .unset] [(.ref x_2)]
    refine Go.dup 8 d1_7 rfl rfl ?_
    refine Go.iconst 9 (0 : Int32) d1_8 rfl rfl ?_
    refine Go.newA 0 11 d1_9 rfl rfl (w7 hw) (by decide) 0 (Nat.le_refl _) (by decide) (Nat.le_of_ble_eq_true rfl) (Nat.le_of_ble_eq_true rfl) (fun h_9 x_10 g_11 q_12 E_13 lt_14 A_15 => ?_)
    have A_16 : Ary Z h_9 x_10 .char [] := A_15
    show G_str (some consts_1) l Z n0 n c0 c1 z h0 2 4 [x_10, x_2] h_9 11 #[.val (.int n), .val (.int c0), .val (.int c1), .unset] [(.ref x_10), (.ref x_2), (.ref x_2)]
    have f_19 := A_7.ext E_13
    have f_20 := (D_8 (Or.inr (w20 hw)) (ty := (.array .byte)) (by decide)).ext E_13
    have f_21 := (D_8 (Or.inr (w21 hw)) (ty := .byte) (by decide)).ext E_13
    have f_22 := (D_8 (Or.inl (w69 hw)) (ty := .int) (by decide)).ext E_13
    have f_23 := (D_8 (Or.inl (w71 hw)) (ty := .boolean) (by decide)).ext E_13
    refine Go.callC (S := [(.ref x_2)]) (a := x_2) 14 [(.ref x_10)] d1_11 rfl rfl rfl (w8 hw) (w9 hw) (w10 hw) (by decide) (call_of_go (R := _) (len := 3) (W := 1) (plainFor_of_name pn_0) (fun mid => ef_new1_0 mid x_2 x_10 z ) (c_new1_0 hw x_2 x_10 z f_19 q_4 f_20 f_21 f_22 f_23 A_16 SC hz) (w10 hw) (w6 hw) (by decide) (by decide)) (lenOf pd_4 rfl) (Nat.le_of_ble_eq_true rfl) rfl (Nat.le_of_ble_eq_true rfl) (Nat.le_of_ble_eq_true rfl) (sub1 (List.mem_of_getElem? (i := 1) rfl)) (fun v h_24 sf_25 hq => ?_)
    obtain ⟨rfl, K_17, S_18⟩ := hq
    refine Go.more (sf' := [x_10, x_2]) ?_ (Nat.le_refl _) (Nat.le_refl _) (fun _ q => List.mem_append_right _ q)
    show G_str (some consts_1) l Z n0 n c0 c1 z h0 6 12 [x_10, x_2] h_24 14 #[.val (.int n), .val (.int c0), .val (.int c1), .unset] [(.ref x_2)]
    have X_26 : Ext h0 h_9 := extT E_5 E_13
    have X_27 : Ext h0 h_24 := extK X_26 K_17 (allS (Nat.le_of_eq g_3) all0)
    exact Go.retA d1_14 rfl rfl rfl (sf' := [x_2]) (⟨_, rfl, X_27, (Nat.le_of_eq g_3), by rw [strf, if_pos hc1]; exact S_18, rfl, q_4⟩) (sub1 (List.mem_of_getElem? (i := 1) rfl)) (Nat.le_of_ble_eq_true rfl) (Nat.le_of_ble_eq_true rfl)
  · skip
    refine Go.ifY 15 d1_1 (by decide) (by decide) (feq hc1).2 ?_
    refine Go.iloadN 16 d1_15 rfl rfl ?_
    refine Go.iconst 17 (1 : Int32) d1_16 rfl rfl ?_
    by_cases hc17 : n = (1 : Int32)
    · skip
      refine Go.icmpN 20 d1_17 rfl (teq hc17).2 ?_
      refine Go.iconst 21 (1 : Int32) d1_20 rfl rfl ?_
      refine Go.newA 1 23 d1_21 rfl rfl (w7 hw) (by decide) 1 (Nat.le_refl _) (by decide) (Nat.le_of_ble_eq_true rfl) (Nat.le_of_ble_eq_true rfl) (fun h_28 x_29 g_30 q_31 E_32 lt_33 A_34 => ?_)
      have A_35 : Ary Z h_28 x_29 .char [(.int (0 : Int32))] := A_34
      show G_str (some consts_1) l Z n0 n c0 c1 z h0 1 1 [x_29] h_28 23 #[.val (.int n), .val (.int c0), .val (.int c1), .unset] [(.ref x_29)]
      refine Go.astoreN 24 #[.val (.int n), .val (.int c0), .val (.int c1), .val (.ref x_29)] d1_23 rfl rfl rfl ?_
      refine Go.aloadN 25 d1_24 rfl rfl rfl ?_
      refine Go.iconst 26 (0 : Int32) d1_25 rfl rfl ?_
      refine Go.iloadN 27 d1_26 rfl rfl ?_
      refine Go.castore 0 28 d1_27 rfl A_35 (by decide) (Nat.le_of_ble_eq_true rfl) (List.mem_of_getElem? (i := 0) rfl) q_31 (fun h_36 W_37 A_38 => ?_)
      have A_39 : Ary Z h_36 x_29 .char [(.int c0)] := by have := A_38; rw [nar_c b_c0] at this; exact this
      refine Go.new 31 d1_28 rfl (w4 hw) (w5 hw) (w6 hw) (Nat.le_of_ble_eq_true rfl) (Nat.le_of_ble_eq_true rfl) (fun h_40 x_41 g_42 q_43 E_44 lt_45 A_46 D_47 => ?_)
      show G_str (some consts_1) l Z n0 n c0 c1 z h0 2 5 [x_41, x_29] h_40 31 #[.val (.int n), .val (.int c0), .val (.int c1), .val (.ref x_29)] [(.ref x_41)]
      refine Go.dup 32 d1_31 rfl rfl ?_
      refine Go.aloadN 33 d1_32 rfl rfl rfl ?_
      have f_48 := A_39.ext E_44
      refine Go.callC (S := [(.ref x_41)]) (a := x_41) 36 [(.ref x_29)] d1_33 rfl rfl rfl (w8 hw) (w9 hw) (w10 hw) (by decide) (call_of_go (R := _) (len := 3) (W := 1) (plainFor_of_name pn_0) (fun mid => ef_new1_1 mid x_41 x_29 z c0 ) (c_new1_1 hw x_41 x_29 z c0 A_46 q_43 (D_47 (Or.inr (w20 hw)) (ty := (.array .byte)) (by decide)) (D_47 (Or.inr (w21 hw)) (ty := .byte) (by decide)) (D_47 (Or.inl (w69 hw)) (ty := .int) (by decide)) (D_47 (Or.inl (w71 hw)) (ty := .boolean) (by decide)) f_48 b_c0 SC hz) (w10 hw) (w6 hw) (by decide) (by decide)) (lenOf pd_4 rfl) (Nat.le_of_ble_eq_true rfl) rfl (Nat.le_of_ble_eq_true rfl) (Nat.le_of_ble_eq_true rfl) (sub1 (List.mem_of_getElem? (i := 0) rfl)) (fun v h_51 sf_52 hq => ?_)
      obtain ⟨rfl, K_49, S_50⟩ := hq
      refine Go.more (sf' := [x_41, x_29]) ?_ (Nat.le_refl _) (Nat.le_refl _) (fun _ q => List.mem_append_right _ q)
      show G_str (some consts_1) l Z n0 n c0 c1 z h0 3 6 [x_41, x_29] h_51 36 #[.val (.int n), .val (.int c0), .val (.int c1), .val (.ref x_29)] [(.ref x_41)]
      have X_53 : Ext h0 h_36 := extW E_32 W_37 (Nat.le_of_eq g_30)
      have X_54 : Ext h0 h_40 := extT X_53 E_44
      have X_55 : Ext h0 h_51 := extK X_54 K_49 (allS (Nat.le_trans X_53.1 (Nat.le_of_eq g_42)) all0)
      exact Go.retA d1_36 rfl rfl rfl (sf' := [x_41]) (⟨_, rfl, X_55, (Nat.le_trans X_53.1 (Nat.le_of_eq g_42)), by rw [strf, if_neg hc1, if_pos hc17]; exact S_50, rfl, q_43⟩) (sub1 (List.mem_of_getElem? (i := 0) rfl)) (Nat.le_of_ble_eq_true rfl) (Nat.le_of_ble_eq_true rfl)
    · skip
      refine Go.icmpY 37 d1_17 (by decide) (by decide) (feq hc17).2 ?_
      refine Go.iconst 38 (2 : Int32) d1_37 rfl rfl ?_
      refine Go.newA 2 40 d1_38 rfl rfl (w7 hw) (by decide) 2 (Nat.le_refl _) (by decide) (Nat.le_of_ble_eq_true rfl) (Nat.le_of_ble_eq_true rfl) (fun h_56 x_57 g_58 q_59 E_60 lt_61 A_62 => ?_)
      have A_63 : Ary Z h_56 x_57 .char [(.int (0 : Int32)), (.int (0 : Int32))] := A_62
      show G_str (some consts_1) l Z n0 n c0 c1 z h0 1 2 [x_57] h_56 40 #[.val (.int n), .val (.int c0), .val (.int c1), .unset] [(.ref x_57)]
      refine Go.astoreN 41 #[.val (.int n), .val (.int c0), .val (.int c1), .val (.ref x_57)] d1_40 rfl rfl rfl ?_
      refine Go.aloadN 42 d1_41 rfl rfl rfl ?_
      refine Go.iconst 43 (0 : Int32) d1_42 rfl rfl ?_
      refine Go.iloadN 44 d1_43 rfl rfl ?_
      refine Go.castore 0 45 d1_44 rfl A_63 (by decide) (Nat.le_of_ble_eq_true rfl) (List.mem_of_getElem? (i := 0) rfl) q_59 (fun h_64 W_65 A_66 => ?_)
      have A_67 : Ary Z h_64 x_57 .char [(.int c0), (.int (0 : Int32))] := by have := A_66; rw [nar_c b_c0] at this; exact this
      refine Go.aloadN 46 d1_45 rfl rfl rfl ?_
      refine Go.iconst 47 (1 : Int32) d1_46 rfl rfl ?_
      refine Go.iloadN 48 d1_47 rfl rfl ?_
      refine Go.castore 1 49 d1_48 rfl A_67 (by decide) (Nat.le_of_ble_eq_true rfl) (List.mem_of_getElem? (i := 0) rfl) q_59 (fun h_68 W_69 A_70 => ?_)
      have A_71 : Ary Z h_68 x_57 .char [(.int c0), (.int c1)] := by have := A_70; rw [nar_c b_c1] at this; exact this
      refine Go.new 52 d1_49 rfl (w4 hw) (w5 hw) (w6 hw) (Nat.le_of_ble_eq_true rfl) (Nat.le_of_ble_eq_true rfl) (fun h_72 x_73 g_74 q_75 E_76 lt_77 A_78 D_79 => ?_)
      show G_str (some consts_1) l Z n0 n c0 c1 z h0 2 6 [x_73, x_57] h_72 52 #[.val (.int n), .val (.int c0), .val (.int c1), .val (.ref x_57)] [(.ref x_73)]
      refine Go.dup 53 d1_52 rfl rfl ?_
      refine Go.aloadN 54 d1_53 rfl rfl rfl ?_
      have f_80 := A_71.ext E_76
      refine Go.callC (S := [(.ref x_73)]) (a := x_73) 57 [(.ref x_57)] d1_54 rfl rfl rfl (w8 hw) (w9 hw) (w10 hw) (by decide) (call_of_go (R := _) (len := 3) (W := 1) (plainFor_of_name pn_0) (fun mid => ef_new1_2 mid x_73 x_57 z c0 c1 ) (c_new1_2 hw x_73 x_57 z c0 c1 A_78 q_75 (D_79 (Or.inr (w20 hw)) (ty := (.array .byte)) (by decide)) (D_79 (Or.inr (w21 hw)) (ty := .byte) (by decide)) (D_79 (Or.inl (w69 hw)) (ty := .int) (by decide)) (D_79 (Or.inl (w71 hw)) (ty := .boolean) (by decide)) f_80 b_c0 b_c1 SC hz) (w10 hw) (w6 hw) (by decide) (by decide)) (lenOf pd_4 rfl) (Nat.le_of_ble_eq_true rfl) rfl (Nat.le_of_ble_eq_true rfl) (Nat.le_of_ble_eq_true rfl) (sub1 (List.mem_of_getElem? (i := 0) rfl)) (fun v h_83 sf_84 hq => ?_)
      obtain ⟨rfl, K_81, S_82⟩ := hq
      refine Go.more (sf' := [x_73, x_57]) ?_ (Nat.le_refl _) (Nat.le_refl _) (fun _ q => List.mem_append_right _ q)
      show G_str (some consts_1) l Z n0 n c0 c1 z h0 3 8 [x_73, x_57] h_83 57 #[.val (.int n), .val (.int c0), .val (.int c1), .val (.ref x_57)] [(.ref x_73)]
      have X_85 : Ext h0 h_64 := extW E_60 W_65 (Nat.le_of_eq g_58)
      have X_86 : Ext h0 h_68 := extW X_85 W_69 (Nat.le_of_eq g_58)
      have X_87 : Ext h0 h_72 := extT X_86 E_76
      have X_88 : Ext h0 h_83 := extK X_87 K_81 (allS (Nat.le_trans X_86.1 (Nat.le_of_eq g_74)) all0)
      exact Go.retA d1_57 rfl rfl rfl (sf' := [x_73]) (⟨_, rfl, X_88, (Nat.le_trans X_86.1 (Nat.le_of_eq g_74)), by rw [strf, if_neg hc1, if_neg hc17]; exact S_82, rfl, q_75⟩) (sub1 (List.mem_of_getElem? (i := 0) rfl)) (Nat.le_of_ble_eq_true rfl) (Nat.le_of_ble_eq_true rfl)
abbrev G_isl (md : Md) (l : Launch) (Z : State) (n0 : Nat) (x : Addr) (z : Int32) (h0 : Heap) := Go md l Z n0 ({ frames := 0, cells := 0, slots := 0, locals := 0 } : Room) jdk_42_method_154_code 1 (some .boolean) "java/lang/String" "isLatin1" (fun v h' _ => h0 = h' ∧ v = some (.int 1))
theorem ef_isl (mid : MethodId) (x : Addr) (z : Int32)  : entryFrame mid #[(.ref x)] 1 = mkF mid 0 #[.val (.ref x)] [] := by first | (simp [entryFrame, mkF, argsToLocals, Value.category]; done) | rfl
set_option maxRecDepth 65536 in
set_option maxHeartbeats 40000000 in
theorem c_isl {md : Md} {l : Launch} {Z : State} {n0 : Nat} {a0 : Array Value} (hw : HW a0 Z) (x : Addr) (z : Int32) {h0 : Heap} (C : Fld Z h0 x "java/lang/String" "coder" "B" (.int 0)) (SC : Sta Z Z.heap "java/lang/String" "COMPACT_STRINGS" "Z" (.int z)) (hz : ¬ z = 0)  : G_isl md l Z n0 x z h0 0 0 [] h0 0 #[.val (.ref x)] [] := by
  refine Go.getS 3 d10_0 rfl (w77 hw) Via.refl SC ?_
  refine Go.ifN 6 d10_3 rfl (feq hz).1 ?_
  refine Go.aloadN 7 d10_6 rfl rfl rfl ?_
  refine Go.getF 10 d10_7 rfl (w25 hw) Via.refl C ?_
  refine Go.ifN 13 d10_10 rfl (teq (by decide)).2 ?_
  refine Go.iconst 14 (1 : Int32) d10_13 rfl rfl ?_
  refine Go.goto 18 d10_14 (by decide) (by decide) ?_
  exact Go.retN (1 : Int32) d10_18 rfl (t := .boolean) (by simp) rfl (sf' := []) (⟨rfl, rfl⟩) (fun _ q => nomatch q) (Nat.le_of_ble_eq_true rfl) (Nat.le_of_ble_eq_true rfl)
abbrev G_shc (md : Md) (l : Launch) (Z : State) (n0 : Nat) (b : Addr) (y0 y1 : Int32) (h0 : Heap) := Go md l Z n0 ({ frames := 0, cells := 0, slots := 0, locals := 0 } : Room) jdk_48_method_5_code 6 (some .int) "jdk/internal/util/ArraysSupport" "signedHashCode" (fun v h' _ => h0 = h' ∧ ∃ r : Int32, v = some (.int r))
theorem ef_shc (mid : MethodId) (b : Addr) (y0 y1 : Int32)  : entryFrame mid #[(.int (0 : Int32)), (.ref b), (.int (0 : Int32)), (.int (2 : Int32))] 6 = mkF mid 0 #[.val (.int (0 : Int32)), .val (.ref b), .val (.int (0 : Int32)), .val (.int (2 : Int32)), .unset, .unset] [] := by first | (simp [entryFrame, mkF, argsToLocals, Value.category]; done) | rfl
set_option maxRecDepth 65536 in
set_option maxHeartbeats 40000000 in
theorem c_shc {md : Md} {l : Launch} {Z : State} {n0 : Nat} {a0 : Array Value} (hw : HW a0 Z) (b : Addr) (y0 y1 : Int32) {h0 : Heap} (A : Ary Z h0 b .byte [(.int y0), (.int y1)]) : G_shc md l Z n0 b y0 y1 h0 0 0 [] h0 0 #[.val (.int (0 : Int32)), .val (.ref b), .val (.int (0 : Int32)), .val (.int (2 : Int32)), .unset, .unset] [] := by
  refine Go.iloadN 1 d19_0 rfl rfl ?_
  refine Go.iloadN 2 d19_1 rfl rfl ?_
  refine Go.iadd 3 d19_2 rfl ?_
  rw [show ((0 : Int32) + (2 : Int32)) = (2 : Int32) from by decide]
  refine Go.istore 5 #[.val (.int (0 : Int32)), .val (.ref b), .val (.int (0 : Int32)), .val (.int (2 : Int32)), .val (.int (2 : Int32)), .unset] d19_3 rfl rfl ?_
  refine Go.iloadN 6 d19_5 rfl rfl ?_
  refine Go.istore 8 #[.val (.int (0 : Int32)), .val (.ref b), .val (.int (0 : Int32)), .val (.int (2 : Int32)), .val (.int (2 : Int32)), .val (.int (0 : Int32))] d19_6 rfl rfl ?_
  refine Go.iload 10 d19_8 rfl rfl ?_
  refine Go.iload 12 d19_10 rfl rfl ?_
  refine Go.icmpN 15 d19_12 rfl (tlt (by decide)).2.1 ?_
  refine Go.bipush 17 (31 : Int32) d19_15 rfl rfl ?_
  refine Go.iloadN 18 d19_17 rfl rfl ?_
  refine Go.imul 19 d19_18 rfl ?_
  rw [show ((31 : Int32) * (0 : Int32)) = (0 : Int32) from by decide]
  refine Go.aloadN 20 d19_19 rfl rfl rfl ?_
  refine Go.iload 22 d19_20 rfl rfl ?_
  refine Go.baload 0 23 d19_22 rfl A (by decide) rfl ?_
  refine Go.sipush 26 (255 : Int32) d19_23 rfl rfl ?_
  refine Go.iand 27 d19_26 rfl ?_
  refine Go.iadd 28 d19_27 rfl ?_
  refine Go.istoreN 29 #[.val (.int ((0 : Int32) + (y0 &&& (255 : Int32)))), .val (.ref b), .val (.int (0 : Int32)), .val (.int (2 : Int32)), .val (.int (2 : Int32)), .val (.int (0 : Int32))] d19_28 rfl rfl ?_
  refine Go.iinc 32 #[.val (.int ((0 : Int32) + (y0 &&& (255 : Int32)))), .val (.ref b), .val (.int (0 : Int32)), .val (.int (2 : Int32)), .val (.int (2 : Int32)), .val (.int ((0 : Int32) + (1 : Int32)))] (1 : Int32) d19_29 rfl rfl rfl rfl ?_
  rw [show ((0 : Int32) + (1 : Int32)) = (1 : Int32) from by decide]
  refine Go.goto 8 d19_32 (by decide) (by decide) ?_
  refine Go.iload 10 d19_8 rfl rfl ?_
  refine Go.iload 12 d19_10 rfl rfl ?_
  refine Go.icmpN 15 d19_12 rfl (tlt (by decide)).2.1 ?_
  refine Go.bipush 17 (31 : Int32) d19_15 rfl rfl ?_
  refine Go.iloadN 18 d19_17 rfl rfl ?_
  refine Go.imul 19 d19_18 rfl ?_
  refine Go.aloadN 20 d19_19 rfl rfl rfl ?_
  refine Go.iload 22 d19_20 rfl rfl ?_
  refine Go.baload 1 23 d19_22 rfl A (by decide) rfl ?_
  refine Go.sipush 26 (255 : Int32) d19_23 rfl rfl ?_
  refine Go.iand 27 d19_26 rfl ?_
  refine Go.iadd 28 d19_27 rfl ?_
  refine Go.istoreN 29 #[.val (.int (((31 : Int32) * ((0 : Int32) + (y0 &&& (255 : Int32)))) + (y1 &&& (255 : Int32)))), .val (.ref b), .val (.int (0 : Int32)), .val (.int (2 : Int32)), .val (.int (2 : Int32)), .val (.int (1 : Int32))] d19_28 rfl rfl ?_
  refine Go.iinc 32 #[.val (.int (((31 : Int32) * ((0 : Int32) + (y0 &&& (255 : Int32)))) + (y1 &&& (255 : Int32)))), .val (.ref b), .val (.int (0 : Int32)), .val (.int (2 : Int32)), .val (.int (2 : Int32)), .val (.int ((1 : Int32) + (1 : Int32)))] (1 : Int32) d19_29 rfl rfl rfl rfl ?_
  rw [show ((1 : Int32) + (1 : Int32)) = (2 : Int32) from by decide]
  refine Go.goto 8 d19_32 (by decide) (by decide) ?_
  refine Go.iload 10 d19_8 rfl rfl ?_
  refine Go.iload 12 d19_10 rfl rfl ?_
  refine Go.icmpY 35 d19_12 (by decide) (by decide) (flt (by decide)).2.1 ?_
  refine Go.iloadN 36 d19_35 rfl rfl ?_
  exact Go.retI d19_36 rfl (sf' := []) (⟨rfl, _, rfl⟩) (fun _ q => nomatch q) (Nat.le_of_ble_eq_true rfl) (Nat.le_of_ble_eq_true rfl)
abbrev G_vhc (md : Md) (l : Launch) (Z : State) (n0 : Nat) (b : Addr) (y0 y1 : Int32) (h0 : Heap) := Go md l Z n0 ({ frames := 1, cells := 0, slots := 0, locals := 17 } : Room) jdk_48_method_4_code 5 (some .int) "jdk/internal/util/ArraysSupport" "vectorizedHashCode" (fun v h' _ => h0 = h' ∧ ∃ r : Int32, v = some (.int r))
theorem ef_vhc (mid : MethodId) (b : Addr) (y0 y1 : Int32)  : entryFrame mid #[(.ref b), (.int (0 : Int32)), (.int (2 : Int32)), (.int (0 : Int32)), (.int (4 : Int32))] 5 = mkF mid 0 #[.val (.ref b), .val (.int (0 : Int32)), .val (.int (2 : Int32)), .val (.int (0 : Int32)), .val (.int (4 : Int32))] [] := by first | (simp [entryFrame, mkF, argsToLocals, Value.category]; done) | rfl
set_option maxRecDepth 65536 in
set_option maxHeartbeats 40000000 in
theorem c_vhc {md : Md} {l : Launch} {Z : State} {n0 : Nat} {a0 : Array Value} (hw : HW a0 Z) (b : Addr) (y0 y1 : Int32) {h0 : Heap} (A : Ary Z h0 b .byte [(.int y0), (.int y1)]) (XB : Exa Z h0 b "[B") : G_vhc md l Z n0 b y0 y1 h0 0 0 [] h0 0 #[.val (.ref b), .val (.int (0 : Int32)), .val (.int (2 : Int32)), .val (.int (0 : Int32)), .val (.int (4 : Int32))] [] := by
  refine Go.iload 2 d18_0 rfl rfl ?_
  refine Go.tswY (off := 42) 44 d18_2 (by decide) (by decide) (by decide) (by decide) ?_
  refine Go.iloadN 45 d18_44 rfl rfl ?_
  refine Go.aloadN 46 d18_45 rfl rfl rfl ?_
  refine Go.castY 49 d18_46 rfl (w116 hw) (Ins.self XB) ?_
  refine Go.iloadN 50 d18_49 rfl rfl ?_
  refine Go.iloadN 51 d18_50 rfl rfl ?_
  refine Go.callS (S := []) 54 [(.int (0 : Int32)), (.ref b), (.int (0 : Int32)), (.int (2 : Int32))] d18_51 rfl rfl (w118 hw) (w119 hw) (w114 hw) (w120 hw) (by decide) (call_of_go (R := _) (len := 3) (W := 0) pf_0 (fun mid => ef_shc mid b y0 y1 ) (c_shc hw b y0 y1 A) (w120 hw) (w114 hw) (by decide) (by decide)) (lenOf pd_5 rfl) (Nat.le_of_ble_eq_true rfl) rfl (Nat.le_of_ble_eq_true rfl) (Nat.le_of_ble_eq_true rfl) (fun _ q => nomatch q) (fun v h_2 sf_3 hq => ?_)
  obtain ⟨rfl, r_1, rfl⟩ := hq
  refine Go.more (sf' := []) ?_ (Nat.le_refl _) (Nat.le_refl _) (fun _ q => List.mem_append_right _ q)
  show G_vhc md l Z n0 b y0 y1 h0 0 0 [] h0 54 #[.val (.ref b), .val (.int (0 : Int32)), .val (.int (2 : Int32)), .val (.int (0 : Int32)), .val (.int (4 : Int32))] [(.int r_1)]
  refine Go.goto 157 d18_54 (by decide) (by decide) ?_
  exact Go.retI d18_157 rfl (sf' := []) (⟨rfl, _, rfl⟩) (fun _ q => nomatch q) (Nat.le_of_ble_eq_true rfl) (Nat.le_of_ble_eq_true rfl)
abbrev G_l1h0 (md : Md) (l : Launch) (Z : State) (n0 : Nat) (b : Addr) (h0 : Heap) := Go md l Z n0 ({ frames := 0, cells := 0, slots := 0, locals := 0 } : Room) jdk_43_method_21_code 1 (some .int) "java/lang/StringLatin1" "hashCode" (fun v h' _ => h0 = h' ∧ ∃ r : Int32, v = some (.int r))
theorem ef_l1h0 (mid : MethodId) (b : Addr)  : entryFrame mid #[(.ref b)] 1 = mkF mid 0 #[.val (.ref b)] [] := by first | (simp [entryFrame, mkF, argsToLocals, Value.category]; done) | rfl
set_option maxRecDepth 65536 in
set_option maxHeartbeats 40000000 in
theorem c_l1h0 {md : Md} {l : Launch} {Z : State} {n0 : Nat} {a0 : Array Value} (hw : HW a0 Z) (b : Addr) {h0 : Heap} (A : Ary Z h0 b .byte []) : G_l1h0 md l Z n0 b h0 0 0 [] h0 0 #[.val (.ref b)] [] := by
  refine Go.aloadN 1 d11_0 rfl rfl rfl ?_
  refine Go.alen 2 (0 : Int32) d11_1 rfl A rfl ?_
  refine Go.lswY (b := 0) (off := 26) 28 d11_2 (by decide) (by decide) (by decide) (by decide) ?_
  refine Go.iconst 29 (0 : Int32) d11_28 rfl rfl ?_
  refine Go.goto 51 d11_29 (by decide) (by decide) ?_
  exact Go.retI d11_51 rfl (sf' := []) (⟨rfl, _, rfl⟩) (fun _ q => nomatch q) (Nat.le_of_ble_eq_true rfl) (Nat.le_of_ble_eq_true rfl)
abbrev G_l1h1 (md : Md) (l : Launch) (Z : State) (n0 : Nat) (b : Addr) (y0 : Int32) (h0 : Heap) := Go md l Z n0 ({ frames := 0, cells := 0, slots := 0, locals := 0 } : Room) jdk_43_method_21_code 1 (some .int) "java/lang/StringLatin1" "hashCode" (fun v h' _ => h0 = h' ∧ ∃ r : Int32, v = some (.int r))
theorem ef_l1h1 (mid : MethodId) (b : Addr) (y0 : Int32)  : entryFrame mid #[(.ref b)] 1 = mkF mid 0 #[.val (.ref b)] [] := by first | (simp [entryFrame, mkF, argsToLocals, Value.category]; done) | rfl
set_option maxRecDepth 65536 in
set_option maxHeartbeats 40000000 in
theorem c_l1h1 {md : Md} {l : Launch} {Z : State} {n0 : Nat} {a0 : Array Value} (hw : HW a0 Z) (b : Addr) (y0 : Int32) {h0 : Heap} (A : Ary Z h0 b .byte [(.int y0)]) : G_l1h1 md l Z n0 b y0 h0 0 0 [] h0 0 #[.val (.ref b)] [] := by
  refine Go.aloadN 1 d11_0 rfl rfl rfl ?_
  refine Go.alen 2 (1 : Int32) d11_1 rfl A rfl ?_
  refine Go.lswY (b := 1) (off := 30) 32 d11_2 (by decide) (by decide) (by decide) (by decide) ?_
  refine Go.aloadN 33 d11_32 rfl rfl rfl ?_
  refine Go.iconst 34 (0 : Int32) d11_33 rfl rfl ?_
  refine Go.baload 0 35 d11_34 rfl A (by decide) rfl ?_
  refine Go.sipush 38 (255 : Int32) d11_35 rfl rfl ?_
  refine Go.iand 39 d11_38 rfl ?_
  refine Go.goto 51 d11_39 (by decide) (by decide) ?_
  exact Go.retI d11_51 rfl (sf' := []) (⟨rfl, _, rfl⟩) (fun _ q => nomatch q) (Nat.le_of_ble_eq_true rfl) (Nat.le_of_ble_eq_true rfl)
abbrev G_l1h2 (md : Md) (l : Launch) (Z : State) (n0 : Nat) (b : Addr) (y0 y1 : Int32) (h0 : Heap) := Go md l Z n0 ({ frames := 2, cells := 0, slots := 0, locals := 33 } : Room) jdk_43_method_21_code 1 (some .int) "java/lang/StringLatin1" "hashCode" (fun v h' _ => h0 = h' ∧ ∃ r : Int32, v = some (.int r))
theorem ef_l1h2 (mid : MethodId) (b : Addr) (y0 y1 : Int32)  : entryFrame mid #[(.ref b)] 1 = mkF mid 0 #[.val (.ref b)] [] := by first | (simp [entryFrame, mkF, argsToLocals, Value.category]; done) | rfl
set_option maxRecDepth 65536 in
set_option maxHeartbeats 40000000 in
theorem c_l1h2 {md : Md} {l : Launch} {Z : State} {n0 : Nat} {a0 : Array Value} (hw : HW a0 Z) (b : Addr) (y0 y1 : Int32) {h0 : Heap} (A : Ary Z h0 b .byte [(.int y0), (.int y1)]) (XB : Exa Z h0 b "[B") : G_l1h2 md l Z n0 b y0 y1 h0 0 0 [] h0 0 #[.val (.ref b)] [] := by
  refine Go.aloadN 1 d11_0 rfl rfl rfl ?_
  refine Go.alen 2 (2 : Int32) d11_1 rfl A rfl ?_
  refine Go.lswN 42 d11_2 (by decide) (by decide) (by decide) (by decide) ?_
  refine Go.aloadN 43 d11_42 rfl rfl rfl ?_
  refine Go.iconst 44 (0 : Int32) d11_43 rfl rfl ?_
  refine Go.aloadN 45 d11_44 rfl rfl rfl ?_
  refine Go.alen 46 (2 : Int32) d11_45 rfl A rfl ?_
  refine Go.iconst 47 (0 : Int32) d11_46 rfl rfl ?_
  refine Go.iconst 48 (4 : Int32) d11_47 rfl rfl ?_
  refine Go.callS (S := []) 51 [(.ref b), (.int (0 : Int32)), (.int (2 : Int32)), (.int (0 : Int32)), (.int (4 : Int32))] d11_48 rfl rfl (w112 hw) (w113 hw) (w114 hw) (w115 hw) (by decide) (call_of_go (R := _) (len := 3) (W := 0) pf_1 (fun mid => ef_vhc mid b y0 y1 ) (c_vhc hw b y0 y1 A XB) (w115 hw) (w114 hw) (by decide) (by decide)) (lenOf pd_6 rfl) (Nat.le_of_ble_eq_true rfl) rfl (Nat.le_of_ble_eq_true rfl) (Nat.le_of_ble_eq_true rfl) (fun _ q => nomatch q) (fun v h_2 sf_3 hq => ?_)
  obtain ⟨rfl, r_1, rfl⟩ := hq
  refine Go.more (sf' := []) ?_ (Nat.le_refl _) (Nat.le_refl _) (fun _ q => List.mem_append_right _ q)
  show G_l1h2 md l Z n0 b y0 y1 h0 0 0 [] h0 51 #[.val (.ref b)] [(.int r_1)]
  exact Go.retI d11_51 rfl (sf' := []) (⟨rfl, _, rfl⟩) (fun _ q => nomatch q) (Nat.le_of_ble_eq_true rfl) (Nat.le_of_ble_eq_true rfl)
abbrev G_shash (md : Md) (l : Launch) (Z : State) (n0 : Nat) (x : Addr) (n c0 c1 z : Int32) (h0 : Heap) := Go md l Z n0 ({ frames := 3, cells := 0, slots := 0, locals := 45 } : Room) jdk_42_method_78_code 2 (some .int) "java/lang/String" "hashCode" (fun v h' _ => ∃ r : Int32, v = some (.int r) ∧ Keep h0 h' [x] ∧ Str Z h' x (strf n c0 c1))
theorem ef_shash (mid : MethodId) (x : Addr) (n c0 c1 z : Int32)  : entryFrame mid #[(.ref x)] 2 = mkF mid 0 #[.val (.ref x), .unset] [] := by first | (simp [entryFrame, mkF, argsToLocals, Value.category]; done) | rfl
set_option maxRecDepth 65536 in
set_option maxHeartbeats 40000000 in
theorem c_shash {md : Md} {l : Launch} {Z : State} {n0 : Nat} {a0 : Array Value} (hw : HW a0 Z) (x : Addr) (n c0 c1 z : Int32) {h0 : Heap} (S : Hst Z h0 x (strf n c0 c1)) (b_n : n = 0 ∨ n = 1 ∨ n = 2) (n0x : n0 ≤ x) (SC : Sta Z Z.heap "java/lang/String" "COMPACT_STRINGS" "Z" (.int z)) (hz : ¬ z = 0)  : G_shash md l Z n0 x n c0 c1 z h0 0 0 [x] h0 0 #[.val (.ref x), .unset] [] := by
  rcases b_n with en | en | en
  · skip
    have e_ : strf n c0 c1 = [] := by rw [en]; simp [strf]
    rw [e_] at S
    obtain ⟨t, E, C, V, A0, lt, H, HZ, XB⟩ := S
    have A : Ary Z h0 t .byte [] := A0
    have ntx : t ≠ x := A.neO E (w5 hw)
    refine Go.aloadN 1 d9_0 rfl rfl rfl ?_
    refine Go.getF 4 d9_1 rfl (w68 hw) Via.refl H ?_
    refine Go.istoreN 5 #[.val (.ref x), .val (.int (0 : Int32))] d9_4 rfl rfl ?_
    refine Go.iloadN 6 d9_5 rfl rfl ?_
    refine Go.ifN 9 d9_6 rfl (teq (by decide)).2 ?_
    refine Go.aloadN 10 d9_9 rfl rfl rfl ?_
    refine Go.getF 13 d9_10 rfl (w70 hw) Via.refl HZ ?_
    refine Go.ifN 16 d9_13 rfl (teq (by decide)).2 ?_
    refine Go.aloadN 17 d9_16 rfl rfl rfl ?_
    refine Go.callV (S := []) (a := x) 20 [] d9_17 rfl rfl (w72 hw) (w73 hw) (w75 hw) (w74 hw) (fun _ q => notFace_of_selects (args := #[]) (mvT q (w75 hw))) (by decide) E (call_of_go (R := _) (len := 3) (W := 0) (plainFor_of_name pn_0) (fun mid => ef_isl mid x z ) (c_isl hw x z C SC hz) (w76 hw) (w6 hw) (by decide) (by decide)) (lenOf pd_7 rfl) (Nat.le_of_ble_eq_true rfl) rfl (Nat.le_of_ble_eq_true rfl) (Nat.le_of_ble_eq_true rfl) (fun _ q => nomatch q) (fun v h_1 sf_2 hq => ?_)
    obtain ⟨rfl, rfl⟩ := hq
    refine Go.more (sf' := [x]) ?_ (Nat.le_refl _) (Nat.le_refl _) (fun _ q => List.mem_append_right _ q)
    show G_shash md l Z n0 x n c0 c1 z h0 0 0 [x] h0 20 #[.val (.ref x), .val (.int (0 : Int32))] [(.int (1 : Int32))]
    refine Go.ifN 23 d9_20 rfl (feq (by decide)).1 ?_
    refine Go.aloadN 24 d9_23 rfl rfl rfl ?_
    refine Go.getF 27 d9_24 rfl (w24 hw) Via.refl V ?_
    refine Go.callS (S := []) 30 [(.ref t)] d9_27 rfl rfl (w78 hw) (w79 hw) (w80 hw) (w81 hw) (by decide) (call_of_go (R := _) (len := 3) (W := 0) (plainFor_of_name pn_2) (fun mid => ef_l1h0 mid t ) (c_l1h0 hw t A) (w81 hw) (w80 hw) (by decide) (by decide)) (lenOf pd_8 rfl) (Nat.le_of_ble_eq_true rfl) rfl (Nat.le_of_ble_eq_true rfl) (Nat.le_of_ble_eq_true rfl) (fun _ q => nomatch q) (fun v h_4 sf_5 hq => ?_)
    obtain ⟨rfl, r_3, rfl⟩ := hq
    refine Go.more (sf' := [x]) ?_ (Nat.le_refl _) (Nat.le_refl _) (fun _ q => List.mem_append_right _ q)
    show G_shash md l Z n0 x n c0 c1 z h0 0 0 [x] h0 30 #[.val (.ref x), .val (.int (0 : Int32))] [(.int r_3)]
    refine Go.goto 40 d9_30 (by decide) (by decide) ?_
    refine Go.istoreN 41 #[.val (.ref x), .val (.int r_3)] d9_40 rfl rfl ?_
    refine Go.iloadN 42 d9_41 rfl rfl ?_
    by_cases hc42 : r_3 = (0 : Int32)
    · skip
      refine Go.ifN 45 d9_42 rfl (teq hc42).2 ?_
      refine Go.aloadN 46 d9_45 rfl rfl rfl ?_
      refine Go.iconst 47 (1 : Int32) d9_46 rfl rfl ?_
      refine Go.putF 50 (.int (1 : Int32)) d9_47 rfl (w70 hw) Via.refl HZ E (Or.inl (w71 hw)) (w5 hw) (ty := .boolean) (by decide) rfl rfl (List.mem_of_getElem? (i := 0) rfl) n0x (fun h_6 W_7 => ?_)
      refine Go.goto 58 d9_50 (by decide) (by decide) ?_
      refine Go.iloadN 59 d9_58 rfl rfl ?_
      have f_8 := (E.wr W_7)
      have f_9 := (C.other W_7 (Or.inr (slot_ne (Or.inr (w21 hw)) (Or.inl (w71 hw)) (by decide) (t := .byte) (t' := .boolean) (by decide) (by decide))))
      have f_10 := (V.other W_7 (Or.inr (slot_ne (Or.inr (w20 hw)) (Or.inl (w71 hw)) (by decide) (t := (.array .byte)) (t' := .boolean) (by decide) (by decide))))
      have f_11 := (A.other W_7 ntx)
      exact Go.retI d9_59 rfl (sf' := []) (⟨_, rfl, ((Keep.refl h0 [x]).wr W_7 (Or.inl (List.mem_of_getElem? (i := 0) rfl))), by rw [e_]; exact ⟨t, f_8, f_9, f_10, f_11, lt⟩⟩) (fun _ q => nomatch q) (Nat.le_of_ble_eq_true rfl) (Nat.le_of_ble_eq_true rfl)
    · skip
      refine Go.ifY 53 d9_42 (by decide) (by decide) (feq hc42).2 ?_
      refine Go.aloadN 54 d9_53 rfl rfl rfl ?_
      refine Go.iloadN 55 d9_54 rfl rfl ?_
      refine Go.putF 58 (.int r_3) d9_55 rfl (w68 hw) Via.refl H E (Or.inl (w69 hw)) (w5 hw) (ty := .int) (by decide) rfl rfl (List.mem_of_getElem? (i := 0) rfl) n0x (fun h_12 W_13 => ?_)
      refine Go.iloadN 59 d9_58 rfl rfl ?_
      have f_14 := (E.wr W_13)
      have f_15 := (C.other W_13 (Or.inr (slot_ne (Or.inr (w21 hw)) (Or.inl (w69 hw)) (by decide) (t := .byte) (t' := .int) (by decide) (by decide))))
      have f_16 := (V.other W_13 (Or.inr (slot_ne (Or.inr (w20 hw)) (Or.inl (w69 hw)) (by decide) (t := (.array .byte)) (t' := .int) (by decide) (by decide))))
      have f_17 := (A.other W_13 ntx)
      exact Go.retI d9_59 rfl (sf' := []) (⟨_, rfl, ((Keep.refl h0 [x]).wr W_13 (Or.inl (List.mem_of_getElem? (i := 0) rfl))), by rw [e_]; exact ⟨t, f_14, f_15, f_16, f_17, lt⟩⟩) (fun _ q => nomatch q) (Nat.le_of_ble_eq_true rfl) (Nat.le_of_ble_eq_true rfl)
  · skip
    have e_ : strf n c0 c1 = [c0] := by rw [en]; simp [strf]
    rw [e_] at S
    obtain ⟨t, E, C, V, A0, lt, H, HZ, XB⟩ := S
    have A : Ary Z h0 t .byte [(.int c0.toInt8.toInt32)] := A0
    have ntx : t ≠ x := A.neO E (w5 hw)
    refine Go.aloadN 1 d9_0 rfl rfl rfl ?_
    refine Go.getF 4 d9_1 rfl (w68 hw) Via.refl H ?_
    refine Go.istoreN 5 #[.val (.ref x), .val (.int (0 : Int32))] d9_4 rfl rfl ?_
    refine Go.iloadN 6 d9_5 rfl rfl ?_
    refine Go.ifN 9 d9_6 rfl (teq (by decide)).2 ?_
    refine Go.aloadN 10 d9_9 rfl rfl rfl ?_
    refine Go.getF 13 d9_10 rfl (w70 hw) Via.refl HZ ?_
    refine Go.ifN 16 d9_13 rfl (teq (by decide)).2 ?_
    refine Go.aloadN 17 d9_16 rfl rfl rfl ?_
    refine Go.callV (S := []) (a := x) 20 [] d9_17 rfl rfl (w72 hw) (w73 hw) (w75 hw) (w74 hw) (fun _ q => notFace_of_selects (args := #[]) (mvT q (w75 hw))) (by decide) E (call_of_go (R := _) (len := 3) (W := 0) (plainFor_of_name pn_0) (fun mid => ef_isl mid x z ) (c_isl hw x z C SC hz) (w76 hw) (w6 hw) (by decide) (by decide)) (lenOf pd_7 rfl) (Nat.le_of_ble_eq_true rfl) rfl (Nat.le_of_ble_eq_true rfl) (Nat.le_of_ble_eq_true rfl) (fun _ q => nomatch q) (fun v h_18 sf_19 hq => ?_)
    obtain ⟨rfl, rfl⟩ := hq
    refine Go.more (sf' := [x]) ?_ (Nat.le_refl _) (Nat.le_refl _) (fun _ q => List.mem_append_right _ q)
    show G_shash md l Z n0 x n c0 c1 z h0 0 0 [x] h0 20 #[.val (.ref x), .val (.int (0 : Int32))] [(.int (1 : Int32))]
    refine Go.ifN 23 d9_20 rfl (feq (by decide)).1 ?_
    refine Go.aloadN 24 d9_23 rfl rfl rfl ?_
    refine Go.getF 27 d9_24 rfl (w24 hw) Via.refl V ?_
    refine Go.callS (S := []) 30 [(.ref t)] d9_27 rfl rfl (w78 hw) (w79 hw) (w80 hw) (w81 hw) (by decide) (call_of_go (R := _) (len := 3) (W := 0) (plainFor_of_name pn_2) (fun mid => ef_l1h1 mid t c0.toInt8.toInt32 ) (c_l1h1 hw t c0.toInt8.toInt32 A) (w81 hw) (w80 hw) (by decide) (by decide)) (lenOf pd_8 rfl) (Nat.le_of_ble_eq_true rfl) rfl (Nat.le_of_ble_eq_true rfl) (Nat.le_of_ble_eq_true rfl) (fun _ q => nomatch q) (fun v h_21 sf_22 hq => ?_)
    obtain ⟨rfl, r_20, rfl⟩ := hq
    refine Go.more (sf' := [x]) ?_ (Nat.le_refl _) (Nat.le_refl _) (fun _ q => List.mem_append_right _ q)
    show G_shash md l Z n0 x n c0 c1 z h0 0 0 [x] h0 30 #[.val (.ref x), .val (.int (0 : Int32))] [(.int r_20)]
    refine Go.goto 40 d9_30 (by decide) (by decide) ?_
    refine Go.istoreN 41 #[.val (.ref x), .val (.int r_20)] d9_40 rfl rfl ?_
    refine Go.iloadN 42 d9_41 rfl rfl ?_
    by_cases hc42 : r_20 = (0 : Int32)
    · skip
      refine Go.ifN 45 d9_42 rfl (teq hc42).2 ?_
      refine Go.aloadN 46 d9_45 rfl rfl rfl ?_
      refine Go.iconst 47 (1 : Int32) d9_46 rfl rfl ?_
      refine Go.putF 50 (.int (1 : Int32)) d9_47 rfl (w70 hw) Via.refl HZ E (Or.inl (w71 hw)) (w5 hw) (ty := .boolean) (by decide) rfl rfl (List.mem_of_getElem? (i := 0) rfl) n0x (fun h_23 W_24 => ?_)
      refine Go.goto 58 d9_50 (by decide) (by decide) ?_
      refine Go.iloadN 59 d9_58 rfl rfl ?_
      have f_25 := (E.wr W_24)
      have f_26 := (C.other W_24 (Or.inr (slot_ne (Or.inr (w21 hw)) (Or.inl (w71 hw)) (by decide) (t := .byte) (t' := .boolean) (by decide) (by decide))))
      have f_27 := (V.other W_24 (Or.inr (slot_ne (Or.inr (w20 hw)) (Or.inl (w71 hw)) (by decide) (t := (.array .byte)) (t' := .boolean) (by decide) (by decide))))
      have f_28 := (A.other W_24 ntx)
      exact Go.retI d9_59 rfl (sf' := []) (⟨_, rfl, ((Keep.refl h0 [x]).wr W_24 (Or.inl (List.mem_of_getElem? (i := 0) rfl))), by rw [e_]; exact ⟨t, f_25, f_26, f_27, f_28, lt⟩⟩) (fun _ q => nomatch q) (Nat.le_of_ble_eq_true rfl) (Nat.le_of_ble_eq_true rfl)
    · skip
      refine Go.ifY 53 d9_42 (by decide) (by decide) (feq hc42).2 ?_
      refine Go.aloadN 54 d9_53 rfl rfl rfl ?_
      refine Go.iloadN 55 d9_54 rfl rfl ?_
      refine Go.putF 58 (.int r_20) d9_55 rfl (w68 hw) Via.refl H E (Or.inl (w69 hw)) (w5 hw) (ty := .int) (by decide) rfl rfl (List.mem_of_getElem? (i := 0) rfl) n0x (fun h_29 W_30 => ?_)
      refine Go.iloadN 59 d9_58 rfl rfl ?_
      have f_31 := (E.wr W_30)
      have f_32 := (C.other W_30 (Or.inr (slot_ne (Or.inr (w21 hw)) (Or.inl (w69 hw)) (by decide) (t := .byte) (t' := .int) (by decide) (by decide))))
      have f_33 := (V.other W_30 (Or.inr (slot_ne (Or.inr (w20 hw)) (Or.inl (w69 hw)) (by decide) (t := (.array .byte)) (t' := .int) (by decide) (by decide))))
      have f_34 := (A.other W_30 ntx)
      exact Go.retI d9_59 rfl (sf' := []) (⟨_, rfl, ((Keep.refl h0 [x]).wr W_30 (Or.inl (List.mem_of_getElem? (i := 0) rfl))), by rw [e_]; exact ⟨t, f_31, f_32, f_33, f_34, lt⟩⟩) (fun _ q => nomatch q) (Nat.le_of_ble_eq_true rfl) (Nat.le_of_ble_eq_true rfl)
  · skip
    have e_ : strf n c0 c1 = [c0, c1] := by rw [en]; simp [strf]
    rw [e_] at S
    obtain ⟨t, E, C, V, A0, lt, H, HZ, XB⟩ := S
    have A : Ary Z h0 t .byte [(.int c0.toInt8.toInt32), (.int c1.toInt8.toInt32)] := A0
    have ntx : t ≠ x := A.neO E (w5 hw)
    refine Go.aloadN 1 d9_0 rfl rfl rfl ?_
    refine Go.getF 4 d9_1 rfl (w68 hw) Via.refl H ?_
    refine Go.istoreN 5 #[.val (.ref x), .val (.int (0 : Int32))] d9_4 rfl rfl ?_
    refine Go.iloadN 6 d9_5 rfl rfl ?_
    refine Go.ifN 9 d9_6 rfl (teq (by decide)).2 ?_
    refine Go.aloadN 10 d9_9 rfl rfl rfl ?_
    refine Go.getF 13 d9_10 rfl (w70 hw) Via.refl HZ ?_
    refine Go.ifN 16 d9_13 rfl (teq (by decide)).2 ?_
    refine Go.aloadN 17 d9_16 rfl rfl rfl ?_
    refine Go.callV (S := []) (a := x) 20 [] d9_17 rfl rfl (w72 hw) (w73 hw) (w75 hw) (w74 hw) (fun _ q => notFace_of_selects (args := #[]) (mvT q (w75 hw))) (by decide) E (call_of_go (R := _) (len := 3) (W := 0) (plainFor_of_name pn_0) (fun mid => ef_isl mid x z ) (c_isl hw x z C SC hz) (w76 hw) (w6 hw) (by decide) (by decide)) (lenOf pd_7 rfl) (Nat.le_of_ble_eq_true rfl) rfl (Nat.le_of_ble_eq_true rfl) (Nat.le_of_ble_eq_true rfl) (fun _ q => nomatch q) (fun v h_35 sf_36 hq => ?_)
    obtain ⟨rfl, rfl⟩ := hq
    refine Go.more (sf' := [x]) ?_ (Nat.le_refl _) (Nat.le_refl _) (fun _ q => List.mem_append_right _ q)
    show G_shash md l Z n0 x n c0 c1 z h0 0 0 [x] h0 20 #[.val (.ref x), .val (.int (0 : Int32))] [(.int (1 : Int32))]
    refine Go.ifN 23 d9_20 rfl (feq (by decide)).1 ?_
    refine Go.aloadN 24 d9_23 rfl rfl rfl ?_
    refine Go.getF 27 d9_24 rfl (w24 hw) Via.refl V ?_
    refine Go.callS (S := []) 30 [(.ref t)] d9_27 rfl rfl (w78 hw) (w79 hw) (w80 hw) (w81 hw) (by decide) (call_of_go (R := _) (len := 3) (W := 0) (plainFor_of_name pn_2) (fun mid => ef_l1h2 mid t c0.toInt8.toInt32 c1.toInt8.toInt32 ) (c_l1h2 hw t c0.toInt8.toInt32 c1.toInt8.toInt32 A (XB (Nat.le_of_ble_eq_true rfl))) (w81 hw) (w80 hw) (by decide) (by decide)) (lenOf pd_8 rfl) (Nat.le_of_ble_eq_true rfl) rfl (Nat.le_of_ble_eq_true rfl) (Nat.le_of_ble_eq_true rfl) (fun _ q => nomatch q) (fun v h_38 sf_39 hq => ?_)
    obtain ⟨rfl, r_37, rfl⟩ := hq
    refine Go.more (sf' := [x]) ?_ (Nat.le_refl _) (Nat.le_refl _) (fun _ q => List.mem_append_right _ q)
    show G_shash md l Z n0 x n c0 c1 z h0 0 0 [x] h0 30 #[.val (.ref x), .val (.int (0 : Int32))] [(.int r_37)]
    refine Go.goto 40 d9_30 (by decide) (by decide) ?_
    refine Go.istoreN 41 #[.val (.ref x), .val (.int r_37)] d9_40 rfl rfl ?_
    refine Go.iloadN 42 d9_41 rfl rfl ?_
    by_cases hc42 : r_37 = (0 : Int32)
    · skip
      refine Go.ifN 45 d9_42 rfl (teq hc42).2 ?_
      refine Go.aloadN 46 d9_45 rfl rfl rfl ?_
      refine Go.iconst 47 (1 : Int32) d9_46 rfl rfl ?_
      refine Go.putF 50 (.int (1 : Int32)) d9_47 rfl (w70 hw) Via.refl HZ E (Or.inl (w71 hw)) (w5 hw) (ty := .boolean) (by decide) rfl rfl (List.mem_of_getElem? (i := 0) rfl) n0x (fun h_40 W_41 => ?_)
      refine Go.goto 58 d9_50 (by decide) (by decide) ?_
      refine Go.iloadN 59 d9_58 rfl rfl ?_
      have f_42 := (E.wr W_41)
      have f_43 := (C.other W_41 (Or.inr (slot_ne (Or.inr (w21 hw)) (Or.inl (w71 hw)) (by decide) (t := .byte) (t' := .boolean) (by decide) (by decide))))
      have f_44 := (V.other W_41 (Or.inr (slot_ne (Or.inr (w20 hw)) (Or.inl (w71 hw)) (by decide) (t := (.array .byte)) (t' := .boolean) (by decide) (by decide))))
      have f_45 := (A.other W_41 ntx)
      exact Go.retI d9_59 rfl (sf' := []) (⟨_, rfl, ((Keep.refl h0 [x]).wr W_41 (Or.inl (List.mem_of_getElem? (i := 0) rfl))), by rw [e_]; exact ⟨t, f_42, f_43, f_44, f_45, lt⟩⟩) (fun _ q => nomatch q) (Nat.le_of_ble_eq_true rfl) (Nat.le_of_ble_eq_true rfl)
    · skip
      refine Go.ifY 53 d9_42 (by decide) (by decide) (feq hc42).2 ?_
      refine Go.aloadN 54 d9_53 rfl rfl rfl ?_
      refine Go.iloadN 55 d9_54 rfl rfl ?_
      refine Go.putF 58 (.int r_37) d9_55 rfl (w68 hw) Via.refl H E (Or.inl (w69 hw)) (w5 hw) (ty := .int) (by decide) rfl rfl (List.mem_of_getElem? (i := 0) rfl) n0x (fun h_46 W_47 => ?_)
      refine Go.iloadN 59 d9_58 rfl rfl ?_
      have f_48 := (E.wr W_47)
      have f_49 := (C.other W_47 (Or.inr (slot_ne (Or.inr (w21 hw)) (Or.inl (w69 hw)) (by decide) (t := .byte) (t' := .int) (by decide) (by decide))))
      have f_50 := (V.other W_47 (Or.inr (slot_ne (Or.inr (w20 hw)) (Or.inl (w69 hw)) (by decide) (t := (.array .byte)) (t' := .int) (by decide) (by decide))))
      have f_51 := (A.other W_47 ntx)
      exact Go.retI d9_59 rfl (sf' := []) (⟨_, rfl, ((Keep.refl h0 [x]).wr W_47 (Or.inl (List.mem_of_getElem? (i := 0) rfl))), by rw [e_]; exact ⟨t, f_48, f_49, f_50, f_51, lt⟩⟩) (fun _ q => nomatch q) (Nat.le_of_ble_eq_true rfl) (Nat.le_of_ble_eq_true rfl)
abbrev G_ord (md : Md) (l : Launch) (Z : State) (n0 : Nat) (a : Addr) (k : Int32) (h0 : Heap) := Go md l Z n0 ({ frames := 0, cells := 0, slots := 0, locals := 0 } : Room) jdk_37_method_2_code 1 (some .int) "java/lang/Enum" "ordinal" (fun v h' _ => h0 = h' ∧ v = some (.int k))
theorem ef_ord (mid : MethodId) (a : Addr) (k : Int32)  : entryFrame mid #[(.ref a)] 1 = mkF mid 0 #[.val (.ref a)] [] := by first | (simp [entryFrame, mkF, argsToLocals, Value.category]; done) | rfl
set_option maxRecDepth 65536 in
set_option maxHeartbeats 40000000 in
theorem c_ord {md : Md} {l : Launch} {Z : State} {n0 : Nat} {a0 : Array Value} (hw : HW a0 Z) (a : Addr) (k : Int32) {h0 : Heap} (F : Fld Z h0 a "java/lang/Enum" "ordinal" "I" (.int k)) : G_ord md l Z n0 a k h0 0 0 [] h0 0 #[.val (.ref a)] [] := by
  refine Go.aloadN 1 d8_0 rfl rfl rfl ?_
  refine Go.getF 4 d8_1 rfl (w61 hw) Via.refl F ?_
  exact Go.retI d8_4 rfl (sf' := []) (⟨rfl, rfl⟩) (fun _ q => nomatch q) (Nat.le_of_ble_eq_true rfl) (Nat.le_of_ble_eq_true rfl)
abbrev G_rnn (md : Md) (l : Launch) (Z : State) (n0 : Nat) (a s : Addr) (h0 : Heap) := Go md l Z n0 ({ frames := 0, cells := 0, slots := 0, locals := 0 } : Room) jdk_31_method_11_code 2 (some (.object "java/lang/Object")) "java/util/Objects" "requireNonNull" (fun v h' _ => h0 = h' ∧ v = some (.ref a))
theorem ef_rnn (mid : MethodId) (a s : Addr)  : entryFrame mid #[(.ref a), (.ref s)] 2 = mkF mid 0 #[.val (.ref a), .val (.ref s)] [] := by first | (simp [entryFrame, mkF, argsToLocals, Value.category]; done) | rfl
set_option maxRecDepth 65536 in
set_option maxHeartbeats 40000000 in
theorem c_rnn {md : Md} {l : Launch} {Z : State} {n0 : Nat} {a0 : Array Value} (hw : HW a0 Z) (a s : Addr) {h0 : Heap}  : G_rnn md l Z n0 a s h0 0 0 [] h0 0 #[.val (.ref a), .val (.ref s)] [] := by
  refine Go.aloadN 1 d7_0 rfl rfl rfl ?_
  refine Go.nonnullY 13 d7_1 (by decide) (by decide) ?_
  refine Go.aloadN 14 d7_13 rfl rfl rfl ?_
  exact Go.retA d7_14 rfl rfl rfl (sf' := []) (⟨rfl, rfl⟩) (fun _ q => nomatch q) (Nat.le_of_ble_eq_true rfl) (Nat.le_of_ble_eq_true rfl)
abbrev G_atominit (md : Md) (l : Launch) (Z : State) (n0 : Nat) (a ty x fn : Addr) (kk n c0 c1 z : Int32) (h0 : Heap) := Go md l Z n0 ({ frames := 4, cells := 4, slots := 40, locals := 60 } : Room) prog_44_method_1_code 3 none "com/example/avain/avain/model/Atom" "<init>" (fun v h' _ => v = none ∧ Keep h0 h' [a, x] ∧ Exa Z h' a "com/example/avain/avain/model/Atom" ∧ Fld Z h' a "com/example/avain/avain/model/Atom" "type" "Lcom/example/avain/avain/model/Type;" (.ref ty) ∧ Fld Z h' a "com/example/avain/avain/model/Atom" "text" "Ljava/lang/String;" (.ref x) ∧ Str Z h' x (strf n c0 c1))
theorem ef_atominit (mid : MethodId) (a ty x fn : Addr) (kk n c0 c1 z : Int32)  : entryFrame mid #[(.ref a), (.ref ty), (.ref x)] 3 = mkF mid 0 #[.val (.ref a), .val (.ref ty), .val (.ref x)] [] := by first | (simp [entryFrame, mkF, argsToLocals, Value.category]; done) | rfl
set_option maxRecDepth 65536 in
set_option maxHeartbeats 40000000 in
theorem c_atominit {l : Launch} {Z : State} {n0 : Nat} {a0 : Array Value} (hw : HW a0 Z) (a ty x fn : Addr) (kk n c0 c1 z : Int32) {h0 : Heap} (E : Exa Z h0 a "com/example/avain/avain/model/Atom") (n0a : n0 ≤ a) {u1 : Value} (F1 : Fld Z h0 a "com/example/avain/avain/model/Atom" "type" "Lcom/example/avain/avain/model/Type;" u1) (Ek : Exa Z h0 ty "com/example/avain/avain/model/Type") (Fo : Fld Z h0 ty "java/lang/Enum" "ordinal" "I" (.int kk)) (S : Hst Z h0 x (strf n c0 c1)) (b_n : n = 0 ∨ n = 1 ∨ n = 2) (n0x : n0 ≤ x) (ZF : Sta Z Z.heap "com/example/avain/avain/model/Type" "FUNCTION" "Lcom/example/avain/avain/model/Type;" (.ref fn)) (hne : ty ≠ fn) (SC : Sta Z Z.heap "java/lang/String" "COMPACT_STRINGS" "Z" (.int z)) (hz : ¬ z = 0)  : G_atominit (some consts_1) l Z n0 a ty x fn kk n c0 c1 z h0 0 0 [a, x] h0 0 #[.val (.ref a), .val (.ref ty), .val (.ref x)] [] := by
  have nax : a ≠ x := ne_exa E S.exa (by decide)
  have nxy : ty ≠ x := ne_exa Ek S.exa (by decide)
  have nya : ty ≠ a := ne_exa Ek E (by decide)
  refine Go.aloadN 1 d6_0 rfl rfl rfl ?_
  refine Go.initO (W := 0) 4 d6_1 rfl (w38 hw) (w16 hw) (w17 hw) rfl (by decide) (Nat.le_of_ble_eq_true rfl) (by decide) ?_
  refine Go.aloadN 5 d6_4 rfl rfl rfl ?_
  refine Go.getS 8 d6_5 rfl (w39 hw) Via.refl ZF ?_
  refine Go.acmpY 25 d6_8 (by decide) (by decide) rfl rfl (by rw [decide_eq_false (fun q => hne (Value.ref.inj q))]; rfl) ?_
  refine Go.aloadN 26 d6_25 rfl rfl rfl ?_
  refine Go.aloadN 27 d6_26 rfl rfl rfl ?_
  refine Go.ldcL (vs := [(.int (116 : Int32)), (.int (121 : Int32)), (.int (112 : Int32)), (.int (101 : Int32))]) (z := (4 : Int32)) 16 29 d6_27 rfl (w41 hw) (wS hw) (List.mem_of_getElem? (i := 0) rfl) ⟨by decide, rfl⟩ (by decide) (by decide) (by decide) (by decide) (Nat.le_of_ble_eq_true rfl) (Nat.le_of_ble_eq_true rfl) (fun h_1 s_2 b_3 k_4 E_5 A_6 C_7 V_8 B_9 ne_10 => ?_)
  have B_11 : Ary Z h_1 b_3 .byte [(.int (116 : Int32)), (.int (121 : Int32)), (.int (112 : Int32)), (.int (101 : Int32))] := Ary.ofArv B_9 rfl (by decide)
  have S_12 : Str Z h_1 s_2 [(116 : Int32), (121 : Int32), (112 : Int32), (101 : Int32)] := ⟨_, A_6, C_7, V_8, B_11, by unfold Lat; decide⟩
  show G_atominit (some consts_1) l Z n0 a ty x fn kk n c0 c1 z h0 2 20 [a, x] h_1 29 #[.val (.ref a), .val (.ref ty), .val (.ref x)] [(.ref s_2), (.ref ty), (.ref a)]
  refine Go.callS (S := [(.ref a)]) 32 [(.ref ty), (.ref s_2)] d6_29 rfl rfl (w42 hw) (w43 hw) (w44 hw) (w45 hw) (by decide) (call_of_go (R := _) (len := 3) (W := 1) (plainFor_of_name pn_3) (fun mid => ef_rnn mid ty s_2 ) (c_rnn hw ty s_2 ) (w45 hw) (w44 hw) (by decide) (by decide)) (lenOf pd_9 rfl) (Nat.le_of_ble_eq_true rfl) rfl (Nat.le_of_ble_eq_true rfl) (Nat.le_of_ble_eq_true rfl) (fun _ q => nomatch q) (fun v h_13 sf_14 hq => ?_)
  obtain ⟨rfl, rfl⟩ := hq
  refine Go.more (sf' := [a, x]) ?_ (Nat.le_refl _) (Nat.le_refl _) (fun _ q => List.mem_append_right _ q)
  show G_atominit (some consts_1) l Z n0 a ty x fn kk n c0 c1 z h0 2 20 [a, x] h_1 32 #[.val (.ref a), .val (.ref ty), .val (.ref x)] [(.ref ty), (.ref a)]
  have f_15 := Ek.ext E_5
  refine Go.castY 35 d6_32 rfl (w46 hw) (Ins.self f_15) ?_
  have f_16 := E.ext E_5
  have f_17 := F1.ext E_5
  refine Go.putF 38 (.ref ty) d6_35 rfl (w48 hw) Via.refl f_17 f_16 (Or.inr ⟨(w49 hw), rfl, rfl⟩) (w27 hw) (ty := (.object "com/example/avain/avain/model/Type")) (by decide) rfl rfl (List.mem_of_getElem? (i := 0) rfl) n0a (fun h_18 W_19 => ?_)
  refine Go.aloadN 39 d6_38 rfl rfl rfl ?_
  refine Go.aloadN 40 d6_39 rfl rfl rfl ?_
  refine Go.ldcL (vs := [(.int (116 : Int32)), (.int (101 : Int32)), (.int (120 : Int32)), (.int (116 : Int32))]) (z := (4 : Int32)) 16 42 d6_40 rfl (w50 hw) (wS hw) (List.mem_of_getElem? (i := 1) rfl) ⟨by decide, rfl⟩ (by decide) (by decide) (by decide) (by decide) (Nat.le_of_ble_eq_true rfl) (Nat.le_of_ble_eq_true rfl) (fun h_20 s_21 b_22 k_23 E_24 A_25 C_26 V_27 B_28 ne_29 => ?_)
  have B_30 : Ary Z h_20 b_22 .byte [(.int (116 : Int32)), (.int (101 : Int32)), (.int (120 : Int32)), (.int (116 : Int32))] := Ary.ofArv B_28 rfl (by decide)
  have S_31 : Str Z h_20 s_21 [(116 : Int32), (101 : Int32), (120 : Int32), (116 : Int32)] := ⟨_, A_25, C_26, V_27, B_30, by unfold Lat; decide⟩
  show G_atominit (some consts_1) l Z n0 a ty x fn kk n c0 c1 z h0 4 40 [a, x] h_20 42 #[.val (.ref a), .val (.ref ty), .val (.ref x)] [(.ref s_21), (.ref x), (.ref a)]
  refine Go.callS (S := [(.ref a)]) 45 [(.ref x), (.ref s_21)] d6_42 rfl rfl (w42 hw) (w43 hw) (w44 hw) (w45 hw) (by decide) (call_of_go (R := _) (len := 3) (W := 1) (plainFor_of_name pn_3) (fun mid => ef_rnn mid x s_21 ) (c_rnn hw x s_21 ) (w45 hw) (w44 hw) (by decide) (by decide)) (lenOf pd_9 rfl) (Nat.le_of_ble_eq_true rfl) rfl (Nat.le_of_ble_eq_true rfl) (Nat.le_of_ble_eq_true rfl) (fun _ q => nomatch q) (fun v h_32 sf_33 hq => ?_)
  obtain ⟨rfl, rfl⟩ := hq
  refine Go.more (sf' := [a, x]) ?_ (Nat.le_refl _) (Nat.le_refl _) (fun _ q => List.mem_append_right _ q)
  show G_atominit (some consts_1) l Z n0 a ty x fn kk n c0 c1 z h0 4 40 [a, x] h_20 45 #[.val (.ref a), .val (.ref ty), .val (.ref x)] [(.ref x), (.ref a)]
  have f_34 := (((S.exa.ext E_5).wr W_19).ext E_24)
  refine Go.castY 48 d6_45 rfl (w51 hw) (Ins.self f_34) ?_
  have f_35 := ((f_16.wr W_19).ext E_24)
  have f_36 := (f_17.same W_19).ext E_24
  obtain ⟨o_37, fo_38⟩ := Fld.any f_36 f_35 (w27 hw) (Or.inr (w53 hw))
  refine Go.putF 51 (.ref x) d6_48 rfl (w52 hw) Via.refl fo_38 f_35 (Or.inr ⟨(w53 hw), rfl, rfl⟩) (w27 hw) (ty := (.object "java/lang/String")) (by decide) rfl rfl (List.mem_of_getElem? (i := 0) rfl) n0a (fun h_39 W_40 => ?_)
  refine Go.aloadN 52 d6_51 rfl rfl rfl ?_
  refine Go.bipush 54 (31 : Int32) d6_52 rfl rfl ?_
  refine Go.aloadN 55 d6_54 rfl rfl rfl ?_
  have f_41 := ((((Fo.ext E_5).other W_19 (Or.inl nya)).ext E_24).other W_40 (Or.inl nya))
  have f_44 := (((f_15.wr W_19).ext E_24).wr W_40)
  refine Go.callU (S := [(.int (31 : Int32)), (.ref a)]) (a := ty) (owner := "java/lang/Enum") 58 [] d6_55 rfl rfl (w54 hw) (w55 hw) (w56 hw) (w58 hw) (w57 hw) (by decide) f_44 (call_of_go (R := _) (len := 3) (W := 2) (plainFor_of_name pn_4) (fun mid => ef_ord mid ty kk ) (c_ord hw ty kk f_41) (w60 hw) (w59 hw) (by decide) (by decide)) (lenOf pd_10 rfl) (Nat.le_of_ble_eq_true rfl) rfl (Nat.le_of_ble_eq_true rfl) (Nat.le_of_ble_eq_true rfl) (fun _ q => nomatch q) (fun v h_42 sf_43 hq => ?_)
  obtain ⟨rfl, rfl⟩ := hq
  refine Go.more (sf' := [a, x]) ?_ (Nat.le_refl _) (Nat.le_refl _) (fun _ q => List.mem_append_right _ q)
  show G_atominit (some consts_1) l Z n0 a ty x fn kk n c0 c1 z h0 4 40 [a, x] h_39 58 #[.val (.ref a), .val (.ref ty), .val (.ref x)] [(.int kk), (.int (31 : Int32)), (.ref a)]
  refine Go.imul 59 d6_58 rfl ?_
  refine Go.aloadN 60 d6_59 rfl rfl rfl ?_
  have f_45 := (Hst.wrO ((Hst.wrO (S.ext E_5) f_16 (by decide) (w27 hw) W_19).ext E_24) f_35 (by decide) (w27 hw) W_40)
  have f_51 := (f_34.wr W_40)
  refine Go.callV (S := [(.int ((31 : Int32) * kk)), (.ref a)]) (a := x) 63 [] d6_60 rfl rfl (w63 hw) (w64 hw) (w66 hw) (w65 hw) (fun _ q => notFace_of_selects (args := #[]) (mvT q (w66 hw))) (by decide) f_51 (call_of_go (R := _) (len := 3) (W := 2) (plainFor_of_name pn_0) (fun mid => ef_shash mid x n c0 c1 z ) (c_shash hw x n c0 c1 z f_45 b_n n0x SC hz) (w67 hw) (w6 hw) (by decide) (by decide)) (lenOf pd_10 rfl) (Nat.le_of_ble_eq_true rfl) rfl (Nat.le_of_ble_eq_true rfl) (Nat.le_of_ble_eq_true rfl) (sub1 (List.mem_of_getElem? (i := 1) rfl)) (fun v h_49 sf_50 hq => ?_)
  obtain ⟨r_46, rfl, K_47, S_48⟩ := hq
  refine Go.more (sf' := [a, x]) ?_ (Nat.le_refl _) (Nat.le_refl _) (fun _ q => List.mem_append_right _ q)
  show G_atominit (some consts_1) l Z n0 a ty x fn kk n c0 c1 z h0 4 40 [a, x] h_49 63 #[.val (.ref a), .val (.ref ty), .val (.ref x)] [(.int r_46), (.int ((31 : Int32) * kk)), (.ref a)]
  refine Go.iadd 64 d6_63 rfl ?_
  have f_52 := ((f_35.wr W_40).keep K_47)
  have f_53 := ((fo_38.same W_40).keep K_47 (ninS nax nin0))
  obtain ⟨o_54, fo_55⟩ := Fld.any f_53 f_52 (w27 hw) (Or.inr (w83 hw))
  refine Go.putF 67 (.int (((31 : Int32) * kk) + r_46)) d6_64 rfl (w82 hw) Via.refl fo_55 f_52 (Or.inr ⟨(w83 hw), rfl, rfl⟩) (w27 hw) (ty := .int) (by decide) rfl rfl (List.mem_of_getElem? (i := 0) rfl) n0a (fun h_56 W_57 => ?_)
  have f_58 := (f_52.wr W_57)
  have f_59 := (((f_36.other W_40 (Or.inr (slot_ne (Or.inr (w49 hw)) (Or.inr (w53 hw)) (by decide) (t := (.object "com/example/avain/avain/model/Type")) (t' := (.object "java/lang/String")) (by decide) (by decide)))).keep K_47 (ninS nax nin0)).other W_57 (Or.inr (slot_ne (Or.inr (w49 hw)) (Or.inr (w83 hw)) (by decide) (t := (.object "com/example/avain/avain/model/Type")) (t' := .int) (by decide) (by decide))))
  have f_60 := (f_53.other W_57 (Or.inr (slot_ne (Or.inr (w53 hw)) (Or.inr (w83 hw)) (by decide) (t := (.object "java/lang/String")) (t' := .int) (by decide) (by decide))))
  have f_61 := (Str.wrO S_48 f_52 (by decide) (w27 hw) W_57)
  exact Go.ret0 d6_67 rfl (sf' := []) (⟨rfl, (((((((Keep.refl h0 [a, x]).ext E_5).wr W_19 (Or.inl (List.mem_of_getElem? (i := 0) rfl))).ext E_24).wr W_40 (Or.inl (List.mem_of_getElem? (i := 0) rfl))).trans K_47 (allS (Or.inl (List.mem_of_getElem? (i := 1) rfl)) all0)).wr W_57 (Or.inl (List.mem_of_getElem? (i := 0) rfl))), f_58, f_59, f_60, f_61⟩) (fun _ q => nomatch q) (Nat.le_of_ble_eq_true rfl) (Nat.le_of_ble_eq_true rfl)
abbrev G_vof (md : Md) (l : Launch) (Z : State) (n0 : Nat) (k : Int32) (ca b : Addr) (i : Nat) (h0 : Heap) := Go md l Z n0 ({ frames := 0, cells := 0, slots := 0, locals := 0 } : Room) jdk_33_method_22_code 1 (some (.object "java/lang/Integer")) "java/lang/Integer" "valueOf" (fun v h' _ => h0 = h' ∧ v = some (.ref b))
theorem ef_vof (mid : MethodId) (k : Int32) (ca b : Addr) (i : Nat)  : entryFrame mid #[(.int k)] 1 = mkF mid 0 #[.val (.int k)] [] := by first | (simp [entryFrame, mkF, argsToLocals, Value.category]; done) | rfl
set_option maxRecDepth 65536 in
set_option maxHeartbeats 40000000 in
theorem c_vof {md : Md} {l : Launch} {Z : State} {n0 : Nat} {a0 : Array Value} (hw : HW a0 Z) (k : Int32) (ca b : Addr) (i : Nat) {h0 : Heap} (hi : (k + (128 : Int32)).toInt = (i : Int)) (A : At1 Z h0 ca (.object "java/lang/Integer") i (.ref b)) (b_k : inK k) (IHi : Sta Z Z.heap "java/lang/Integer$IntegerCache" "high" "I" (.int 127)) (ICa : Sta Z Z.heap "java/lang/Integer$IntegerCache" "cache" "[Ljava/lang/Integer;" (.ref ca))  : G_vof md l Z n0 k ca b i h0 0 0 [] h0 0 #[.val (.int k)] [] := by
  refine Go.iloadN 1 d22_0 rfl rfl ?_
  refine Go.bipush 3 (-128 : Int32) d22_1 rfl rfl ?_
  refine Go.icmpN 6 d22_3 rfl (flt (inK_lo b_k)).1 ?_
  refine Go.iloadN 7 d22_6 rfl rfl ?_
  refine Go.getS 10 d22_7 rfl (w149 hw) Via.refl IHi ?_
  refine Go.icmpN 13 d22_10 rfl (flt (inK_hi b_k)).2.2.1 ?_
  refine Go.getS 16 d22_13 rfl (w151 hw) Via.refl ICa ?_
  refine Go.iloadN 17 d22_16 rfl rfl ?_
  refine Go.sipush 20 (128 : Int32) d22_17 rfl rfl ?_
  refine Go.iadd 21 d22_20 rfl ?_
  refine Go.aaload1 i 22 d22_21 rfl rfl A hi ?_
  exact Go.retA d22_22 rfl rfl rfl (sf' := []) (⟨rfl, rfl⟩) (fun _ q => nomatch q) (Nat.le_of_ble_eq_true rfl) (Nat.le_of_ble_eq_true rfl)
abbrev G_ih1 (md : Md) (l : Launch) (Z : State) (n0 : Nat) (k : Int32) (h0 : Heap) := Go md l Z n0 ({ frames := 0, cells := 0, slots := 0, locals := 0 } : Room) jdk_33_method_33_code 1 (some .int) "java/lang/Integer" "hashCode" (fun v h' _ => h0 = h' ∧ v = some (.int k))
theorem ef_ih1 (mid : MethodId) (k : Int32)  : entryFrame mid #[(.int k)] 1 = mkF mid 0 #[.val (.int k)] [] := by first | (simp [entryFrame, mkF, argsToLocals, Value.category]; done) | rfl
set_option maxRecDepth 65536 in
set_option maxHeartbeats 40000000 in
theorem c_ih1 {md : Md} {l : Launch} {Z : State} {n0 : Nat} {a0 : Array Value} (hw : HW a0 Z) (k : Int32) {h0 : Heap}  : G_ih1 md l Z n0 k h0 0 0 [] h0 0 #[.val (.int k)] [] := by
  refine Go.iloadN 1 d26_0 rfl rfl ?_
  exact Go.retI d26_1 rfl (sf' := []) (⟨rfl, rfl⟩) (fun _ q => nomatch q) (Nat.le_of_ble_eq_true rfl) (Nat.le_of_ble_eq_true rfl)
abbrev G_ih0 (md : Md) (l : Launch) (Z : State) (n0 : Nat) (b : Addr) (k : Int32) (h0 : Heap) := Go md l Z n0 ({ frames := 1, cells := 0, slots := 0, locals := 12 } : Room) jdk_33_method_32_code 1 (some .int) "java/lang/Integer" "hashCode" (fun v h' _ => h0 = h' ∧ v = some (.int k))
theorem ef_ih0 (mid : MethodId) (b : Addr) (k : Int32)  : entryFrame mid #[(.ref b)] 1 = mkF mid 0 #[.val (.ref b)] [] := by first | (simp [entryFrame, mkF, argsToLocals, Value.category]; done) | rfl
set_option maxRecDepth 65536 in
set_option maxHeartbeats 40000000 in
theorem c_ih0 {md : Md} {l : Launch} {Z : State} {n0 : Nat} {a0 : Array Value} (hw : HW a0 Z) (b : Addr) (k : Int32) {h0 : Heap} (F : Fld Z h0 b "java/lang/Integer" "value" "I" (.int k)) : G_ih0 md l Z n0 b k h0 0 0 [] h0 0 #[.val (.ref b)] [] := by
  refine Go.aloadN 1 d25_0 rfl rfl rfl ?_
  refine Go.getF 4 d25_1 rfl (w167 hw) Via.refl F ?_
  refine Go.callS (S := []) 7 [(.int k)] d25_4 rfl rfl (w169 hw) (w170 hw) (w147 hw) (w171 hw) (by decide) (call_of_go (R := _) (len := 3) (W := 0) pf_2 (fun mid => ef_ih1 mid k ) (c_ih1 hw k ) (w171 hw) (w147 hw) (by decide) (by decide)) (lenOf pd_11 rfl) (Nat.le_of_ble_eq_true rfl) rfl (Nat.le_of_ble_eq_true rfl) (Nat.le_of_ble_eq_true rfl) (fun _ q => nomatch q) (fun v h_1 sf_2 hq => ?_)
  obtain ⟨rfl, rfl⟩ := hq
  refine Go.more (sf' := []) ?_ (Nat.le_refl _) (Nat.le_refl _) (fun _ q => List.mem_append_right _ q)
  show G_ih0 md l Z n0 b k h0 0 0 [] h0 7 #[.val (.ref b)] [(.int k)]
  exact Go.retI d25_7 rfl (sf' := []) (⟨rfl, rfl⟩) (fun _ q => nomatch q) (Nat.le_of_ble_eq_true rfl) (Nat.le_of_ble_eq_true rfl)
abbrev G_arrh (md : Md) (l : Launch) (Z : State) (n0 : Nat) (r x b : Addr) (kk n c0 c1 z : Int32) (h0 : Heap) := Go md l Z n0 ({ frames := 4, cells := 0, slots := 0, locals := 59 } : Room) jdk_65_method_157_code 6 (some .int) "java/util/Arrays" "hashCode" (fun v h' _ => ∃ r : Int32, v = some (.int r) ∧ Keep h0 h' [x])
theorem ef_arrh (mid : MethodId) (r x b : Addr) (kk n c0 c1 z : Int32)  : entryFrame mid #[(.ref r)] 6 = mkF mid 0 #[.val (.ref r), .unset, .unset, .unset, .unset, .unset] [] := by first | (simp [entryFrame, mkF, argsToLocals, Value.category]; done) | rfl
set_option maxRecDepth 65536 in
set_option maxHeartbeats 40000000 in
theorem c_arrh {md : Md} {l : Launch} {Z : State} {n0 : Nat} {a0 : Array Value} (hw : HW a0 Z) (r x b : Addr) (kk n c0 c1 z : Int32) {h0 : Heap} (A : Ary Z h0 r (.object "java/lang/Object") [(.ref x), (.ref b), .null]) (Eb : Exa Z h0 b "java/lang/Integer") (Fb : Fld Z h0 b "java/lang/Integer" "value" "I" (.int kk)) (S : Hst Z h0 x (strf n c0 c1)) (b_n : n = 0 ∨ n = 1 ∨ n = 2) (n0x : n0 ≤ x) (SC : Sta Z Z.heap "java/lang/String" "COMPACT_STRINGS" "Z" (.int z)) (hz : ¬ z = 0)  : G_arrh md l Z n0 r x b kk n c0 c1 z h0 0 0 [x] h0 0 #[.val (.ref r), .unset, .unset, .unset, .unset, .unset] [] := by
  have nrx : r ≠ x := A.neO S.exa (w5 hw)
  have nbx : b ≠ x := ne_exa Eb S.exa (by decide)
  refine Go.aloadN 1 d24_0 rfl rfl rfl ?_
  refine Go.nonnullY 6 d24_1 (by decide) (by decide) ?_
  refine Go.iconst 7 (1 : Int32) d24_6 rfl rfl ?_
  refine Go.istoreN 8 #[.val (.ref r), .val (.int (1 : Int32)), .unset, .unset, .unset, .unset] d24_7 rfl rfl ?_
  refine Go.aloadN 9 d24_8 rfl rfl rfl ?_
  refine Go.astoreN 10 #[.val (.ref r), .val (.int (1 : Int32)), .val (.ref r), .unset, .unset, .unset] d24_9 rfl rfl rfl ?_
  refine Go.aloadN 11 d24_10 rfl rfl rfl ?_
  refine Go.alen 12 (3 : Int32) d24_11 rfl A rfl ?_
  refine Go.istoreN 13 #[.val (.ref r), .val (.int (1 : Int32)), .val (.ref r), .val (.int (3 : Int32)), .unset, .unset] d24_12 rfl rfl ?_
  refine Go.iconst 14 (0 : Int32) d24_13 rfl rfl ?_
  refine Go.istore 16 #[.val (.ref r), .val (.int (1 : Int32)), .val (.ref r), .val (.int (3 : Int32)), .val (.int (0 : Int32)), .unset] d24_14 rfl rfl ?_
  refine Go.iload 18 d24_16 rfl rfl ?_
  refine Go.iloadN 19 d24_18 rfl rfl ?_
  refine Go.icmpN 22 d24_19 rfl (tlt (by decide)).2.1 ?_
  refine Go.aloadN 23 d24_22 rfl rfl rfl ?_
  refine Go.iload 25 d24_23 rfl rfl ?_
  refine Go.aaload 0 26 d24_25 rfl rfl A (by decide) rfl ?_
  refine Go.astore 28 #[.val (.ref r), .val (.int (1 : Int32)), .val (.ref r), .val (.int (3 : Int32)), .val (.int (0 : Int32)), .val (.ref x)] d24_26 rfl rfl rfl ?_
  refine Go.bipush 30 (31 : Int32) d24_28 rfl rfl ?_
  refine Go.iloadN 31 d24_30 rfl rfl ?_
  refine Go.imul 32 d24_31 rfl ?_
  rw [show ((31 : Int32) * (1 : Int32)) = (31 : Int32) from by decide]
  refine Go.aload 34 d24_32 rfl rfl rfl ?_
  refine Go.nonnullY 41 d24_34 (by decide) (by decide) ?_
  refine Go.aload 43 d24_41 rfl rfl rfl ?_
  refine Go.callV (S := [(.int (31 : Int32))]) (a := x) 46 [] d24_43 rfl rfl (w160 hw) (w161 hw) (w163 hw) (w65 hw) (fun _ q => notFace_obj (args := #[]) (mvT q (w175 hw))) (by decide) S.exa (call_of_go (R := _) (len := 3) (W := 1) (plainFor_of_name pn_0) (fun mid => ef_shash mid x n c0 c1 z ) (c_shash hw x n c0 c1 z S b_n n0x SC hz) (w67 hw) (w6 hw) (by decide) (by decide)) (lenOf pd_10 rfl) (Nat.le_of_ble_eq_true rfl) rfl (Nat.le_of_ble_eq_true rfl) (Nat.le_of_ble_eq_true rfl) (fun _ q => q) (fun v h_4 sf_5 hq => ?_)
  obtain ⟨r_1, rfl, K_2, S_3⟩ := hq
  refine Go.more (sf' := [x]) ?_ (Nat.le_refl _) (Nat.le_refl _) (fun _ q => List.mem_append_right _ q)
  show G_arrh md l Z n0 r x b kk n c0 c1 z h0 0 0 [x] h_4 46 #[.val (.ref r), .val (.int (1 : Int32)), .val (.ref r), .val (.int (3 : Int32)), .val (.int (0 : Int32)), .val (.ref x)] [(.int r_1), (.int (31 : Int32))]
  refine Go.iadd 47 d24_46 rfl ?_
  refine Go.istoreN 48 #[.val (.ref r), .val (.int ((31 : Int32) + r_1)), .val (.ref r), .val (.int (3 : Int32)), .val (.int (0 : Int32)), .val (.ref x)] d24_47 rfl rfl ?_
  refine Go.iinc 51 #[.val (.ref r), .val (.int ((31 : Int32) + r_1)), .val (.ref r), .val (.int (3 : Int32)), .val (.int ((0 : Int32) + (1 : Int32))), .val (.ref x)] (1 : Int32) d24_48 rfl rfl rfl rfl ?_
  rw [show ((0 : Int32) + (1 : Int32)) = (1 : Int32) from by decide]
  refine Go.goto 16 d24_51 (by decide) (by decide) ?_
  refine Go.iload 18 d24_16 rfl rfl ?_
  refine Go.iloadN 19 d24_18 rfl rfl ?_
  refine Go.icmpN 22 d24_19 rfl (tlt (by decide)).2.1 ?_
  refine Go.aloadN 23 d24_22 rfl rfl rfl ?_
  refine Go.iload 25 d24_23 rfl rfl ?_
  have f_6 := (Ary.keep K_2 A (ninS nrx nin0))
  refine Go.aaload 1 26 d24_25 rfl rfl f_6 (by decide) rfl ?_
  refine Go.astore 28 #[.val (.ref r), .val (.int ((31 : Int32) + r_1)), .val (.ref r), .val (.int (3 : Int32)), .val (.int (1 : Int32)), .val (.ref b)] d24_26 rfl rfl rfl ?_
  refine Go.bipush 30 (31 : Int32) d24_28 rfl rfl ?_
  refine Go.iloadN 31 d24_30 rfl rfl ?_
  refine Go.imul 32 d24_31 rfl ?_
  refine Go.aload 34 d24_32 rfl rfl rfl ?_
  refine Go.nonnullY 41 d24_34 (by decide) (by decide) ?_
  refine Go.aload 43 d24_41 rfl rfl rfl ?_
  have f_7 := (Fb.keep K_2 (ninS nbx nin0))
  have f_10 := (Eb.keep K_2)
  refine Go.callV (S := [(.int ((31 : Int32) * ((31 : Int32) + r_1)))]) (a := b) 46 [] d24_43 rfl rfl (w160 hw) (w161 hw) (w164 hw) (w165 hw) (fun _ q => notFace_obj (args := #[]) (mvT q (w175 hw))) (by decide) f_10 (call_of_go (R := _) (len := 3) (W := 1) pf_3 (fun mid => ef_ih0 mid b kk ) (c_ih0 hw b kk f_7) (w166 hw) (w147 hw) (by decide) (by decide)) (lenOf pd_10 rfl) (Nat.le_of_ble_eq_true rfl) rfl (Nat.le_of_ble_eq_true rfl) (Nat.le_of_ble_eq_true rfl) (fun _ q => nomatch q) (fun v h_8 sf_9 hq => ?_)
  obtain ⟨rfl, rfl⟩ := hq
  refine Go.more (sf' := [x]) ?_ (Nat.le_refl _) (Nat.le_refl _) (fun _ q => List.mem_append_right _ q)
  show G_arrh md l Z n0 r x b kk n c0 c1 z h0 0 0 [x] h_4 46 #[.val (.ref r), .val (.int ((31 : Int32) + r_1)), .val (.ref r), .val (.int (3 : Int32)), .val (.int (1 : Int32)), .val (.ref b)] [(.int kk), (.int ((31 : Int32) * ((31 : Int32) + r_1)))]
  refine Go.iadd 47 d24_46 rfl ?_
  refine Go.istoreN 48 #[.val (.ref r), .val (.int (((31 : Int32) * ((31 : Int32) + r_1)) + kk)), .val (.ref r), .val (.int (3 : Int32)), .val (.int (1 : Int32)), .val (.ref b)] d24_47 rfl rfl ?_
  refine Go.iinc 51 #[.val (.ref r), .val (.int (((31 : Int32) * ((31 : Int32) + r_1)) + kk)), .val (.ref r), .val (.int (3 : Int32)), .val (.int ((1 : Int32) + (1 : Int32))), .val (.ref b)] (1 : Int32) d24_48 rfl rfl rfl rfl ?_
  rw [show ((1 : Int32) + (1 : Int32)) = (2 : Int32) from by decide]
  refine Go.goto 16 d24_51 (by decide) (by decide) ?_
  refine Go.iload 18 d24_16 rfl rfl ?_
  refine Go.iloadN 19 d24_18 rfl rfl ?_
  refine Go.icmpN 22 d24_19 rfl (tlt (by decide)).2.1 ?_
  refine Go.aloadN 23 d24_22 rfl rfl rfl ?_
  refine Go.iload 25 d24_23 rfl rfl ?_
  refine Go.aaload 2 26 d24_25 rfl rfl f_6 (by decide) rfl ?_
  refine Go.astore 28 #[.val (.ref r), .val (.int (((31 : Int32) * ((31 : Int32) + r_1)) + kk)), .val (.ref r), .val (.int (3 : Int32)), .val (.int (2 : Int32)), .val .null] d24_26 rfl rfl rfl ?_
  refine Go.bipush 30 (31 : Int32) d24_28 rfl rfl ?_
  refine Go.iloadN 31 d24_30 rfl rfl ?_
  refine Go.imul 32 d24_31 rfl ?_
  refine Go.aload 34 d24_32 rfl rfl rfl ?_
  refine Go.nonnullN 37 d24_34 rfl ?_
  refine Go.iconst 38 (0 : Int32) d24_37 rfl rfl ?_
  refine Go.goto 46 d24_38 (by decide) (by decide) ?_
  refine Go.iadd 47 d24_46 rfl ?_
  refine Go.istoreN 48 #[.val (.ref r), .val (.int (((31 : Int32) * (((31 : Int32) * ((31 : Int32) + r_1)) + kk)) + (0 : Int32))), .val (.ref r), .val (.int (3 : Int32)), .val (.int (2 : Int32)), .val .null] d24_47 rfl rfl ?_
  refine Go.iinc 51 #[.val (.ref r), .val (.int (((31 : Int32) * (((31 : Int32) * ((31 : Int32) + r_1)) + kk)) + (0 : Int32))), .val (.ref r), .val (.int (3 : Int32)), .val (.int ((2 : Int32) + (1 : Int32))), .val .null] (1 : Int32) d24_48 rfl rfl rfl rfl ?_
  rw [show ((2 : Int32) + (1 : Int32)) = (3 : Int32) from by decide]
  refine Go.goto 16 d24_51 (by decide) (by decide) ?_
  refine Go.iload 18 d24_16 rfl rfl ?_
  refine Go.iloadN 19 d24_18 rfl rfl ?_
  refine Go.icmpY 54 d24_19 (by decide) (by decide) (flt (by decide)).2.1 ?_
  refine Go.iloadN 55 d24_54 rfl rfl ?_
  exact Go.retI d24_55 rfl (sf' := []) (⟨_, rfl, ((Keep.refl h0 [x]).trans K_2 (allS (Or.inl (List.mem_of_getElem? (i := 0) rfl)) all0))⟩) (fun _ q => nomatch q) (Nat.le_of_ble_eq_true rfl) (Nat.le_of_ble_eq_true rfl)
abbrev G_objh (md : Md) (l : Launch) (Z : State) (n0 : Nat) (r x b : Addr) (kk n c0 c1 z : Int32) (h0 : Heap) := Go md l Z n0 ({ frames := 5, cells := 0, slots := 0, locals := 76 } : Room) jdk_31_method_5_code 1 (some .int) "java/util/Objects" "hash" (fun v h' _ => ∃ r : Int32, v = some (.int r) ∧ Keep h0 h' [x])
theorem ef_objh (mid : MethodId) (r x b : Addr) (kk n c0 c1 z : Int32)  : entryFrame mid #[(.ref r)] 1 = mkF mid 0 #[.val (.ref r)] [] := by first | (simp [entryFrame, mkF, argsToLocals, Value.category]; done) | rfl
set_option maxRecDepth 65536 in
set_option maxHeartbeats 40000000 in
theorem c_objh {md : Md} {l : Launch} {Z : State} {n0 : Nat} {a0 : Array Value} (hw : HW a0 Z) (r x b : Addr) (kk n c0 c1 z : Int32) {h0 : Heap} (A : Ary Z h0 r (.object "java/lang/Object") [(.ref x), (.ref b), .null]) (Eb : Exa Z h0 b "java/lang/Integer") (Fb : Fld Z h0 b "java/lang/Integer" "value" "I" (.int kk)) (S : Hst Z h0 x (strf n c0 c1)) (b_n : n = 0 ∨ n = 1 ∨ n = 2) (n0x : n0 ≤ x) (SC : Sta Z Z.heap "java/lang/String" "COMPACT_STRINGS" "Z" (.int z)) (hz : ¬ z = 0)  : G_objh md l Z n0 r x b kk n c0 c1 z h0 0 0 [x] h0 0 #[.val (.ref r)] [] := by
  have nrx : r ≠ x := A.neO S.exa (w5 hw)
  have nbx : b ≠ x := ne_exa Eb S.exa (by decide)
  refine Go.aloadN 1 d23_0 rfl rfl rfl ?_
  refine Go.callS (S := []) 4 [(.ref r)] d23_1 rfl rfl (w156 hw) (w157 hw) (w158 hw) (w159 hw) (by decide) (call_of_go (R := _) (len := 3) (W := 0) (plainFor_of_name pn_5) (fun mid => ef_arrh mid r x b kk n c0 c1 z ) (c_arrh hw r x b kk n c0 c1 z A Eb Fb S b_n n0x SC hz) (w159 hw) (w158 hw) (by decide) (by decide)) (lenOf pd_12 rfl) (Nat.le_of_ble_eq_true rfl) rfl (Nat.le_of_ble_eq_true rfl) (Nat.le_of_ble_eq_true rfl) (fun _ q => q) (fun v h_3 sf_4 hq => ?_)
  obtain ⟨r_1, rfl, K_2⟩ := hq
  refine Go.more (sf' := [x]) ?_ (Nat.le_refl _) (Nat.le_refl _) (fun _ q => List.mem_append_right _ q)
  show G_objh md l Z n0 r x b kk n c0 c1 z h0 0 0 [x] h_3 4 #[.val (.ref r)] [(.int r_1)]
  exact Go.retI d23_4 rfl (sf' := []) (⟨_, rfl, ((Keep.refl h0 [x]).trans K_2 (allS (Or.inl (List.mem_of_getElem? (i := 0) rfl)) all0))⟩) (fun _ q => nomatch q) (Nat.le_of_ble_eq_true rfl) (Nat.le_of_ble_eq_true rfl)
abbrev G_varinit (md : Md) (l : Launch) (Z : State) (n0 : Nat) (a x ty fn ca : Addr) (kk n c0 c1 z : Int32) (h0 : Heap) := Go md l Z n0 ({ frames := 6, cells := 3, slots := 23, locals := 89 } : Room) prog_61_method_1_code 4 none "com/example/avain/avain/model/Variable" "<init>" (fun v h' _ => v = none ∧ Keep h0 h' [a, x] ∧ Exa Z h' a "com/example/avain/avain/model/Variable")
theorem ef_varinit (mid : MethodId) (a x ty fn ca : Addr) (kk n c0 c1 z : Int32)  : entryFrame mid #[(.ref a), (.ref x), (.ref ty), .null] 4 = mkF mid 0 #[.val (.ref a), .val (.ref x), .val (.ref ty), .val .null] [] := by first | (simp [entryFrame, mkF, argsToLocals, Value.category]; done) | rfl
set_option maxRecDepth 65536 in
set_option maxHeartbeats 40000000 in
theorem c_varinit {l : Launch} {Z : State} {n0 : Nat} {a0 : Array Value} (hw : HW a0 Z) (a x ty fn ca : Addr) (kk n c0 c1 z : Int32) {h0 : Heap} (E : Exa Z h0 a "com/example/avain/avain/model/Variable") (n0a : n0 ≤ a) {u1 : Value} (F1 : Fld Z h0 a "com/example/avain/avain/model/Variable" "name" "Ljava/lang/String;" u1) (Ek : Exa Z h0 ty "com/example/avain/avain/model/Type") (Fo : Fld Z h0 ty "java/lang/Enum" "ordinal" "I" (.int kk)) (S : Hst Z h0 x (strf n c0 c1)) (b_n : n = 0 ∨ n = 1 ∨ n = 2) (n0x : n0 ≤ x) (ZF : Sta Z Z.heap "com/example/avain/avain/model/Type" "FUNCTION" "Lcom/example/avain/avain/model/Type;" (.ref fn)) (hne : ty ≠ fn) (b_k : inK kk) (IHi : Sta Z Z.heap "java/lang/Integer$IntegerCache" "high" "I" (.int 127)) (ICa : Sta Z Z.heap "java/lang/Integer$IntegerCache" "cache" "[Ljava/lang/Integer;" (.ref ca)) (HI : ∀ k, inK k → ∃ (i : Nat) (b : Addr), (k + (128 : Int32)).toInt = (i : Int) ∧ At1 Z Z.heap ca (.object "java/lang/Integer") i (.ref b) ∧ Exa Z Z.heap b "java/lang/Integer" ∧ Fld Z Z.heap b "java/lang/Integer" "value" "I" (.int k)) (SC : Sta Z Z.heap "java/lang/String" "COMPACT_STRINGS" "Z" (.int z)) (hz : ¬ z = 0)  : G_varinit (some consts_1) l Z n0 a x ty fn ca kk n c0 c1 z h0 0 0 [a, x] h0 0 #[.val (.ref a), .val (.ref x), .val (.ref ty), .val .null] [] := by
  have nax : a ≠ x := ne_exa E S.exa (by decide)
  have nxy : ty ≠ x := ne_exa Ek S.exa (by decide)
  have nya : ty ≠ a := ne_exa Ek E (by decide)
  refine Go.aloadN 1 d21_0 rfl rfl rfl ?_
  refine Go.initO (W := 0) 4 d21_1 rfl (w131 hw) (w16 hw) (w17 hw) rfl (by decide) (Nat.le_of_ble_eq_true rfl) (by decide) ?_
  refine Go.aloadN 5 d21_4 rfl rfl rfl ?_
  refine Go.aloadN 6 d21_5 rfl rfl rfl ?_
  refine Go.ldcL (vs := [(.int (110 : Int32)), (.int (97 : Int32)), (.int (109 : Int32)), (.int (101 : Int32))]) (z := (4 : Int32)) 16 8 d21_6 rfl (w132 hw) (wS hw) (List.mem_of_getElem? (i := 2) rfl) ⟨by decide, rfl⟩ (by decide) (by decide) (by decide) (by decide) (Nat.le_of_ble_eq_true rfl) (Nat.le_of_ble_eq_true rfl) (fun h_1 s_2 b_3 k_4 E_5 A_6 C_7 V_8 B_9 ne_10 => ?_)
  have B_11 : Ary Z h_1 b_3 .byte [(.int (110 : Int32)), (.int (97 : Int32)), (.int (109 : Int32)), (.int (101 : Int32))] := Ary.ofArv B_9 rfl (by decide)
  have S_12 : Str Z h_1 s_2 [(110 : Int32), (97 : Int32), (109 : Int32), (101 : Int32)] := ⟨_, A_6, C_7, V_8, B_11, by unfold Lat; decide⟩
  show G_varinit (some consts_1) l Z n0 a x ty fn ca kk n c0 c1 z h0 2 20 [a, x] h_1 8 #[.val (.ref a), .val (.ref x), .val (.ref ty), .val .null] [(.ref s_2), (.ref x), (.ref a)]
  refine Go.callS (S := [(.ref a)]) 11 [(.ref x), (.ref s_2)] d21_8 rfl rfl (w133 hw) (w43 hw) (w44 hw) (w45 hw) (by decide) (call_of_go (R := _) (len := 3) (W := 1) (plainFor_of_name pn_3) (fun mid => ef_rnn mid x s_2 ) (c_rnn hw x s_2 ) (w45 hw) (w44 hw) (by decide) (by decide)) (lenOf pd_9 rfl) (Nat.le_of_ble_eq_true rfl) rfl (Nat.le_of_ble_eq_true rfl) (Nat.le_of_ble_eq_true rfl) (fun _ q => nomatch q) (fun v h_13 sf_14 hq => ?_)
  obtain ⟨rfl, rfl⟩ := hq
  refine Go.more (sf' := [a, x]) ?_ (Nat.le_refl _) (Nat.le_refl _) (fun _ q => List.mem_append_right _ q)
  show G_varinit (some consts_1) l Z n0 a x ty fn ca kk n c0 c1 z h0 2 20 [a, x] h_1 11 #[.val (.ref a), .val (.ref x), .val (.ref ty), .val .null] [(.ref x), (.ref a)]
  have f_15 := S.exa.ext E_5
  refine Go.castY 14 d21_11 rfl (w134 hw) (Ins.self f_15) ?_
  have f_16 := E.ext E_5
  have f_17 := F1.ext E_5
  refine Go.putF 17 (.ref x) d21_14 rfl (w135 hw) Via.refl f_17 f_16 (Or.inr ⟨(w136 hw), rfl, rfl⟩) (w127 hw) (ty := (.object "java/lang/String")) (by decide) rfl rfl (List.mem_of_getElem? (i := 0) rfl) n0a (fun h_18 W_19 => ?_)
  refine Go.aloadN 18 d21_17 rfl rfl rfl ?_
  refine Go.aloadN 19 d21_18 rfl rfl rfl ?_
  have f_20 := (f_16.wr W_19)
  obtain ⟨o_21, fo_22⟩ := Fld.any (f_17.same W_19) f_20 (w127 hw) (Or.inr (w138 hw))
  refine Go.putF 22 (.ref ty) d21_19 rfl (w137 hw) Via.refl fo_22 f_20 (Or.inr ⟨(w138 hw), rfl, rfl⟩) (w127 hw) (ty := (.object "com/example/avain/avain/model/Type")) (by decide) rfl rfl (List.mem_of_getElem? (i := 0) rfl) n0a (fun h_23 W_24 => ?_)
  refine Go.aloadN 23 d21_22 rfl rfl rfl ?_
  refine Go.aloadN 24 d21_23 rfl rfl rfl ?_
  have f_25 := (f_20.wr W_24)
  obtain ⟨o_26, fo_27⟩ := Fld.any (fo_22.same W_24) f_25 (w127 hw) (Or.inr (w140 hw))
  refine Go.putF 27 .null d21_24 rfl (w139 hw) Via.refl fo_27 f_25 (Or.inr ⟨(w140 hw), rfl, rfl⟩) (w127 hw) (ty := (.object "com/example/avain/avain/model/Term")) (by decide) rfl rfl (List.mem_of_getElem? (i := 0) rfl) n0a (fun h_28 W_29 => ?_)
  refine Go.aloadN 28 d21_27 rfl rfl rfl ?_
  refine Go.iconst 29 (3 : Int32) d21_28 rfl rfl ?_
  have f_30 := (Hst.wrO (Hst.wrO (Hst.wrO (S.ext E_5) f_16 (by decide) (w127 hw) W_19) f_20 (by decide) (w127 hw) W_24) f_25 (by decide) (w127 hw) W_29)
  have f_31 := (((f_15.wr W_19).wr W_24).wr W_29)
  have f_32 := ((((Ek.ext E_5).wr W_19).wr W_24).wr W_29)
  have f_33 := ((((Fo.ext E_5).other W_19 (Or.inl nya)).other W_24 (Or.inl nya)).other W_29 (Or.inl nya))
  have f_34 := (f_25.wr W_29)
  refine Go.newR 3 32 d21_29 rfl (w141 hw) (w142 hw) (by decide) 3 (Nat.le_refl _) (by decide) (Nat.le_of_ble_eq_true rfl) (Nat.le_of_ble_eq_true rfl) (fun h_35 r_36 g_37 q_38 E_39 lt_40 A_41 O_42 => ?_)
  have nar : a ≠ r_36 := Nat.ne_of_lt (Nat.lt_of_lt_of_le f_34.lt (Nat.le_of_eq g_37))
  have A_43 : Ary Z h_35 r_36 (.object "java/lang/Object") [.null, .null, .null] := A_41
  show G_varinit (some consts_1) l Z n0 a x ty fn ca kk n c0 c1 z h0 3 23 [r_36, a, x] h_35 32 #[.val (.ref a), .val (.ref x), .val (.ref ty), .val .null] [(.ref r_36), (.ref a)]
  refine Go.dup 33 d21_32 rfl rfl ?_
  refine Go.iconst 34 (0 : Int32) d21_33 rfl rfl ?_
  refine Go.aloadN 35 d21_34 rfl rfl rfl ?_
  have f_48 := f_31.ext E_39
  refine Go.aastore 0 36 d21_35 rfl A_43 (by decide) (Nat.le_of_ble_eq_true rfl) (sto_of A_43 O_42 (Ins.of_exa f_48 (w143 hw))) rfl (List.mem_of_getElem? (i := 0) rfl) q_38 (fun h_44 W_45 A_46 => ?_)
  have A_47 : Ary Z h_44 r_36 (.object "java/lang/Object") [(.ref x), .null, .null] := A_46
  refine Go.dup 37 d21_36 rfl rfl ?_
  refine Go.iconst 38 (1 : Int32) d21_37 rfl rfl ?_
  refine Go.aloadN 39 d21_38 rfl rfl rfl ?_
  refine Go.nonnullY 46 d21_39 (by decide) (by decide) ?_
  refine Go.aloadN 47 d21_46 rfl rfl rfl ?_
  have X_49 : Ext h_28 h_44 := extW E_39 W_45 (Nat.le_of_eq g_37)
  have f_50 := f_33.ext X_49
  have f_53 := f_32.ext X_49
  refine Go.callU (S := [(.int (1 : Int32)), (.ref r_36), (.ref r_36), (.ref a)]) (a := ty) (owner := "java/lang/Enum") 50 [] d21_47 rfl rfl (w144 hw) (w55 hw) (w56 hw) (w58 hw) (w57 hw) (by decide) f_53 (call_of_go (R := _) (len := 3) (W := 4) (plainFor_of_name pn_4) (fun mid => ef_ord mid ty kk ) (c_ord hw ty kk f_50) (w60 hw) (w59 hw) (by decide) (by decide)) (lenOf pd_10 rfl) (Nat.le_of_ble_eq_true rfl) rfl (Nat.le_of_ble_eq_true rfl) (Nat.le_of_ble_eq_true rfl) (fun _ q => nomatch q) (fun v h_51 sf_52 hq => ?_)
  obtain ⟨rfl, rfl⟩ := hq
  refine Go.more (sf' := [r_36, a, x]) ?_ (Nat.le_refl _) (Nat.le_refl _) (fun _ q => List.mem_append_right _ q)
  show G_varinit (some consts_1) l Z n0 a x ty fn ca kk n c0 c1 z h0 3 23 [r_36, a, x] h_44 50 #[.val (.ref a), .val (.ref x), .val (.ref ty), .val .null] [(.int kk), (.int (1 : Int32)), (.ref r_36), (.ref r_36), (.ref a)]
  obtain ⟨ix, bi, hix, Ax, Ex, Fx⟩ := HI kk b_k
  refine Go.old fun o_54 _ => ?_
  refine Go.callS (S := [(.int (1 : Int32)), (.ref r_36), (.ref r_36), (.ref a)]) 53 [(.int kk)] d21_50 rfl rfl (w145 hw) (w146 hw) (w147 hw) (w148 hw) (by decide) (call_of_go (R := _) (len := 3) (W := 4) pf_4 (fun mid => ef_vof mid kk ca bi ix ) (c_vof hw kk ca bi ix hix (Ax.ext o_54.2) b_k IHi ICa) (w148 hw) (w147 hw) (by decide) (by decide)) (lenOf pd_13 rfl) (Nat.le_of_ble_eq_true rfl) rfl (Nat.le_of_ble_eq_true rfl) (Nat.le_of_ble_eq_true rfl) (fun _ q => nomatch q) (fun v h_55 sf_56 hq => ?_)
  obtain ⟨rfl, rfl⟩ := hq
  refine Go.more (sf' := [r_36, a, x]) ?_ (Nat.le_refl _) (Nat.le_refl _) (fun _ q => List.mem_append_right _ q)
  show G_varinit (some consts_1) l Z n0 a x ty fn ca kk n c0 c1 z h0 3 23 [r_36, a, x] h_44 53 #[.val (.ref a), .val (.ref x), .val (.ref ty), .val .null] [(.ref bi), (.int (1 : Int32)), (.ref r_36), (.ref r_36), (.ref a)]
  have nbr : bi ≠ r_36 := by have q1 := Ex.lt; rw [o_54.1] at q1; exact Nat.ne_of_lt (Nat.lt_of_lt_of_le q1 q_38)
  have f_57 := (O_42.wr W_45)
  refine Go.aastore 1 54 d21_53 rfl A_47 (by decide) (Nat.le_of_ble_eq_true rfl) (sto_of A_47 f_57 (Ins.of_exa (Ex.ext o_54.2) (w152 hw))) rfl (List.mem_of_getElem? (i := 0) rfl) q_38 (fun h_58 W_59 A_60 => ?_)
  have A_61 : Ary Z h_58 r_36 (.object "java/lang/Object") [(.ref x), (.ref bi), .null] := A_60
  refine Go.dup 55 d21_54 rfl rfl ?_
  refine Go.iconst 56 (2 : Int32) d21_55 rfl rfl ?_
  refine Go.aloadN 57 d21_56 rfl rfl rfl ?_
  have f_62 := (f_57.wr W_59)
  refine Go.aastore 2 58 d21_57 rfl A_61 (by decide) (Nat.le_of_ble_eq_true rfl) (Or.inl rfl) rfl (List.mem_of_getElem? (i := 0) rfl) q_38 (fun h_63 W_64 A_65 => ?_)
  have A_66 : Ary Z h_63 r_36 (.object "java/lang/Object") [(.ref x), (.ref bi), .null] := A_65
  have f_69 := (((Ex.ext o_54.2).wr W_59).wr W_64)
  have f_70 := (((Fx.ext o_54.2).other W_59 (Or.inl nbr)).other W_64 (Or.inl nbr))
  have X_71 : Ext h_28 h_58 := extW X_49 W_59 (Nat.le_of_eq g_37)
  have X_72 : Ext h_28 h_63 := extW X_71 W_64 (Nat.le_of_eq g_37)
  have f_73 := f_30.ext X_72
  refine Go.callS (S := [(.ref a)]) 61 [(.ref r_36)] d21_58 rfl rfl (w153 hw) (w154 hw) (w44 hw) (w155 hw) (by decide) (call_of_go (R := _) (len := 3) (W := 1) (plainFor_of_name pn_3) (fun mid => ef_objh mid r_36 x bi kk n c0 c1 z ) (c_objh hw r_36 x bi kk n c0 c1 z A_66 f_69 f_70 f_73 b_n n0x SC hz) (w155 hw) (w44 hw) (by decide) (by decide)) (lenOf pd_12 rfl) (Nat.le_of_ble_eq_true rfl) rfl (Nat.le_of_ble_eq_true rfl) (Nat.le_of_ble_eq_true rfl) (sub1 (List.mem_of_getElem? (i := 2) rfl)) (fun v h_74 sf_75 hq => ?_)
  obtain ⟨r_67, rfl, K_68⟩ := hq
  refine Go.more (sf' := [r_36, a, x]) ?_ (Nat.le_refl _) (Nat.le_refl _) (fun _ q => List.mem_append_right _ q)
  show G_varinit (some consts_1) l Z n0 a x ty fn ca kk n c0 c1 z h0 3 23 [r_36, a, x] h_74 61 #[.val (.ref a), .val (.ref x), .val (.ref ty), .val .null] [(.int r_67), (.ref a)]
  have f_76 := (((((f_34.ext E_39).wr W_45).wr W_59).wr W_64).keep K_68)
  have f_77 := ((((((fo_27.same W_29).ext E_39).other W_45 (Or.inl nar)).other W_59 (Or.inl nar)).other W_64 (Or.inl nar)).keep K_68 (ninS nax nin0))
  obtain ⟨o_78, fo_79⟩ := Fld.any f_77 f_76 (w127 hw) (Or.inr (w173 hw))
  refine Go.putF 64 (.int r_67) d21_61 rfl (w172 hw) Via.refl fo_79 f_76 (Or.inr ⟨(w173 hw), rfl, rfl⟩) (w127 hw) (ty := .int) (by decide) rfl rfl (List.mem_of_getElem? (i := 1) rfl) n0a (fun h_80 W_81 => ?_)
  have f_82 := (f_76.wr W_81)
  exact Go.ret0 d21_64 rfl (sf' := []) (⟨rfl, (((((((((((Keep.refl h0 [a, x]).ext E_5).wr W_19 (Or.inl (List.mem_of_getElem? (i := 0) rfl))).wr W_24 (Or.inl (List.mem_of_getElem? (i := 0) rfl))).wr W_29 (Or.inl (List.mem_of_getElem? (i := 0) rfl))).ext E_39).wr W_45 (Or.inr (Nat.le_trans (((((Keep.refl h0 [a, x]).ext E_5).wr W_19 (Or.inl (List.mem_of_getElem? (i := 0) rfl))).wr W_24 (Or.inl (List.mem_of_getElem? (i := 0) rfl))).wr W_29 (Or.inl (List.mem_of_getElem? (i := 0) rfl))).1 (Nat.le_of_eq g_37)))).wr W_59 (Or.inr (Nat.le_trans (((((Keep.refl h0 [a, x]).ext E_5).wr W_19 (Or.inl (List.mem_of_getElem? (i := 0) rfl))).wr W_24 (Or.inl (List.mem_of_getElem? (i := 0) rfl))).wr W_29 (Or.inl (List.mem_of_getElem? (i := 0) rfl))).1 (Nat.le_of_eq g_37)))).wr W_64 (Or.inr (Nat.le_trans (((((Keep.refl h0 [a, x]).ext E_5).wr W_19 (Or.inl (List.mem_of_getElem? (i := 0) rfl))).wr W_24 (Or.inl (List.mem_of_getElem? (i := 0) rfl))).wr W_29 (Or.inl (List.mem_of_getElem? (i := 0) rfl))).1 (Nat.le_of_eq g_37)))).trans K_68 (allS (Or.inl (List.mem_of_getElem? (i := 1) rfl)) all0)).wr W_81 (Or.inl (List.mem_of_getElem? (i := 0) rfl))), f_82⟩) (fun _ q => nomatch q) (Nat.le_of_ble_eq_true rfl) (Nat.le_of_ble_eq_true rfl)
abbrev G_varof (md : Md) (l : Launch) (Z : State) (n0 : Nat) (x ty fn ca : Addr) (kk n c0 c1 z : Int32) (h0 : Heap) := Go md l Z n0 ({ frames := 7, cells := 4, slots := 27, locals := 105 } : Room) prog_61_method_2_code 2 (some (.object "com/example/avain/avain/model/Variable")) "com/example/avain/avain/model/Variable" "of" (fun v h' _ => ∃ y, v = some (.ref y) ∧ Keep h0 h' [x] ∧ Exa Z h' y "com/example/avain/avain/model/Variable")
theorem ef_varof (mid : MethodId) (x ty fn ca : Addr) (kk n c0 c1 z : Int32)  : entryFrame mid #[(.ref x), (.ref ty)] 2 = mkF mid 0 #[.val (.ref x), .val (.ref ty)] [] := by first | (simp [entryFrame, mkF, argsToLocals, Value.category]; done) | rfl
set_option maxRecDepth 65536 in
set_option maxHeartbeats 40000000 in
theorem c_varof {l : Launch} {Z : State} {n0 : Nat} {a0 : Array Value} (hw : HW a0 Z) (x ty fn ca : Addr) (kk n c0 c1 z : Int32) {h0 : Heap} (Ek : Exa Z h0 ty "com/example/avain/avain/model/Type") (Fo : Fld Z h0 ty "java/lang/Enum" "ordinal" "I" (.int kk)) (S : Hst Z h0 x (strf n c0 c1)) (b_n : n = 0 ∨ n = 1 ∨ n = 2) (n0x : n0 ≤ x) (ZF : Sta Z Z.heap "com/example/avain/avain/model/Type" "FUNCTION" "Lcom/example/avain/avain/model/Type;" (.ref fn)) (hne : ty ≠ fn) (b_k : inK kk) (IHi : Sta Z Z.heap "java/lang/Integer$IntegerCache" "high" "I" (.int 127)) (ICa : Sta Z Z.heap "java/lang/Integer$IntegerCache" "cache" "[Ljava/lang/Integer;" (.ref ca)) (HI : ∀ k, inK k → ∃ (i : Nat) (b : Addr), (k + (128 : Int32)).toInt = (i : Int) ∧ At1 Z Z.heap ca (.object "java/lang/Integer") i (.ref b) ∧ Exa Z Z.heap b "java/lang/Integer" ∧ Fld Z Z.heap b "java/lang/Integer" "value" "I" (.int k)) (SC : Sta Z Z.heap "java/lang/String" "COMPACT_STRINGS" "Z" (.int z)) (hz : ¬ z = 0)  : G_varof (some consts_1) l Z n0 x ty fn ca kk n c0 c1 z h0 0 0 [x] h0 0 #[.val (.ref x), .val (.ref ty)] [] := by
  have nxy : ty ≠ x := ne_exa Ek S.exa (by decide)
  refine Go.aloadN 1 d20_0 rfl rfl rfl ?_
  refine Go.nullN 4 d20_1 rfl ?_
  refine Go.aloadN 5 d20_4 rfl rfl rfl ?_
  refine Go.getS 8 d20_5 rfl (w125 hw) Via.refl ZF ?_
  refine Go.acmpY 25 d20_8 (by decide) (by decide) rfl rfl (by rw [decide_eq_false (fun q => hne (Value.ref.inj q))]; rfl) ?_
  refine Go.new 28 d20_25 rfl (w126 hw) (w127 hw) (w123 hw) (Nat.le_of_ble_eq_true rfl) (Nat.le_of_ble_eq_true rfl) (fun h_1 x_2 g_3 q_4 E_5 lt_6 A_7 D_8 => ?_)
  show G_varof (some consts_1) l Z n0 x ty fn ca kk n c0 c1 z h0 1 4 [x_2, x] h_1 28 #[.val (.ref x), .val (.ref ty)] [(.ref x_2)]
  refine Go.dup 29 d20_28 rfl rfl ?_
  refine Go.aloadN 30 d20_29 rfl rfl rfl ?_
  refine Go.aloadN 31 d20_30 rfl rfl rfl ?_
  refine Go.aconstNull 32 d20_31 rfl ?_
  have f_9 := Ek.ext E_5
  have f_10 := Fo.ext E_5
  have f_11 := S.ext E_5
  refine Go.callC (S := [(.ref x_2)]) (a := x_2) 35 [(.ref x), (.ref ty), .null] d20_32 rfl rfl rfl (w128 hw) (w129 hw) (w130 hw) (by decide) (call_of_go (R := _) (len := 3) (W := 1) (plainFor_of_name pn_6) (fun mid => ef_varinit mid x_2 x ty fn ca kk n c0 c1 z ) (c_varinit hw x_2 x ty fn ca kk n c0 c1 z A_7 q_4 (D_8 (Or.inr (w136 hw)) (ty := (.object "java/lang/String")) (by decide)) f_9 f_10 f_11 b_n n0x ZF hne b_k IHi ICa HI SC hz) (w130 hw) (w123 hw) (by decide) (by decide)) (lenOf pd_14 rfl) (Nat.le_of_ble_eq_true rfl) rfl (Nat.le_of_ble_eq_true rfl) (Nat.le_of_ble_eq_true rfl) (fun _ q => q) (fun v h2 sf_12 hq => ?_)
  obtain ⟨rfl, K2, E2⟩ := hq
  refine Go.more (sf' := [x_2, x]) ?_ (Nat.le_refl _) (Nat.le_refl _) (fun _ q => List.mem_append_right _ q)
  show G_varof (some consts_1) l Z n0 x ty fn ca kk n c0 c1 z h0 4 27 [x_2, x] h2 35 #[.val (.ref x), .val (.ref ty)] [(.ref x_2)]
  exact Go.retA d20_35 rfl rfl rfl (sf' := []) (⟨_, rfl, (((Keep.refl h0 [x]).ext E_5).trans K2 (allS (Or.inr (Nat.le_of_eq g_3)) (allS (Or.inl (List.mem_of_getElem? (i := 0) rfl)) all0))), E2⟩) (fun _ q => nomatch q) (Nat.le_of_ble_eq_true rfl) (Nat.le_of_ble_eq_true rfl)
abbrev G_typeof (md : Md) (l : Launch) (Z : State) (n0 : Nat) (k : Int32) (a0 a1 a2 : Addr) (h0 : Heap) := Go md l Z n0 ({ frames := 0, cells := 0, slots := 0, locals := 0 } : Room) method_2_code 1 (some (.object "com/example/avain/avain/model/Type")) "com/example/avain/avain/model/AtomEqualsPinLaw" "typeOf" (fun v h' _ => h0 = h' ∧ v = some (.ref (kf a0 a1 a2 k)))
theorem ef_typeof (mid : MethodId) (k : Int32) (a0 a1 a2 : Addr)  : entryFrame mid #[(.int k)] 1 = mkF mid 0 #[.val (.int k)] [] := by first | (simp [entryFrame, mkF, argsToLocals, Value.category]; done) | rfl
set_option maxRecDepth 65536 in
set_option maxHeartbeats 40000000 in
theorem c_typeof {md : Md} {l : Launch} {Z : State} {n0 : Nat} {a0 : Array Value} (hw : HW a0 Z) (k : Int32) (a0 a1 a2 : Addr) {h0 : Heap} (Z0 : Sta Z Z.heap "com/example/avain/avain/model/Type" "AGENT" "Lcom/example/avain/avain/model/Type;" (.ref a0)) (Z1 : Sta Z Z.heap "com/example/avain/avain/model/Type" "NUMBER" "Lcom/example/avain/avain/model/Type;" (.ref a1)) (Z2 : Sta Z Z.heap "com/example/avain/avain/model/Type" "SYMMETRIC_KEY" "Lcom/example/avain/avain/model/Type;" (.ref a2)) : G_typeof md l Z n0 k a0 a1 a2 h0 0 0 [] h0 0 #[.val (.int k)] [] := by
  refine Go.iloadN 1 d5_0 rfl rfl ?_
  by_cases hc1 : k = (0 : Int32)
  · skip
    refine Go.ifN 4 d5_1 rfl (teq hc1).2 ?_
    refine Go.getS 7 d5_4 rfl (w32 hw) Via.refl Z0 ?_
    exact Go.retA d5_7 rfl rfl rfl (sf' := []) (⟨rfl, by rw [kf, if_pos hc1]⟩) (fun _ q => nomatch q) (Nat.le_of_ble_eq_true rfl) (Nat.le_of_ble_eq_true rfl)
  · skip
    refine Go.ifY 8 d5_1 (by decide) (by decide) (feq hc1).2 ?_
    refine Go.iloadN 9 d5_8 rfl rfl ?_
    refine Go.iconst 10 (1 : Int32) d5_9 rfl rfl ?_
    by_cases hc10 : k = (1 : Int32)
    · skip
      refine Go.icmpN 13 d5_10 rfl (teq hc10).2 ?_
      refine Go.getS 16 d5_13 rfl (w100 hw) Via.refl Z1 ?_
      exact Go.retA d5_16 rfl rfl rfl (sf' := []) (⟨rfl, by rw [kf, if_neg hc1, if_pos hc10]⟩) (fun _ q => nomatch q) (Nat.le_of_ble_eq_true rfl) (Nat.le_of_ble_eq_true rfl)
    · skip
      refine Go.icmpY 17 d5_10 (by decide) (by decide) (feq hc10).2 ?_
      refine Go.getS 20 d5_17 rfl (w177 hw) Via.refl Z2 ?_
      exact Go.retA d5_20 rfl rfl rfl (sf' := []) (⟨rfl, by rw [kf, if_neg hc1, if_neg hc10]⟩) (fun _ q => nomatch q) (Nat.le_of_ble_eq_true rfl) (Nat.le_of_ble_eq_true rfl)
abbrev G_aeqnull (md : Md) (l : Launch) (Z : State) (n0 : Nat) (a : Addr) (h0 : Heap) := Go md l Z n0 ({ frames := 0, cells := 0, slots := 0, locals := 0 } : Room) prog_44_method_10_code 3 (some .boolean) "com/example/avain/avain/model/Atom" "equals" (fun v h' _ => h0 = h' ∧ v = some (.int 0))
theorem ef_aeqnull (mid : MethodId) (a : Addr)  : entryFrame mid #[(.ref a), .null] 3 = mkF mid 0 #[.val (.ref a), .val .null, .unset] [] := by first | (simp [entryFrame, mkF, argsToLocals, Value.category]; done) | rfl
set_option maxRecDepth 65536 in
set_option maxHeartbeats 40000000 in
theorem c_aeqnull {md : Md} {l : Launch} {Z : State} {n0 : Nat} {a0 : Array Value} (hw : HW a0 Z) (a : Addr) {h0 : Heap}  : G_aeqnull md l Z n0 a h0 0 0 [] h0 0 #[.val (.ref a), .val .null, .unset] [] := by
  refine Go.aloadN 1 d12_0 rfl rfl rfl ?_
  refine Go.instNull 4 d12_1 rfl ?_
  refine Go.ifN 7 d12_4 rfl (teq (by decide)).2 ?_
  refine Go.iconst 8 (0 : Int32) d12_7 rfl rfl ?_
  exact Go.retN (0 : Int32) d12_8 rfl (t := .boolean) (by simp) rfl (sf' := []) (⟨rfl, rfl⟩) (fun _ q => nomatch q) (Nat.le_of_ble_eq_true rfl) (Nat.le_of_ble_eq_true rfl)
abbrev G_aeq0 (md : Md) (l : Launch) (Z : State) (n0 : Nat) (a y : Addr) (h0 : Heap) := Go md l Z n0 ({ frames := 0, cells := 0, slots := 0, locals := 0 } : Room) prog_44_method_10_code 3 (some .boolean) "com/example/avain/avain/model/Atom" "equals" (fun v h' _ => h0 = h' ∧ v = some (.int 0))
theorem ef_aeq0 (mid : MethodId) (a y : Addr)  : entryFrame mid #[(.ref a), (.ref y)] 3 = mkF mid 0 #[.val (.ref a), .val (.ref y), .unset] [] := by first | (simp [entryFrame, mkF, argsToLocals, Value.category]; done) | rfl
set_option maxRecDepth 65536 in
set_option maxHeartbeats 40000000 in
theorem c_aeq0 {md : Md} {l : Launch} {Z : State} {n0 : Nat} {a0 : Array Value} (hw : HW a0 Z) (a y : Addr) {h0 : Heap} (Ey : Exa Z h0 y "java/lang/String") : G_aeq0 md l Z n0 a y h0 0 0 [] h0 0 #[.val (.ref a), .val (.ref y), .unset] [] := by
  refine Go.aloadN 1 d12_0 rfl rfl rfl ?_
  refine Go.instNo 4 d12_1 rfl (w89 hw) Ey (no_sub (w176 hw) (w175 hw) (w27 hw) (by decide) (by decide)) ?_
  refine Go.ifN 7 d12_4 rfl (teq (by decide)).2 ?_
  refine Go.iconst 8 (0 : Int32) d12_7 rfl rfl ?_
  exact Go.retN (0 : Int32) d12_8 rfl (t := .boolean) (by simp) rfl (sf' := []) (⟨rfl, rfl⟩) (fun _ q => nomatch q) (Nat.le_of_ble_eq_true rfl) (Nat.le_of_ble_eq_true rfl)
abbrev G_aeq1 (md : Md) (l : Launch) (Z : State) (n0 : Nat) (a y : Addr) (h0 : Heap) := Go md l Z n0 ({ frames := 0, cells := 0, slots := 0, locals := 0 } : Room) prog_44_method_10_code 3 (some .boolean) "com/example/avain/avain/model/Atom" "equals" (fun v h' _ => h0 = h' ∧ v = some (.int 0))
theorem ef_aeq1 (mid : MethodId) (a y : Addr)  : entryFrame mid #[(.ref a), (.ref y)] 3 = mkF mid 0 #[.val (.ref a), .val (.ref y), .unset] [] := by first | (simp [entryFrame, mkF, argsToLocals, Value.category]; done) | rfl
set_option maxRecDepth 65536 in
set_option maxHeartbeats 40000000 in
theorem c_aeq1 {md : Md} {l : Launch} {Z : State} {n0 : Nat} {a0 : Array Value} (hw : HW a0 Z) (a y : Addr) {h0 : Heap} (Ey : Exa Z h0 y "com/example/avain/avain/model/Variable") : G_aeq1 md l Z n0 a y h0 0 0 [] h0 0 #[.val (.ref a), .val (.ref y), .unset] [] := by
  refine Go.aloadN 1 d12_0 rfl rfl rfl ?_
  refine Go.instNo 4 d12_1 rfl (w89 hw) Ey (no_sub (w174 hw) (w175 hw) (w27 hw) (by decide) (by decide)) ?_
  refine Go.ifN 7 d12_4 rfl (teq (by decide)).2 ?_
  refine Go.iconst 8 (0 : Int32) d12_7 rfl rfl ?_
  exact Go.retN (0 : Int32) d12_8 rfl (t := .boolean) (by simp) rfl (sf' := []) (⟨rfl, rfl⟩) (fun _ q => nomatch q) (Nat.le_of_ble_eq_true rfl) (Nat.le_of_ble_eq_true rfl)
abbrev G_aeq (md : Md) (l : Launch) (Z : State) (n0 : Nat) (a b kd1 kd2 x1 x2 : Addr) (cs ds : List Int32) (z : Int32) (h0 : Heap) := Go md l Z n0 ({ frames := 2, cells := 0, slots := 0, locals := 28 } : Room) prog_44_method_10_code 3 (some .boolean) "com/example/avain/avain/model/Atom" "equals" (fun v h' _ => h0 = h' ∧ ∃ r : Int32, v = some (.int r) ∧ ((r = 1 ∧ (kd1 = kd2 ∧ cs = ds)) ∨ (r = 0 ∧ ¬ (kd1 = kd2 ∧ cs = ds))))
theorem ef_aeq (mid : MethodId) (a b kd1 kd2 x1 x2 : Addr) (cs ds : List Int32) (z : Int32)  : entryFrame mid #[(.ref a), (.ref b)] 3 = mkF mid 0 #[.val (.ref a), .val (.ref b), .unset] [] := by first | (simp [entryFrame, mkF, argsToLocals, Value.category]; done) | rfl
set_option maxRecDepth 65536 in
set_option maxHeartbeats 40000000 in
theorem c_aeq {md : Md} {l : Launch} {Z : State} {n0 : Nat} {a0 : Array Value} (hw : HW a0 Z) (a b kd1 kd2 x1 x2 : Addr) (cs ds : List Int32) (z : Int32) {h0 : Heap} (Fk1 : Fld Z h0 a "com/example/avain/avain/model/Atom" "type" "Lcom/example/avain/avain/model/Type;" (.ref kd1)) (Ft1 : Fld Z h0 a "com/example/avain/avain/model/Atom" "text" "Ljava/lang/String;" (.ref x1)) (Fk2 : Fld Z h0 b "com/example/avain/avain/model/Atom" "type" "Lcom/example/avain/avain/model/Type;" (.ref kd2)) (Ft2 : Fld Z h0 b "com/example/avain/avain/model/Atom" "text" "Ljava/lang/String;" (.ref x2)) (Eb : Exa Z h0 b "com/example/avain/avain/model/Atom") (S1 : Str Z h0 x1 cs) (S2 : Str Z h0 x2 ds) (l_cs : cs.length ≤ 4000) (l_ds : ds.length ≤ 4000) (SC : Sta Z Z.heap "java/lang/String" "COMPACT_STRINGS" "Z" (.int z)) (hz : ¬ z = 0)  : G_aeq md l Z n0 a b kd1 kd2 x1 x2 cs ds z h0 0 0 [] h0 0 #[.val (.ref a), .val (.ref b), .unset] [] := by
  refine Go.aloadN 1 d12_0 rfl rfl rfl ?_
  refine Go.instY 4 d12_1 rfl (w89 hw) (Ins.self Eb) ?_
  refine Go.ifY 9 d12_4 (by decide) (by decide) (feq (by decide)).2 ?_
  refine Go.aloadN 10 d12_9 rfl rfl rfl ?_
  refine Go.castY 13 d12_10 rfl (w89 hw) (Ins.self Eb) ?_
  refine Go.astoreN 14 #[.val (.ref a), .val (.ref b), .val (.ref b)] d12_13 rfl rfl rfl ?_
  refine Go.aloadN 15 d12_14 rfl rfl rfl ?_
  refine Go.getF 18 d12_15 rfl (w48 hw) Via.refl Fk1 ?_
  refine Go.aloadN 19 d12_18 rfl rfl rfl ?_
  refine Go.getF 22 d12_19 rfl (w48 hw) Via.refl Fk2 ?_
  by_cases hc22 : kd1 = kd2
  · skip
    refine Go.acmpN 25 d12_22 (by decide) rfl rfl rfl (by rw [decide_eq_true (congrArg Value.ref hc22)]; rfl) ?_
    refine Go.aloadN 26 d12_25 rfl rfl rfl ?_
    refine Go.getF 29 d12_26 rfl (w52 hw) Via.refl Ft1 ?_
    refine Go.aloadN 30 d12_29 rfl rfl rfl ?_
    refine Go.getF 33 d12_30 rfl (w52 hw) Via.refl Ft2 ?_
    refine Go.old fun o_1 _ => ?_
    refine Go.callV (S := []) (a := x1) 36 [(.ref x2)] d12_33 rfl rfl (w91 hw) (w92 hw) (w94 hw) (w93 hw) (fun _ q => notFace_of_selects (args := #[]) (mvT q (w94 hw))) (by decide) S1.exa (strEq (W := 0) (heq hw) (w5 hw) S1 S2 l_cs l_ds o_1 SC hz (by decide) (by decide)) (lenOf pd_15 rfl) (Nat.le_of_ble_eq_true rfl) rfl (Nat.le_of_ble_eq_true rfl) (Nat.le_of_ble_eq_true rfl) (fun _ q => q) (fun v h_2 sf_3 hq => ?_)
    obtain ⟨rfl, ⟨rfl, q_33⟩ | ⟨rfl, q_33⟩⟩ := hq
    · skip
      refine Go.more (sf' := []) ?_ (Nat.le_refl _) (Nat.le_refl _) (fun _ q => List.mem_append_right _ q)
      show G_aeq md l Z n0 a b kd1 kd2 x1 x2 cs ds z h0 0 0 [] h0 36 #[.val (.ref a), .val (.ref b), .val (.ref b)] [(.int (1 : Int32))]
      refine Go.ifN 39 d12_36 rfl (feq (by decide)).1 ?_
      refine Go.iconst 40 (1 : Int32) d12_39 rfl rfl ?_
      refine Go.goto 44 d12_40 (by decide) (by decide) ?_
      exact Go.retN (1 : Int32) d12_44 rfl (t := .boolean) (by simp) rfl (sf' := []) (⟨rfl, _, rfl, Or.inl ⟨rfl, hc22, q_33⟩⟩) (fun _ q => nomatch q) (Nat.le_of_ble_eq_true rfl) (Nat.le_of_ble_eq_true rfl)
    · skip
      refine Go.more (sf' := []) ?_ (Nat.le_refl _) (Nat.le_refl _) (fun _ q => List.mem_append_right _ q)
      show G_aeq md l Z n0 a b kd1 kd2 x1 x2 cs ds z h0 0 0 [] h0 36 #[.val (.ref a), .val (.ref b), .val (.ref b)] [(.int (0 : Int32))]
      refine Go.ifY 43 d12_36 (by decide) (by decide) (teq (by decide)).1 ?_
      refine Go.iconst 44 (0 : Int32) d12_43 rfl rfl ?_
      exact Go.retN (0 : Int32) d12_44 rfl (t := .boolean) (by simp) rfl (sf' := []) (⟨rfl, _, rfl, Or.inr ⟨rfl, fun q => q_33 q.2⟩⟩) (fun _ q => nomatch q) (Nat.le_of_ble_eq_true rfl) (Nat.le_of_ble_eq_true rfl)
  · skip
    refine Go.acmpY 43 d12_22 (by decide) (by decide) rfl rfl (by rw [decide_eq_false (fun q => hc22 (Value.ref.inj q))]; rfl) ?_
    refine Go.iconst 44 (0 : Int32) d12_43 rfl rfl ?_
    exact Go.retN (0 : Int32) d12_44 rfl (t := .boolean) (by simp) rfl (sf' := []) (⟨rfl, _, rfl, Or.inr ⟨rfl, fun q => hc22 q.1⟩⟩) (fun _ q => nomatch q) (Nat.le_of_ble_eq_true rfl) (Nat.le_of_ble_eq_true rfl)
abbrev G_aeqs (md : Md) (l : Launch) (Z : State) (n0 : Nat) (a kd1 x1 : Addr) (cs : List Int32) (z : Int32) (h0 : Heap) := Go md l Z n0 ({ frames := 2, cells := 0, slots := 0, locals := 28 } : Room) prog_44_method_10_code 3 (some .boolean) "com/example/avain/avain/model/Atom" "equals" (fun v h' _ => h0 = h' ∧ ∃ r : Int32, v = some (.int r) ∧ ((r = 1 ∧ cs = cs) ∨ (r = 0 ∧ ¬ cs = cs)))
theorem ef_aeqs (mid : MethodId) (a kd1 x1 : Addr) (cs : List Int32) (z : Int32)  : entryFrame mid #[(.ref a), (.ref a)] 3 = mkF mid 0 #[.val (.ref a), .val (.ref a), .unset] [] := by first | (simp [entryFrame, mkF, argsToLocals, Value.category]; done) | rfl
set_option maxRecDepth 65536 in
set_option maxHeartbeats 40000000 in
theorem c_aeqs {md : Md} {l : Launch} {Z : State} {n0 : Nat} {a0 : Array Value} (hw : HW a0 Z) (a kd1 x1 : Addr) (cs : List Int32) (z : Int32) {h0 : Heap} (Fk1 : Fld Z h0 a "com/example/avain/avain/model/Atom" "type" "Lcom/example/avain/avain/model/Type;" (.ref kd1)) (Ft1 : Fld Z h0 a "com/example/avain/avain/model/Atom" "text" "Ljava/lang/String;" (.ref x1)) (Eb : Exa Z h0 a "com/example/avain/avain/model/Atom") (S1 : Str Z h0 x1 cs) (l_cs : cs.length ≤ 4000) (SC : Sta Z Z.heap "java/lang/String" "COMPACT_STRINGS" "Z" (.int z)) (hz : ¬ z = 0)  : G_aeqs md l Z n0 a kd1 x1 cs z h0 0 0 [] h0 0 #[.val (.ref a), .val (.ref a), .unset] [] := by
  refine Go.aloadN 1 d12_0 rfl rfl rfl ?_
  refine Go.instY 4 d12_1 rfl (w89 hw) (Ins.self Eb) ?_
  refine Go.ifY 9 d12_4 (by decide) (by decide) (feq (by decide)).2 ?_
  refine Go.aloadN 10 d12_9 rfl rfl rfl ?_
  refine Go.castY 13 d12_10 rfl (w89 hw) (Ins.self Eb) ?_
  refine Go.astoreN 14 #[.val (.ref a), .val (.ref a), .val (.ref a)] d12_13 rfl rfl rfl ?_
  refine Go.aloadN 15 d12_14 rfl rfl rfl ?_
  refine Go.getF 18 d12_15 rfl (w48 hw) Via.refl Fk1 ?_
  refine Go.aloadN 19 d12_18 rfl rfl rfl ?_
  refine Go.getF 22 d12_19 rfl (w48 hw) Via.refl Fk1 ?_
  refine Go.acmpN 25 d12_22 (by decide) rfl rfl rfl (by rw [decide_eq_true rfl]; rfl) ?_
  refine Go.aloadN 26 d12_25 rfl rfl rfl ?_
  refine Go.getF 29 d12_26 rfl (w52 hw) Via.refl Ft1 ?_
  refine Go.aloadN 30 d12_29 rfl rfl rfl ?_
  refine Go.getF 33 d12_30 rfl (w52 hw) Via.refl Ft1 ?_
  refine Go.old fun o_1 _ => ?_
  refine Go.callV (S := []) (a := x1) 36 [(.ref x1)] d12_33 rfl rfl (w91 hw) (w92 hw) (w94 hw) (w93 hw) (fun _ q => notFace_of_selects (args := #[]) (mvT q (w94 hw))) (by decide) S1.exa (strEq (W := 0) (heq hw) (w5 hw) S1 S1 l_cs l_cs o_1 SC hz (by decide) (by decide)) (lenOf pd_15 rfl) (Nat.le_of_ble_eq_true rfl) rfl (Nat.le_of_ble_eq_true rfl) (Nat.le_of_ble_eq_true rfl) (fun _ q => q) (fun v h_2 sf_3 hq => ?_)
  obtain ⟨rfl, ⟨rfl, q_33⟩ | ⟨rfl, q_33⟩⟩ := hq
  · skip
    refine Go.more (sf' := []) ?_ (Nat.le_refl _) (Nat.le_refl _) (fun _ q => List.mem_append_right _ q)
    show G_aeqs md l Z n0 a kd1 x1 cs z h0 0 0 [] h0 36 #[.val (.ref a), .val (.ref a), .val (.ref a)] [(.int (1 : Int32))]
    refine Go.ifN 39 d12_36 rfl (feq (by decide)).1 ?_
    refine Go.iconst 40 (1 : Int32) d12_39 rfl rfl ?_
    refine Go.goto 44 d12_40 (by decide) (by decide) ?_
    exact Go.retN (1 : Int32) d12_44 rfl (t := .boolean) (by simp) rfl (sf' := []) (⟨rfl, _, rfl, Or.inl ⟨rfl, q_33⟩⟩) (fun _ q => nomatch q) (Nat.le_of_ble_eq_true rfl) (Nat.le_of_ble_eq_true rfl)
  · skip
    refine Go.more (sf' := []) ?_ (Nat.le_refl _) (Nat.le_refl _) (fun _ q => List.mem_append_right _ q)
    show G_aeqs md l Z n0 a kd1 x1 cs z h0 0 0 [] h0 36 #[.val (.ref a), .val (.ref a), .val (.ref a)] [(.int (0 : Int32))]
    refine Go.ifY 43 d12_36 (by decide) (by decide) (teq (by decide)).1 ?_
    refine Go.iconst 44 (0 : Int32) d12_43 rfl rfl ?_
    exact Go.retN (0 : Int32) d12_44 rfl (t := .boolean) (by simp) rfl (sf' := []) (⟨rfl, _, rfl, Or.inr ⟨rfl, q_33⟩⟩) (fun _ q => nomatch q) (Nat.le_of_ble_eq_true rfl) (Nat.le_of_ble_eq_true rfl)
abbrev G_law (l : Launch) (Z : State) (n0 : Nat) := Go (some consts_1) l Z n0 room_1 code maxLocals ret "com/example/avain/avain/model/AtomEqualsPinLaw" "law" (fun v _ _ => v = some (.int 1))
theorem ef_law (m : MethodId) (p0 : Int32) (p1 : Int32) (p2 : Int32) (p3 : Int32) : entryFrame m #[(.int p0), (.int p1), (.int p2), (.int p3)] maxLocals = mkF m 0 #[.val (.int p0), .val (.int p1), .val (.int p2), .val (.int p3), .unset, .unset, .unset, .unset, .unset, .unset, .unset, .unset, .unset, .unset, .unset, .unset, .unset, .unset, .unset] [] := by first | (simp [entryFrame, mkF, argsToLocals, Value.category, maxLocals]; done) | rfl
set_option maxRecDepth 65536 in
set_option maxHeartbeats 40000000 in
theorem law_go {l : Launch} {Z : State} {n0 : Nat} {a0 : Array Value} (hw : HW a0 Z) (p0 : Int32) (p1 : Int32) (p2 : Int32) (p3 : Int32) (z : Int32) (SC : Sta Z Z.heap "java/lang/String" "COMPACT_STRINGS" "Z" (.int z)) (hz : ¬ z = 0) (a0 a1 a2 fn ca : Addr) (Z0 : Sta Z Z.heap "com/example/avain/avain/model/Type" "AGENT" "Lcom/example/avain/avain/model/Type;" (.ref a0)) (Z1 : Sta Z Z.heap "com/example/avain/avain/model/Type" "NUMBER" "Lcom/example/avain/avain/model/Type;" (.ref a1)) (Z2 : Sta Z Z.heap "com/example/avain/avain/model/Type" "SYMMETRIC_KEY" "Lcom/example/avain/avain/model/Type;" (.ref a2)) (ZF : Sta Z Z.heap "com/example/avain/avain/model/Type" "FUNCTION" "Lcom/example/avain/avain/model/Type;" (.ref fn)) (HO : ∀ k, inK k → Fld Z Z.heap (kf a0 a1 a2 k) "java/lang/Enum" "ordinal" "I" (.int k)) (HX : ∀ k, inK k → Exa Z Z.heap (kf a0 a1 a2 k) "com/example/avain/avain/model/Type") (HN : ∀ k, inK k → kf a0 a1 a2 k ≠ fn) (IHi : Sta Z Z.heap "java/lang/Integer$IntegerCache" "high" "I" (.int 127)) (ICa : Sta Z Z.heap "java/lang/Integer$IntegerCache" "cache" "[Ljava/lang/Integer;" (.ref ca)) (HI : ∀ k, inK k → ∃ (i : Nat) (b : Addr), (k + (128 : Int32)).toInt = (i : Int) ∧ At1 Z Z.heap ca (.object "java/lang/Integer") i (.ref b) ∧ Exa Z Z.heap b "java/lang/Integer" ∧ Fld Z Z.heap b "java/lang/Integer" "value" "I" (.int k))  {h0 : Heap} : G_law l Z n0 0 0 [] h0 0 #[.val (.int p0), .val (.int p1), .val (.int p2), .val (.int p3), .unset, .unset, .unset, .unset, .unset, .unset, .unset, .unset, .unset, .unset, .unset, .unset, .unset, .unset, .unset] [] := by
  refine Go.iloadN 1 at_0 rfl rfl ?_
  refine Go.sipush 4 (255 : Int32) at_1 rfl rfl ?_
  refine Go.iand 5 at_4 rfl ?_
  refine Go.iconst 6 (3 : Int32) at_5 rfl rfl ?_
  refine Go.irem 7 at_6 rfl (by decide) ?_
  refine Go.istore 9 #[.val (.int p0), .val (.int p1), .val (.int p2), .val (.int p3), .val (.int ((p0 &&& (255 : Int32)) % (3 : Int32))), .unset, .unset, .unset, .unset, .unset, .unset, .unset, .unset, .unset, .unset, .unset, .unset, .unset, .unset] at_7 rfl rfl ?_
  refine Go.iloadN 10 at_9 rfl rfl ?_
  refine Go.bipush 12 (8 : Int32) at_10 rfl rfl ?_
  refine Go.iushr 13 at_12 rfl ?_
  refine Go.sipush 16 (255 : Int32) at_13 rfl rfl ?_
  refine Go.iand 17 at_16 rfl ?_
  refine Go.iconst 18 (3 : Int32) at_17 rfl rfl ?_
  refine Go.irem 19 at_18 rfl (by decide) ?_
  refine Go.istore 21 #[.val (.int p0), .val (.int p1), .val (.int p2), .val (.int p3), .val (.int ((p0 &&& (255 : Int32)) % (3 : Int32))), .val (.int (((ushr p0 (8 : Int32)) &&& (255 : Int32)) % (3 : Int32))), .unset, .unset, .unset, .unset, .unset, .unset, .unset, .unset, .unset, .unset, .unset, .unset, .unset] at_19 rfl rfl ?_
  refine Go.iloadN 22 at_21 rfl rfl ?_
  refine Go.bipush 24 (16 : Int32) at_22 rfl rfl ?_
  refine Go.iushr 25 at_24 rfl ?_
  refine Go.sipush 28 (255 : Int32) at_25 rfl rfl ?_
  refine Go.iand 29 at_28 rfl ?_
  refine Go.iconst 30 (3 : Int32) at_29 rfl rfl ?_
  refine Go.irem 31 at_30 rfl (by decide) ?_
  refine Go.istore 33 #[.val (.int p0), .val (.int p1), .val (.int p2), .val (.int p3), .val (.int ((p0 &&& (255 : Int32)) % (3 : Int32))), .val (.int (((ushr p0 (8 : Int32)) &&& (255 : Int32)) % (3 : Int32))), .val (.int (((ushr p0 (16 : Int32)) &&& (255 : Int32)) % (3 : Int32))), .unset, .unset, .unset, .unset, .unset, .unset, .unset, .unset, .unset, .unset, .unset, .unset] at_31 rfl rfl ?_
  refine Go.iloadN 34 at_33 rfl rfl ?_
  refine Go.bipush 36 (24 : Int32) at_34 rfl rfl ?_
  refine Go.iushr 37 at_36 rfl ?_
  refine Go.sipush 40 (255 : Int32) at_37 rfl rfl ?_
  refine Go.iand 41 at_40 rfl ?_
  refine Go.iconst 42 (3 : Int32) at_41 rfl rfl ?_
  refine Go.irem 43 at_42 rfl (by decide) ?_
  refine Go.istore 45 #[.val (.int p0), .val (.int p1), .val (.int p2), .val (.int p3), .val (.int ((p0 &&& (255 : Int32)) % (3 : Int32))), .val (.int (((ushr p0 (8 : Int32)) &&& (255 : Int32)) % (3 : Int32))), .val (.int (((ushr p0 (16 : Int32)) &&& (255 : Int32)) % (3 : Int32))), .val (.int (((ushr p0 (24 : Int32)) &&& (255 : Int32)) % (3 : Int32))), .unset, .unset, .unset, .unset, .unset, .unset, .unset, .unset, .unset, .unset, .unset] at_43 rfl rfl ?_
  obtain ⟨k1, e_k1⟩ : ∃ y_ : Int32, y_ = ((p0 &&& (255 : Int32)) % (3 : Int32)) := ⟨_, rfl⟩
  have b_k1 : k1 = 0 ∨ k1 = 1 ∨ k1 = 2 := by rw [e_k1]; exact rem3 (nonneg_and _ (by decide))
  rw [← e_k1]
  show G_law l Z n0 0 0 [] h0 45 #[.val (.int p0), .val (.int p1), .val (.int p2), .val (.int p3), .val (.int k1), .val (.int (((ushr p0 (8 : Int32)) &&& (255 : Int32)) % (3 : Int32))), .val (.int (((ushr p0 (16 : Int32)) &&& (255 : Int32)) % (3 : Int32))), .val (.int (((ushr p0 (24 : Int32)) &&& (255 : Int32)) % (3 : Int32))), .unset, .unset, .unset, .unset, .unset, .unset, .unset, .unset, .unset, .unset, .unset] []
  obtain ⟨k2, e_k2⟩ : ∃ y_ : Int32, y_ = (((ushr p0 (8 : Int32)) &&& (255 : Int32)) % (3 : Int32)) := ⟨_, rfl⟩
  have b_k2 : k2 = 0 ∨ k2 = 1 ∨ k2 = 2 := by rw [e_k2]; exact rem3 (nonneg_and _ (by decide))
  rw [← e_k2]
  show G_law l Z n0 0 0 [] h0 45 #[.val (.int p0), .val (.int p1), .val (.int p2), .val (.int p3), .val (.int k1), .val (.int k2), .val (.int (((ushr p0 (16 : Int32)) &&& (255 : Int32)) % (3 : Int32))), .val (.int (((ushr p0 (24 : Int32)) &&& (255 : Int32)) % (3 : Int32))), .unset, .unset, .unset, .unset, .unset, .unset, .unset, .unset, .unset, .unset, .unset] []
  obtain ⟨n1, e_n1⟩ : ∃ y_ : Int32, y_ = (((ushr p0 (16 : Int32)) &&& (255 : Int32)) % (3 : Int32)) := ⟨_, rfl⟩
  have b_n1 : n1 = 0 ∨ n1 = 1 ∨ n1 = 2 := by rw [e_n1]; exact rem3 (nonneg_and _ (by decide))
  rw [← e_n1]
  show G_law l Z n0 0 0 [] h0 45 #[.val (.int p0), .val (.int p1), .val (.int p2), .val (.int p3), .val (.int k1), .val (.int k2), .val (.int n1), .val (.int (((ushr p0 (24 : Int32)) &&& (255 : Int32)) % (3 : Int32))), .unset, .unset, .unset, .unset, .unset, .unset, .unset, .unset, .unset, .unset, .unset] []
  obtain ⟨n2, e_n2⟩ : ∃ y_ : Int32, y_ = (((ushr p0 (24 : Int32)) &&& (255 : Int32)) % (3 : Int32)) := ⟨_, rfl⟩
  have b_n2 : n2 = 0 ∨ n2 = 1 ∨ n2 = 2 := by rw [e_n2]; exact rem3 (nonneg_and _ (by decide))
  rw [← e_n2]
  show G_law l Z n0 0 0 [] h0 45 #[.val (.int p0), .val (.int p1), .val (.int p2), .val (.int p3), .val (.int k1), .val (.int k2), .val (.int n1), .val (.int n2), .unset, .unset, .unset, .unset, .unset, .unset, .unset, .unset, .unset, .unset, .unset] []
  refine Go.iloadN 46 at_45 rfl rfl ?_
  refine Go.sipush 49 (255 : Int32) at_46 rfl rfl ?_
  refine Go.iand 50 at_49 rfl ?_
  refine Go.i2c 51 at_50 rfl ?_
  refine Go.istore 53 #[.val (.int p0), .val (.int p1), .val (.int p2), .val (.int p3), .val (.int k1), .val (.int k2), .val (.int n1), .val (.int n2), .val (.int (chr (p1 &&& (255 : Int32)))), .unset, .unset, .unset, .unset, .unset, .unset, .unset, .unset, .unset, .unset] at_51 rfl rfl ?_
  refine Go.iloadN 54 at_53 rfl rfl ?_
  refine Go.bipush 56 (8 : Int32) at_54 rfl rfl ?_
  refine Go.iushr 57 at_56 rfl ?_
  refine Go.sipush 60 (255 : Int32) at_57 rfl rfl ?_
  refine Go.iand 61 at_60 rfl ?_
  refine Go.i2c 62 at_61 rfl ?_
  refine Go.istore 64 #[.val (.int p0), .val (.int p1), .val (.int p2), .val (.int p3), .val (.int k1), .val (.int k2), .val (.int n1), .val (.int n2), .val (.int (chr (p1 &&& (255 : Int32)))), .val (.int (chr ((ushr p1 (8 : Int32)) &&& (255 : Int32)))), .unset, .unset, .unset, .unset, .unset, .unset, .unset, .unset, .unset] at_62 rfl rfl ?_
  refine Go.iloadN 65 at_64 rfl rfl ?_
  refine Go.sipush 68 (255 : Int32) at_65 rfl rfl ?_
  refine Go.iand 69 at_68 rfl ?_
  refine Go.i2c 70 at_69 rfl ?_
  refine Go.istore 72 #[.val (.int p0), .val (.int p1), .val (.int p2), .val (.int p3), .val (.int k1), .val (.int k2), .val (.int n1), .val (.int n2), .val (.int (chr (p1 &&& (255 : Int32)))), .val (.int (chr ((ushr p1 (8 : Int32)) &&& (255 : Int32)))), .val (.int (chr (p2 &&& (255 : Int32)))), .unset, .unset, .unset, .unset, .unset, .unset, .unset, .unset] at_70 rfl rfl ?_
  refine Go.iloadN 73 at_72 rfl rfl ?_
  refine Go.bipush 75 (8 : Int32) at_73 rfl rfl ?_
  refine Go.iushr 76 at_75 rfl ?_
  refine Go.sipush 79 (255 : Int32) at_76 rfl rfl ?_
  refine Go.iand 80 at_79 rfl ?_
  refine Go.i2c 81 at_80 rfl ?_
  refine Go.istore 83 #[.val (.int p0), .val (.int p1), .val (.int p2), .val (.int p3), .val (.int k1), .val (.int k2), .val (.int n1), .val (.int n2), .val (.int (chr (p1 &&& (255 : Int32)))), .val (.int (chr ((ushr p1 (8 : Int32)) &&& (255 : Int32)))), .val (.int (chr (p2 &&& (255 : Int32)))), .val (.int (chr ((ushr p2 (8 : Int32)) &&& (255 : Int32)))), .unset, .unset, .unset, .unset, .unset, .unset, .unset] at_81 rfl rfl ?_
  refine Go.iloadN 84 at_83 rfl rfl ?_
  refine Go.iconst 85 (1 : Int32) at_84 rfl rfl ?_
  refine Go.iand 86 at_85 rfl ?_
  obtain ⟨u0, e_u0⟩ : ∃ y_ : Int32, y_ = (chr (p1 &&& (255 : Int32))) := ⟨_, rfl⟩
  have b_u0 : ¬ u0 < 0 ∧ ¬ (255 : Int32) < u0 := by rw [e_u0]; exact chr255 _
  rw [← e_u0]
  show G_law l Z n0 0 0 [] h0 86 #[.val (.int p0), .val (.int p1), .val (.int p2), .val (.int p3), .val (.int k1), .val (.int k2), .val (.int n1), .val (.int n2), .val (.int u0), .val (.int (chr ((ushr p1 (8 : Int32)) &&& (255 : Int32)))), .val (.int (chr (p2 &&& (255 : Int32)))), .val (.int (chr ((ushr p2 (8 : Int32)) &&& (255 : Int32)))), .unset, .unset, .unset, .unset, .unset, .unset, .unset] [(.int (p3 &&& (1 : Int32)))]
  obtain ⟨u1, e_u1⟩ : ∃ y_ : Int32, y_ = (chr ((ushr p1 (8 : Int32)) &&& (255 : Int32))) := ⟨_, rfl⟩
  have b_u1 : ¬ u1 < 0 ∧ ¬ (255 : Int32) < u1 := by rw [e_u1]; exact chr255 _
  rw [← e_u1]
  show G_law l Z n0 0 0 [] h0 86 #[.val (.int p0), .val (.int p1), .val (.int p2), .val (.int p3), .val (.int k1), .val (.int k2), .val (.int n1), .val (.int n2), .val (.int u0), .val (.int u1), .val (.int (chr (p2 &&& (255 : Int32)))), .val (.int (chr ((ushr p2 (8 : Int32)) &&& (255 : Int32)))), .unset, .unset, .unset, .unset, .unset, .unset, .unset] [(.int (p3 &&& (1 : Int32)))]
  obtain ⟨v0, e_v0⟩ : ∃ y_ : Int32, y_ = (chr (p2 &&& (255 : Int32))) := ⟨_, rfl⟩
  have b_v0 : ¬ v0 < 0 ∧ ¬ (255 : Int32) < v0 := by rw [e_v0]; exact chr255 _
  rw [← e_v0]
  show G_law l Z n0 0 0 [] h0 86 #[.val (.int p0), .val (.int p1), .val (.int p2), .val (.int p3), .val (.int k1), .val (.int k2), .val (.int n1), .val (.int n2), .val (.int u0), .val (.int u1), .val (.int v0), .val (.int (chr ((ushr p2 (8 : Int32)) &&& (255 : Int32)))), .unset, .unset, .unset, .unset, .unset, .unset, .unset] [(.int (p3 &&& (1 : Int32)))]
  obtain ⟨v1, e_v1⟩ : ∃ y_ : Int32, y_ = (chr ((ushr p2 (8 : Int32)) &&& (255 : Int32))) := ⟨_, rfl⟩
  have b_v1 : ¬ v1 < 0 ∧ ¬ (255 : Int32) < v1 := by rw [e_v1]; exact chr255 _
  rw [← e_v1]
  show G_law l Z n0 0 0 [] h0 86 #[.val (.int p0), .val (.int p1), .val (.int p2), .val (.int p3), .val (.int k1), .val (.int k2), .val (.int n1), .val (.int n2), .val (.int u0), .val (.int u1), .val (.int v0), .val (.int v1), .unset, .unset, .unset, .unset, .unset, .unset, .unset] [(.int (p3 &&& (1 : Int32)))]
  have cut97 : ∀ (y0 y1 : Int32) (b_y0 : ¬ y0 < 0 ∧ ¬ (255 : Int32) < y0) (b_y1 : ¬ y1 < 0 ∧ ¬ (255 : Int32) < y1), G_law l Z n0 0 0 [] h0 97 #[.val (.int p0), .val (.int p1), .val (.int p2), .val (.int p3), .val (.int k1), .val (.int k2), .val (.int n1), .val (.int n2), .val (.int u0), .val (.int u1), .val (.int y0), .val (.int y1), .unset, .unset, .unset, .unset, .unset, .unset, .unset] [] := by
    intro y0 y1 b_y0 b_y1
    refine Go.iloadN 98 at_97 rfl rfl ?_
    refine Go.iconst 99 (2 : Int32) at_98 rfl rfl ?_
    refine Go.iand 100 at_99 rfl ?_
    have cut107 : ∀ (m2 : Int32) (b_m2 : m2 = 0 ∨ m2 = 1 ∨ m2 = 2), G_law l Z n0 0 0 [] h0 107 #[.val (.int p0), .val (.int p1), .val (.int p2), .val (.int p3), .val (.int k1), .val (.int k2), .val (.int n1), .val (.int m2), .val (.int u0), .val (.int u1), .val (.int y0), .val (.int y1), .unset, .unset, .unset, .unset, .unset, .unset, .unset] [] := by
      intro m2 b_m2
      refine Go.iloadN 108 at_107 rfl rfl ?_
      refine Go.iconst 109 (4 : Int32) at_108 rfl rfl ?_
      refine Go.iand 110 at_109 rfl ?_
      have cut117 : ∀ (kb : Int32) (b_kb : kb = 0 ∨ kb = 1 ∨ kb = 2), G_law l Z n0 0 0 [] h0 117 #[.val (.int p0), .val (.int p1), .val (.int p2), .val (.int p3), .val (.int k1), .val (.int kb), .val (.int n1), .val (.int m2), .val (.int u0), .val (.int u1), .val (.int y0), .val (.int y1), .unset, .unset, .unset, .unset, .unset, .unset, .unset] [] := by
        intro kb b_kb
        refine Go.iloadN 118 at_117 rfl rfl ?_
        refine Go.iconst 119 (3 : Int32) at_118 rfl rfl ?_
        refine Go.iushr 120 at_119 rfl ?_
        refine Go.iconst 121 (3 : Int32) at_120 rfl rfl ?_
        refine Go.iand 122 at_121 rfl ?_
        refine Go.istore 124 #[.val (.int p0), .val (.int p1), .val (.int p2), .val (.int p3), .val (.int k1), .val (.int kb), .val (.int n1), .val (.int m2), .val (.int u0), .val (.int u1), .val (.int y0), .val (.int y1), .val (.int ((ushr p3 (3 : Int32)) &&& (3 : Int32))), .unset, .unset, .unset, .unset, .unset, .unset] at_122 rfl rfl ?_
        obtain ⟨sk, e_sk⟩ : ∃ y_ : Int32, y_ = ((ushr p3 (3 : Int32)) &&& (3 : Int32)) := ⟨_, rfl⟩
        rw [← e_sk]
        show G_law l Z n0 0 0 [] h0 124 #[.val (.int p0), .val (.int p1), .val (.int p2), .val (.int p3), .val (.int k1), .val (.int kb), .val (.int n1), .val (.int m2), .val (.int u0), .val (.int u1), .val (.int y0), .val (.int y1), .val (.int sk), .unset, .unset, .unset, .unset, .unset, .unset] []
        refine Go.iload 126 at_124 rfl rfl ?_
        refine Go.iload 128 at_126 rfl rfl ?_
        refine Go.iload 130 at_128 rfl rfl ?_
        refine Go.callS (S := []) 133 [(.int n1), (.int u0), (.int u1)] at_130 rfl rfl (w0 hw) (w1 hw) (w2 hw) (w3 hw) (by decide) (call_of_go (R := _) (len := 3) (W := 0) (plainFor_of_name pn_7) (fun mid => ef_str mid n1 u0 u1 z ) (c_str hw n1 u0 u1 z b_u0 b_u1 SC hz) (w3 hw) (w2 hw) (by decide) (by decide)) (lenOf pd_16 rfl) (Nat.le_of_ble_eq_true rfl) rfl (Nat.le_of_ble_eq_true rfl) (Nat.le_of_ble_eq_true rfl) (fun _ q => nomatch q) (fun v h_1 sf_2 hq => ?_)
        obtain ⟨sa, rfl, X_sa, le_sa, S_sa, rfl, n0_sa⟩ := hq
        show G_law l Z n0 6 12 [sa] h_1 133 #[.val (.int p0), .val (.int p1), .val (.int p2), .val (.int p3), .val (.int k1), .val (.int kb), .val (.int n1), .val (.int m2), .val (.int u0), .val (.int u1), .val (.int y0), .val (.int y1), .val (.int sk), .unset, .unset, .unset, .unset, .unset, .unset] [(.ref sa)]
        refine Go.astore 135 #[.val (.int p0), .val (.int p1), .val (.int p2), .val (.int p3), .val (.int k1), .val (.int kb), .val (.int n1), .val (.int m2), .val (.int u0), .val (.int u1), .val (.int y0), .val (.int y1), .val (.int sk), .val (.ref sa), .unset, .unset, .unset, .unset, .unset] at_133 rfl rfl rfl ?_
        refine Go.iload 137 at_135 rfl rfl ?_
        refine Go.iload 139 at_137 rfl rfl ?_
        refine Go.iload 141 at_139 rfl rfl ?_
        refine Go.callS (S := []) 144 [(.int m2), (.int y0), (.int y1)] at_141 rfl rfl (w0 hw) (w1 hw) (w2 hw) (w3 hw) (by decide) (call_of_go (R := _) (len := 3) (W := 0) (plainFor_of_name pn_7) (fun mid => ef_str mid m2 y0 y1 z ) (c_str hw m2 y0 y1 z b_y0 b_y1 SC hz) (w3 hw) (w2 hw) (by decide) (by decide)) (lenOf pd_16 rfl) (Nat.le_of_ble_eq_true rfl) rfl (Nat.le_of_ble_eq_true rfl) (Nat.le_of_ble_eq_true rfl) (fun _ q => nomatch q) (fun v h_3 sf_4 hq => ?_)
        obtain ⟨sb, rfl, X_sb, le_sb, S_sb, rfl, n0_sb⟩ := hq
        have nba : sb ≠ sa := Nat.ne_of_gt (Nat.lt_of_lt_of_le S_sa.exa.lt le_sb)
        show G_law l Z n0 12 24 [sb, sa] h_3 144 #[.val (.int p0), .val (.int p1), .val (.int p2), .val (.int p3), .val (.int k1), .val (.int kb), .val (.int n1), .val (.int m2), .val (.int u0), .val (.int u1), .val (.int y0), .val (.int y1), .val (.int sk), .val (.ref sa), .unset, .unset, .unset, .unset, .unset] [(.ref sb)]
        refine Go.astore 146 #[.val (.int p0), .val (.int p1), .val (.int p2), .val (.int p3), .val (.int k1), .val (.int kb), .val (.int n1), .val (.int m2), .val (.int u0), .val (.int u1), .val (.int y0), .val (.int y1), .val (.int sk), .val (.ref sa), .val (.ref sb), .unset, .unset, .unset, .unset] at_144 rfl rfl rfl ?_
        refine Go.new 149 at_146 rfl (w26 hw) (w27 hw) (w28 hw) (Nat.le_of_ble_eq_true rfl) (Nat.le_of_ble_eq_true rfl) (fun h_5 x_6 g_7 q_8 E_9 lt_10 A_11 D_12 => ?_)
        show G_law l Z n0 13 27 [x_6, sb, sa] h_5 149 #[.val (.int p0), .val (.int p1), .val (.int p2), .val (.int p3), .val (.int k1), .val (.int kb), .val (.int n1), .val (.int m2), .val (.int u0), .val (.int u1), .val (.int y0), .val (.int y1), .val (.int sk), .val (.ref sa), .val (.ref sb), .unset, .unset, .unset, .unset] [(.ref x_6)]
        refine Go.dup 150 at_149 rfl rfl ?_
        refine Go.iload 152 at_150 rfl rfl ?_
        refine Go.callS (S := [(.ref x_6), (.ref x_6)]) 155 [(.int k1)] at_152 rfl rfl (w29 hw) (w30 hw) (w2 hw) (w31 hw) (by decide) (call_of_go (R := _) (len := 3) (W := 2) (plainFor_of_name pn_7) (fun mid => ef_typeof mid k1 a0 a1 a2 ) (c_typeof hw k1 a0 a1 a2 Z0 Z1 Z2) (w31 hw) (w2 hw) (by decide) (by decide)) (lenOf pd_17 rfl) (Nat.le_of_ble_eq_true rfl) rfl (Nat.le_of_ble_eq_true rfl) (Nat.le_of_ble_eq_true rfl) (fun _ q => nomatch q) (fun v h_13 sf_14 hq => ?_)
        obtain ⟨rfl, rfl⟩ := hq
        obtain ⟨kd1, e_kd1⟩ : ∃ y_ : Addr, y_ = kf a0 a1 a2 k1 := ⟨_, rfl⟩
        rw [← e_kd1]
        refine Go.more (sf' := [x_6, sb, sa]) ?_ (Nat.le_refl _) (Nat.le_refl _) (fun _ q => List.mem_append_right _ q)
        show G_law l Z n0 13 27 [x_6, sb, sa] h_5 155 #[.val (.int p0), .val (.int p1), .val (.int p2), .val (.int p3), .val (.int k1), .val (.int kb), .val (.int n1), .val (.int m2), .val (.int u0), .val (.int u1), .val (.int y0), .val (.int y1), .val (.int sk), .val (.ref sa), .val (.ref sb), .unset, .unset, .unset, .unset] [(.ref kd1), (.ref x_6), (.ref x_6)]
        refine Go.old fun o_15 _ => ?_
        have EX_kd1 : Exa Z h_5 kd1 "com/example/avain/avain/model/Type" := by rw [e_kd1]; exact (HX _ b_k1).ext o_15.2
        have FO_kd1 : Fld Z h_5 kd1 "java/lang/Enum" "ordinal" "I" (.int k1) := by rw [e_kd1]; exact (HO _ b_k1).ext o_15.2
        have NF_kd1 : kd1 ≠ fn := by rw [e_kd1]; exact HN _ b_k1
        refine Go.aload 157 at_155 rfl rfl rfl ?_
        have X_16 : Ext h_1 h_5 := extT X_sb E_9
        have f_17 := S_sa.exa.ext X_16
        have f_23 := S_sa.ext X_16
        refine Go.callC (S := [(.ref x_6)]) (a := x_6) 160 [(.ref kd1), (.ref sa)] at_157 rfl rfl rfl (w35 hw) (w36 hw) (w37 hw) (by decide) (call_of_go (R := _) (len := 3) (W := 1) (plainFor_of_name pn_8) (fun mid => ef_atominit mid x_6 kd1 sa fn k1 n1 u0 u1 z ) (c_atominit hw x_6 kd1 sa fn k1 n1 u0 u1 z A_11 q_8 (D_12 (Or.inr (w49 hw)) (ty := (.object "com/example/avain/avain/model/Type")) (by decide)) EX_kd1 FO_kd1 f_23 b_n1 n0_sa ZF NF_kd1 SC hz) (w37 hw) (w28 hw) (by decide) (by decide)) (lenOf pd_18 rfl) (Nat.le_of_ble_eq_true rfl) rfl (Nat.le_of_ble_eq_true rfl) (Nat.le_of_ble_eq_true rfl) (allS (List.mem_of_getElem? (i := 0) rfl) (allS (List.mem_of_getElem? (i := 2) rfl) all0)) (fun v h_24 sf_25 hq => ?_)
        obtain ⟨rfl, K_18, A_19, f_20, f_21, S_22⟩ := hq
        refine Go.more (sf' := [x_6, sb, sa]) ?_ (Nat.le_refl _) (Nat.le_refl _) (fun _ q => List.mem_append_right _ q)
        show G_law l Z n0 17 67 [x_6, sb, sa] h_24 160 #[.val (.int p0), .val (.int p1), .val (.int p2), .val (.int p3), .val (.int k1), .val (.int kb), .val (.int n1), .val (.int m2), .val (.int u0), .val (.int u1), .val (.int y0), .val (.int y1), .val (.int sk), .val (.ref sa), .val (.ref sb), .unset, .unset, .unset, .unset] [(.ref x_6)]
        refine Go.astore 162 #[.val (.int p0), .val (.int p1), .val (.int p2), .val (.int p3), .val (.int k1), .val (.int kb), .val (.int n1), .val (.int m2), .val (.int u0), .val (.int u1), .val (.int y0), .val (.int y1), .val (.int sk), .val (.ref sa), .val (.ref sb), .val (.ref x_6), .unset, .unset, .unset] at_160 rfl rfl rfl ?_
        refine Go.iload 164 at_162 rfl rfl ?_
        refine Go.iload 166 at_164 rfl rfl ?_
        have cut200 : ∀ (sm : Int32) (hsm : (sm = 1 ∧ (n1 = m2 ∧ (n1 < 1 ∨ u0 = y0) ∧ (n1 < 2 ∨ u1 = y1))) ∨ (sm = 0 ∧ ¬ (n1 = m2 ∧ (n1 < 1 ∨ u0 = y0) ∧ (n1 < 2 ∨ u1 = y1)))), G_law l Z n0 17 67 [x_6, sb, sa] h_24 200 #[.val (.int p0), .val (.int p1), .val (.int p2), .val (.int p3), .val (.int k1), .val (.int kb), .val (.int n1), .val (.int m2), .val (.int u0), .val (.int u1), .val (.int y0), .val (.int y1), .val (.int sk), .val (.ref sa), .val (.ref sb), .val (.ref x_6), .unset, .unset, .unset] [(.int sm)] := by
          intro sm hsm
          refine Go.istore 202 #[.val (.int p0), .val (.int p1), .val (.int p2), .val (.int p3), .val (.int k1), .val (.int kb), .val (.int n1), .val (.int m2), .val (.int u0), .val (.int u1), .val (.int y0), .val (.int y1), .val (.int sk), .val (.ref sa), .val (.ref sb), .val (.ref x_6), .val (.int sm), .unset, .unset] at_200 rfl rfl ?_
          refine Go.iload 204 at_202 rfl rfl ?_
          by_cases hc204 : sk = (0 : Int32)
          · skip
            refine Go.ifN 207 at_204 rfl (teq hc204).2 ?_
            have t1lt := A_19.lt
            refine Go.new 210 at_207 rfl (w26 hw) (w27 hw) (w28 hw) (Nat.le_of_ble_eq_true rfl) (Nat.le_of_ble_eq_true rfl) (fun h_26 x_27 g_28 q_29 E_30 lt_31 A_32 D_33 => ?_)
            show G_law l Z n0 18 70 [x_27, x_6, sb, sa] h_26 210 #[.val (.int p0), .val (.int p1), .val (.int p2), .val (.int p3), .val (.int k1), .val (.int kb), .val (.int n1), .val (.int m2), .val (.int u0), .val (.int u1), .val (.int y0), .val (.int y1), .val (.int sk), .val (.ref sa), .val (.ref sb), .val (.ref x_6), .val (.int sm), .unset, .unset] [(.ref x_27)]
            refine Go.dup 211 at_210 rfl rfl ?_
            refine Go.iload 213 at_211 rfl rfl ?_
            refine Go.callS (S := [(.ref x_27), (.ref x_27)]) 216 [(.int kb)] at_213 rfl rfl (w29 hw) (w30 hw) (w2 hw) (w31 hw) (by decide) (call_of_go (R := _) (len := 3) (W := 2) (plainFor_of_name pn_7) (fun mid => ef_typeof mid kb a0 a1 a2 ) (c_typeof hw kb a0 a1 a2 Z0 Z1 Z2) (w31 hw) (w2 hw) (by decide) (by decide)) (lenOf pd_17 rfl) (Nat.le_of_ble_eq_true rfl) rfl (Nat.le_of_ble_eq_true rfl) (Nat.le_of_ble_eq_true rfl) (fun _ q => nomatch q) (fun v h_34 sf_35 hq => ?_)
            obtain ⟨rfl, rfl⟩ := hq
            obtain ⟨kd2, e_kd2⟩ : ∃ y_ : Addr, y_ = kf a0 a1 a2 kb := ⟨_, rfl⟩
            rw [← e_kd2]
            refine Go.more (sf' := [x_27, x_6, sb, sa]) ?_ (Nat.le_refl _) (Nat.le_refl _) (fun _ q => List.mem_append_right _ q)
            show G_law l Z n0 18 70 [x_27, x_6, sb, sa] h_26 216 #[.val (.int p0), .val (.int p1), .val (.int p2), .val (.int p3), .val (.int k1), .val (.int kb), .val (.int n1), .val (.int m2), .val (.int u0), .val (.int u1), .val (.int y0), .val (.int y1), .val (.int sk), .val (.ref sa), .val (.ref sb), .val (.ref x_6), .val (.int sm), .unset, .unset] [(.ref kd2), (.ref x_27), (.ref x_27)]
            refine Go.old fun o_36 _ => ?_
            have EX_kd2 : Exa Z h_26 kd2 "com/example/avain/avain/model/Type" := by rw [e_kd2]; exact (HX _ b_kb).ext o_36.2
            have FO_kd2 : Fld Z h_26 kd2 "java/lang/Enum" "ordinal" "I" (.int kb) := by rw [e_kd2]; exact (HO _ b_kb).ext o_36.2
            have NF_kd2 : kd2 ≠ fn := by rw [e_kd2]; exact HN _ b_kb
            refine Go.aload 218 at_216 rfl rfl rfl ?_
            have f_37 := (((S_sb.exa.ext E_9).keep K_18).ext E_30)
            have f_43 := A_19.ext E_30
            have na1b : x_6 ≠ sb := ne_exa f_43 f_37 (by decide)
            have na12 : x_6 ≠ x_27 := Nat.ne_of_lt (Nat.lt_of_lt_of_le t1lt (Nat.le_of_eq g_28))
            have f_44 := ((Hst.keep2 (S_sb.ext E_9) A_11 (by decide) (w27 hw) f_17 (w5 hw) nba K_18).ext E_30)
            refine Go.callC (S := [(.ref x_27)]) (a := x_27) 221 [(.ref kd2), (.ref sb)] at_218 rfl rfl rfl (w35 hw) (w36 hw) (w37 hw) (by decide) (call_of_go (R := _) (len := 3) (W := 1) (plainFor_of_name pn_8) (fun mid => ef_atominit mid x_27 kd2 sb fn kb m2 y0 y1 z ) (c_atominit hw x_27 kd2 sb fn kb m2 y0 y1 z A_32 q_29 (D_33 (Or.inr (w49 hw)) (ty := (.object "com/example/avain/avain/model/Type")) (by decide)) EX_kd2 FO_kd2 f_44 b_m2 n0_sb ZF NF_kd2 SC hz) (w37 hw) (w28 hw) (by decide) (by decide)) (lenOf pd_18 rfl) (Nat.le_of_ble_eq_true rfl) rfl (Nat.le_of_ble_eq_true rfl) (Nat.le_of_ble_eq_true rfl) (allS (List.mem_of_getElem? (i := 0) rfl) (allS (List.mem_of_getElem? (i := 2) rfl) all0)) (fun v h_45 sf_46 hq => ?_)
            obtain ⟨rfl, K_38, A_39, f_40, f_41, S_42⟩ := hq
            refine Go.more (sf' := [x_27, x_6, sb, sa]) ?_ (Nat.le_refl _) (Nat.le_refl _) (fun _ q => List.mem_append_right _ q)
            show G_law l Z n0 22 110 [x_27, x_6, sb, sa] h_45 221 #[.val (.int p0), .val (.int p1), .val (.int p2), .val (.int p3), .val (.int k1), .val (.int kb), .val (.int n1), .val (.int m2), .val (.int u0), .val (.int u1), .val (.int y0), .val (.int y1), .val (.int sk), .val (.ref sa), .val (.ref sb), .val (.ref x_6), .val (.int sm), .unset, .unset] [(.ref x_27)]
            refine Go.astore 223 #[.val (.int p0), .val (.int p1), .val (.int p2), .val (.int p3), .val (.int k1), .val (.int kb), .val (.int n1), .val (.int m2), .val (.int u0), .val (.int u1), .val (.int y0), .val (.int y1), .val (.int sk), .val (.ref sa), .val (.ref sb), .val (.ref x_6), .val (.int sm), .val (.ref x_27), .unset] at_221 rfl rfl rfl ?_
            refine Go.iload 225 at_223 rfl rfl ?_
            refine Go.iload 227 at_225 rfl rfl ?_
            by_cases hc227 : k1 = kb
            · skip
              refine Go.icmpN 230 at_227 rfl (teq hc227).2 ?_
              refine Go.iload 232 at_230 rfl rfl ?_
              by_cases hc232 : sm = (0 : Int32)
              · skip
                refine Go.ifY 239 at_232 (by decide) (by decide) (teq hc232).1 ?_
                refine Go.iconst 240 (0 : Int32) at_239 rfl rfl ?_
                refine Go.istore 242 #[.val (.int p0), .val (.int p1), .val (.int p2), .val (.int p3), .val (.int k1), .val (.int kb), .val (.int n1), .val (.int m2), .val (.int u0), .val (.int u1), .val (.int y0), .val (.int y1), .val (.int sk), .val (.ref sa), .val (.ref sb), .val (.ref x_6), .val (.int sm), .val (.ref x_27), .val (.int (0 : Int32))] at_240 rfl rfl ?_
                refine Go.goto 291 at_242 (by decide) (by decide) ?_
                refine Go.aload 293 at_291 rfl rfl rfl ?_
                refine Go.aload 295 at_293 rfl rfl rfl ?_
                have f_47 := ((f_20.ext E_30).keep K_38 (ninS na12 (ninS na1b nin0)))
                have f_48 := ((f_21.ext E_30).keep K_38 (ninS na12 (ninS na1b nin0)))
                have f_49 := (Str.keep2 (S_22.ext E_30) A_32 (by decide) (w27 hw) f_37 (w5 hw) (Ne.symm nba) K_38)
                have f_54 := (f_43.keep K_38)
                refine Go.callV (S := []) (a := x_6) 298 [(.ref x_27)] at_295 rfl rfl (w84 hw) (w85 hw) (w87 hw) (w86 hw) (fun _ q => notFace_of_selects (args := #[]) (mvT q (w87 hw))) (by decide) f_54 (call_of_go (R := _) (len := 3) (W := 0) (plainFor_of_name pn_8) (fun mid => ef_aeq mid x_6 x_27 kd1 kd2 sa sb (strf n1 u0 u1) (strf m2 y0 y1) z ) (c_aeq hw x_6 x_27 kd1 kd2 sa sb (strf n1 u0 u1) (strf m2 y0 y1) z f_47 f_48 f_40 f_41 A_39 f_49 S_42 (strf_len _ _ _) (strf_len _ _ _) SC hz) (w88 hw) (w28 hw) (by decide) (by decide)) (lenOf pd_15 rfl) (Nat.le_of_ble_eq_true rfl) rfl (Nat.le_of_ble_eq_true rfl) (Nat.le_of_ble_eq_true rfl) (fun _ q => nomatch q) (fun v h_52 sf_53 hq => ?_)
                obtain ⟨rfl, r_50, rfl, hr_51⟩ := hq
                refine Go.more (sf' := [x_27, x_6, sb, sa]) ?_ (Nat.le_refl _) (Nat.le_refl _) (fun _ q => List.mem_append_right _ q)
                show G_law l Z n0 22 110 [x_27, x_6, sb, sa] h_45 298 #[.val (.int p0), .val (.int p1), .val (.int p2), .val (.int p3), .val (.int k1), .val (.int kb), .val (.int n1), .val (.int m2), .val (.int u0), .val (.int u1), .val (.int y0), .val (.int y1), .val (.int sk), .val (.ref sa), .val (.ref sb), .val (.ref x_6), .val (.int sm), .val (.ref x_27), .val (.int (0 : Int32))] [(.int r_50)]
                rw [e_kd1, e_kd2, kf_eq HO b_k1 b_kb, strf_eq b_n1 b_m2] at hr_51
                refine Go.iload 300 at_298 rfl rfl ?_
                refine Go.icmpN 303 at_300 rfl (teq (pick0 hr_51 (fun q => psm0 hsm hc232 q.2))).2 ?_
                refine Go.aload 305 at_303 rfl rfl rfl ?_
                refine Go.aload 307 at_305 rfl rfl rfl ?_
                refine Go.callV (S := []) (a := x_6) 310 [(.ref x_6)] at_307 rfl rfl (w84 hw) (w85 hw) (w87 hw) (w86 hw) (fun _ q => notFace_of_selects (args := #[]) (mvT q (w87 hw))) (by decide) f_54 (call_of_go (R := _) (len := 3) (W := 0) (plainFor_of_name pn_8) (fun mid => ef_aeqs mid x_6 kd1 sa (strf n1 u0 u1) z ) (c_aeqs hw x_6 kd1 sa (strf n1 u0 u1) z f_47 f_48 f_54 f_49 (strf_len _ _ _) SC hz) (w88 hw) (w28 hw) (by decide) (by decide)) (lenOf pd_15 rfl) (Nat.le_of_ble_eq_true rfl) rfl (Nat.le_of_ble_eq_true rfl) (Nat.le_of_ble_eq_true rfl) (fun _ q => nomatch q) (fun v h_57 sf_58 hq => ?_)
                obtain ⟨rfl, r_55, rfl, hr_56⟩ := hq
                refine Go.more (sf' := [x_27, x_6, sb, sa]) ?_ (Nat.le_refl _) (Nat.le_refl _) (fun _ q => List.mem_append_right _ q)
                show G_law l Z n0 22 110 [x_27, x_6, sb, sa] h_45 310 #[.val (.int p0), .val (.int p1), .val (.int p2), .val (.int p3), .val (.int k1), .val (.int kb), .val (.int n1), .val (.int m2), .val (.int u0), .val (.int u1), .val (.int y0), .val (.int y1), .val (.int sk), .val (.ref sa), .val (.ref sb), .val (.ref x_6), .val (.int sm), .val (.ref x_27), .val (.int (0 : Int32))] [(.int r_55)]
                refine Go.ifN 313 at_310 rfl (feq (fun q => by rw [pick hr_56 rfl] at q; exact absurd q (by decide))).1 ?_
                refine Go.iconst 314 (1 : Int32) at_313 rfl rfl ?_
                refine Go.goto 318 at_314 (by decide) (by decide) ?_
                exact Go.retN (1 : Int32) at_318 rfl (t := .boolean) (by simp) rfl (sf' := []) (rfl) (fun _ q => nomatch q) (Nat.le_of_ble_eq_true rfl) (Nat.le_of_ble_eq_true rfl)
              · skip
                refine Go.ifN 235 at_232 rfl (feq hc232).1 ?_
                refine Go.iconst 236 (1 : Int32) at_235 rfl rfl ?_
                refine Go.goto 240 at_236 (by decide) (by decide) ?_
                refine Go.istore 242 #[.val (.int p0), .val (.int p1), .val (.int p2), .val (.int p3), .val (.int k1), .val (.int kb), .val (.int n1), .val (.int m2), .val (.int u0), .val (.int u1), .val (.int y0), .val (.int y1), .val (.int sk), .val (.ref sa), .val (.ref sb), .val (.ref x_6), .val (.int sm), .val (.ref x_27), .val (.int (1 : Int32))] at_240 rfl rfl ?_
                refine Go.goto 291 at_242 (by decide) (by decide) ?_
                refine Go.aload 293 at_291 rfl rfl rfl ?_
                refine Go.aload 295 at_293 rfl rfl rfl ?_
                have f_59 := ((f_20.ext E_30).keep K_38 (ninS na12 (ninS na1b nin0)))
                have f_60 := ((f_21.ext E_30).keep K_38 (ninS na12 (ninS na1b nin0)))
                have f_61 := (Str.keep2 (S_22.ext E_30) A_32 (by decide) (w27 hw) f_37 (w5 hw) (Ne.symm nba) K_38)
                have f_66 := (f_43.keep K_38)
                refine Go.callV (S := []) (a := x_6) 298 [(.ref x_27)] at_295 rfl rfl (w84 hw) (w85 hw) (w87 hw) (w86 hw) (fun _ q => notFace_of_selects (args := #[]) (mvT q (w87 hw))) (by decide) f_66 (call_of_go (R := _) (len := 3) (W := 0) (plainFor_of_name pn_8) (fun mid => ef_aeq mid x_6 x_27 kd1 kd2 sa sb (strf n1 u0 u1) (strf m2 y0 y1) z ) (c_aeq hw x_6 x_27 kd1 kd2 sa sb (strf n1 u0 u1) (strf m2 y0 y1) z f_59 f_60 f_40 f_41 A_39 f_61 S_42 (strf_len _ _ _) (strf_len _ _ _) SC hz) (w88 hw) (w28 hw) (by decide) (by decide)) (lenOf pd_15 rfl) (Nat.le_of_ble_eq_true rfl) rfl (Nat.le_of_ble_eq_true rfl) (Nat.le_of_ble_eq_true rfl) (fun _ q => nomatch q) (fun v h_64 sf_65 hq => ?_)
                obtain ⟨rfl, r_62, rfl, hr_63⟩ := hq
                refine Go.more (sf' := [x_27, x_6, sb, sa]) ?_ (Nat.le_refl _) (Nat.le_refl _) (fun _ q => List.mem_append_right _ q)
                show G_law l Z n0 22 110 [x_27, x_6, sb, sa] h_45 298 #[.val (.int p0), .val (.int p1), .val (.int p2), .val (.int p3), .val (.int k1), .val (.int kb), .val (.int n1), .val (.int m2), .val (.int u0), .val (.int u1), .val (.int y0), .val (.int y1), .val (.int sk), .val (.ref sa), .val (.ref sb), .val (.ref x_6), .val (.int sm), .val (.ref x_27), .val (.int (1 : Int32))] [(.int r_62)]
                rw [e_kd1, e_kd2, kf_eq HO b_k1 b_kb, strf_eq b_n1 b_m2] at hr_63
                refine Go.iload 300 at_298 rfl rfl ?_
                refine Go.icmpN 303 at_300 rfl (teq (pick hr_63 ⟨hc227, psm hsm hc232⟩)).2 ?_
                refine Go.aload 305 at_303 rfl rfl rfl ?_
                refine Go.aload 307 at_305 rfl rfl rfl ?_
                refine Go.callV (S := []) (a := x_6) 310 [(.ref x_6)] at_307 rfl rfl (w84 hw) (w85 hw) (w87 hw) (w86 hw) (fun _ q => notFace_of_selects (args := #[]) (mvT q (w87 hw))) (by decide) f_66 (call_of_go (R := _) (len := 3) (W := 0) (plainFor_of_name pn_8) (fun mid => ef_aeqs mid x_6 kd1 sa (strf n1 u0 u1) z ) (c_aeqs hw x_6 kd1 sa (strf n1 u0 u1) z f_59 f_60 f_66 f_61 (strf_len _ _ _) SC hz) (w88 hw) (w28 hw) (by decide) (by decide)) (lenOf pd_15 rfl) (Nat.le_of_ble_eq_true rfl) rfl (Nat.le_of_ble_eq_true rfl) (Nat.le_of_ble_eq_true rfl) (fun _ q => nomatch q) (fun v h_69 sf_70 hq => ?_)
                obtain ⟨rfl, r_67, rfl, hr_68⟩ := hq
                refine Go.more (sf' := [x_27, x_6, sb, sa]) ?_ (Nat.le_refl _) (Nat.le_refl _) (fun _ q => List.mem_append_right _ q)
                show G_law l Z n0 22 110 [x_27, x_6, sb, sa] h_45 310 #[.val (.int p0), .val (.int p1), .val (.int p2), .val (.int p3), .val (.int k1), .val (.int kb), .val (.int n1), .val (.int m2), .val (.int u0), .val (.int u1), .val (.int y0), .val (.int y1), .val (.int sk), .val (.ref sa), .val (.ref sb), .val (.ref x_6), .val (.int sm), .val (.ref x_27), .val (.int (1 : Int32))] [(.int r_67)]
                refine Go.ifN 313 at_310 rfl (feq (fun q => by rw [pick hr_68 rfl] at q; exact absurd q (by decide))).1 ?_
                refine Go.iconst 314 (1 : Int32) at_313 rfl rfl ?_
                refine Go.goto 318 at_314 (by decide) (by decide) ?_
                exact Go.retN (1 : Int32) at_318 rfl (t := .boolean) (by simp) rfl (sf' := []) (rfl) (fun _ q => nomatch q) (Nat.le_of_ble_eq_true rfl) (Nat.le_of_ble_eq_true rfl)
            · skip
              refine Go.icmpY 239 at_227 (by decide) (by decide) (feq hc227).2 ?_
              refine Go.iconst 240 (0 : Int32) at_239 rfl rfl ?_
              refine Go.istore 242 #[.val (.int p0), .val (.int p1), .val (.int p2), .val (.int p3), .val (.int k1), .val (.int kb), .val (.int n1), .val (.int m2), .val (.int u0), .val (.int u1), .val (.int y0), .val (.int y1), .val (.int sk), .val (.ref sa), .val (.ref sb), .val (.ref x_6), .val (.int sm), .val (.ref x_27), .val (.int (0 : Int32))] at_240 rfl rfl ?_
              refine Go.goto 291 at_242 (by decide) (by decide) ?_
              refine Go.aload 293 at_291 rfl rfl rfl ?_
              refine Go.aload 295 at_293 rfl rfl rfl ?_
              have f_71 := ((f_20.ext E_30).keep K_38 (ninS na12 (ninS na1b nin0)))
              have f_72 := ((f_21.ext E_30).keep K_38 (ninS na12 (ninS na1b nin0)))
              have f_73 := (Str.keep2 (S_22.ext E_30) A_32 (by decide) (w27 hw) f_37 (w5 hw) (Ne.symm nba) K_38)
              have f_78 := (f_43.keep K_38)
              refine Go.callV (S := []) (a := x_6) 298 [(.ref x_27)] at_295 rfl rfl (w84 hw) (w85 hw) (w87 hw) (w86 hw) (fun _ q => notFace_of_selects (args := #[]) (mvT q (w87 hw))) (by decide) f_78 (call_of_go (R := _) (len := 3) (W := 0) (plainFor_of_name pn_8) (fun mid => ef_aeq mid x_6 x_27 kd1 kd2 sa sb (strf n1 u0 u1) (strf m2 y0 y1) z ) (c_aeq hw x_6 x_27 kd1 kd2 sa sb (strf n1 u0 u1) (strf m2 y0 y1) z f_71 f_72 f_40 f_41 A_39 f_73 S_42 (strf_len _ _ _) (strf_len _ _ _) SC hz) (w88 hw) (w28 hw) (by decide) (by decide)) (lenOf pd_15 rfl) (Nat.le_of_ble_eq_true rfl) rfl (Nat.le_of_ble_eq_true rfl) (Nat.le_of_ble_eq_true rfl) (fun _ q => nomatch q) (fun v h_76 sf_77 hq => ?_)
              obtain ⟨rfl, r_74, rfl, hr_75⟩ := hq
              refine Go.more (sf' := [x_27, x_6, sb, sa]) ?_ (Nat.le_refl _) (Nat.le_refl _) (fun _ q => List.mem_append_right _ q)
              show G_law l Z n0 22 110 [x_27, x_6, sb, sa] h_45 298 #[.val (.int p0), .val (.int p1), .val (.int p2), .val (.int p3), .val (.int k1), .val (.int kb), .val (.int n1), .val (.int m2), .val (.int u0), .val (.int u1), .val (.int y0), .val (.int y1), .val (.int sk), .val (.ref sa), .val (.ref sb), .val (.ref x_6), .val (.int sm), .val (.ref x_27), .val (.int (0 : Int32))] [(.int r_74)]
              rw [e_kd1, e_kd2, kf_eq HO b_k1 b_kb, strf_eq b_n1 b_m2] at hr_75
              refine Go.iload 300 at_298 rfl rfl ?_
              refine Go.icmpN 303 at_300 rfl (teq (pick0 hr_75 (fun q => hc227 q.1))).2 ?_
              refine Go.aload 305 at_303 rfl rfl rfl ?_
              refine Go.aload 307 at_305 rfl rfl rfl ?_
              refine Go.callV (S := []) (a := x_6) 310 [(.ref x_6)] at_307 rfl rfl (w84 hw) (w85 hw) (w87 hw) (w86 hw) (fun _ q => notFace_of_selects (args := #[]) (mvT q (w87 hw))) (by decide) f_78 (call_of_go (R := _) (len := 3) (W := 0) (plainFor_of_name pn_8) (fun mid => ef_aeqs mid x_6 kd1 sa (strf n1 u0 u1) z ) (c_aeqs hw x_6 kd1 sa (strf n1 u0 u1) z f_71 f_72 f_78 f_73 (strf_len _ _ _) SC hz) (w88 hw) (w28 hw) (by decide) (by decide)) (lenOf pd_15 rfl) (Nat.le_of_ble_eq_true rfl) rfl (Nat.le_of_ble_eq_true rfl) (Nat.le_of_ble_eq_true rfl) (fun _ q => nomatch q) (fun v h_81 sf_82 hq => ?_)
              obtain ⟨rfl, r_79, rfl, hr_80⟩ := hq
              refine Go.more (sf' := [x_27, x_6, sb, sa]) ?_ (Nat.le_refl _) (Nat.le_refl _) (fun _ q => List.mem_append_right _ q)
              show G_law l Z n0 22 110 [x_27, x_6, sb, sa] h_45 310 #[.val (.int p0), .val (.int p1), .val (.int p2), .val (.int p3), .val (.int k1), .val (.int kb), .val (.int n1), .val (.int m2), .val (.int u0), .val (.int u1), .val (.int y0), .val (.int y1), .val (.int sk), .val (.ref sa), .val (.ref sb), .val (.ref x_6), .val (.int sm), .val (.ref x_27), .val (.int (0 : Int32))] [(.int r_79)]
              refine Go.ifN 313 at_310 rfl (feq (fun q => by rw [pick hr_80 rfl] at q; exact absurd q (by decide))).1 ?_
              refine Go.iconst 314 (1 : Int32) at_313 rfl rfl ?_
              refine Go.goto 318 at_314 (by decide) (by decide) ?_
              exact Go.retN (1 : Int32) at_318 rfl (t := .boolean) (by simp) rfl (sf' := []) (rfl) (fun _ q => nomatch q) (Nat.le_of_ble_eq_true rfl) (Nat.le_of_ble_eq_true rfl)
          · skip
            refine Go.ifY 245 at_204 (by decide) (by decide) (feq hc204).2 ?_
            refine Go.iload 247 at_245 rfl rfl ?_
            refine Go.iconst 248 (1 : Int32) at_247 rfl rfl ?_
            by_cases hc248 : sk = (1 : Int32)
            · skip
              refine Go.icmpN 251 at_248 rfl (teq hc248).2 ?_
              refine Go.aconstNull 252 at_251 rfl ?_
              refine Go.astore 254 #[.val (.int p0), .val (.int p1), .val (.int p2), .val (.int p3), .val (.int k1), .val (.int kb), .val (.int n1), .val (.int m2), .val (.int u0), .val (.int u1), .val (.int y0), .val (.int y1), .val (.int sk), .val (.ref sa), .val (.ref sb), .val (.ref x_6), .val (.int sm), .val .null, .unset] at_252 rfl rfl rfl ?_
              refine Go.iconst 255 (0 : Int32) at_254 rfl rfl ?_
              refine Go.istore 257 #[.val (.int p0), .val (.int p1), .val (.int p2), .val (.int p3), .val (.int k1), .val (.int kb), .val (.int n1), .val (.int m2), .val (.int u0), .val (.int u1), .val (.int y0), .val (.int y1), .val (.int sk), .val (.ref sa), .val (.ref sb), .val (.ref x_6), .val (.int sm), .val .null, .val (.int (0 : Int32))] at_255 rfl rfl ?_
              refine Go.goto 291 at_257 (by decide) (by decide) ?_
              refine Go.aload 293 at_291 rfl rfl rfl ?_
              refine Go.aload 295 at_293 rfl rfl rfl ?_
              refine Go.callV (S := []) (a := x_6) 298 [.null] at_295 rfl rfl (w84 hw) (w85 hw) (w87 hw) (w86 hw) (fun _ q => notFace_of_selects (args := #[]) (mvT q (w87 hw))) (by decide) A_19 (call_of_go (R := _) (len := 3) (W := 0) (plainFor_of_name pn_8) (fun mid => ef_aeqnull mid x_6 ) (c_aeqnull hw x_6 ) (w88 hw) (w28 hw) (by decide) (by decide)) (lenOf pd_15 rfl) (Nat.le_of_ble_eq_true rfl) rfl (Nat.le_of_ble_eq_true rfl) (Nat.le_of_ble_eq_true rfl) (fun _ q => nomatch q) (fun v h_83 sf_84 hq => ?_)
              obtain ⟨rfl, rfl⟩ := hq
              refine Go.more (sf' := [x_6, sb, sa]) ?_ (Nat.le_refl _) (Nat.le_refl _) (fun _ q => List.mem_append_right _ q)
              show G_law l Z n0 17 67 [x_6, sb, sa] h_24 298 #[.val (.int p0), .val (.int p1), .val (.int p2), .val (.int p3), .val (.int k1), .val (.int kb), .val (.int n1), .val (.int m2), .val (.int u0), .val (.int u1), .val (.int y0), .val (.int y1), .val (.int sk), .val (.ref sa), .val (.ref sb), .val (.ref x_6), .val (.int sm), .val .null, .val (.int (0 : Int32))] [(.int (0 : Int32))]
              refine Go.iload 300 at_298 rfl rfl ?_
              refine Go.icmpN 303 at_300 rfl (teq (by decide)).2 ?_
              refine Go.aload 305 at_303 rfl rfl rfl ?_
              refine Go.aload 307 at_305 rfl rfl rfl ?_
              refine Go.callV (S := []) (a := x_6) 310 [(.ref x_6)] at_307 rfl rfl (w84 hw) (w85 hw) (w87 hw) (w86 hw) (fun _ q => notFace_of_selects (args := #[]) (mvT q (w87 hw))) (by decide) A_19 (call_of_go (R := _) (len := 3) (W := 0) (plainFor_of_name pn_8) (fun mid => ef_aeqs mid x_6 kd1 sa (strf n1 u0 u1) z ) (c_aeqs hw x_6 kd1 sa (strf n1 u0 u1) z f_20 f_21 A_19 S_22 (strf_len _ _ _) SC hz) (w88 hw) (w28 hw) (by decide) (by decide)) (lenOf pd_15 rfl) (Nat.le_of_ble_eq_true rfl) rfl (Nat.le_of_ble_eq_true rfl) (Nat.le_of_ble_eq_true rfl) (fun _ q => nomatch q) (fun v h_87 sf_88 hq => ?_)
              obtain ⟨rfl, r_85, rfl, hr_86⟩ := hq
              refine Go.more (sf' := [x_6, sb, sa]) ?_ (Nat.le_refl _) (Nat.le_refl _) (fun _ q => List.mem_append_right _ q)
              show G_law l Z n0 17 67 [x_6, sb, sa] h_24 310 #[.val (.int p0), .val (.int p1), .val (.int p2), .val (.int p3), .val (.int k1), .val (.int kb), .val (.int n1), .val (.int m2), .val (.int u0), .val (.int u1), .val (.int y0), .val (.int y1), .val (.int sk), .val (.ref sa), .val (.ref sb), .val (.ref x_6), .val (.int sm), .val .null, .val (.int (0 : Int32))] [(.int r_85)]
              refine Go.ifN 313 at_310 rfl (feq (fun q => by rw [pick hr_86 rfl] at q; exact absurd q (by decide))).1 ?_
              refine Go.iconst 314 (1 : Int32) at_313 rfl rfl ?_
              refine Go.goto 318 at_314 (by decide) (by decide) ?_
              exact Go.retN (1 : Int32) at_318 rfl (t := .boolean) (by simp) rfl (sf' := []) (rfl) (fun _ q => nomatch q) (Nat.le_of_ble_eq_true rfl) (Nat.le_of_ble_eq_true rfl)
            · skip
              refine Go.icmpY 260 at_248 (by decide) (by decide) (feq hc248).2 ?_
              refine Go.iload 262 at_260 rfl rfl ?_
              refine Go.iconst 263 (2 : Int32) at_262 rfl rfl ?_
              by_cases hc263 : sk = (2 : Int32)
              · skip
                refine Go.icmpN 266 at_263 rfl (teq hc263).2 ?_
                refine Go.aload 268 at_266 rfl rfl rfl ?_
                refine Go.iload 270 at_268 rfl rfl ?_
                refine Go.callS (S := [(.ref sb)]) 273 [(.int kb)] at_270 rfl rfl (w29 hw) (w30 hw) (w2 hw) (w31 hw) (by decide) (call_of_go (R := _) (len := 3) (W := 1) (plainFor_of_name pn_7) (fun mid => ef_typeof mid kb a0 a1 a2 ) (c_typeof hw kb a0 a1 a2 Z0 Z1 Z2) (w31 hw) (w2 hw) (by decide) (by decide)) (lenOf pd_17 rfl) (Nat.le_of_ble_eq_true rfl) rfl (Nat.le_of_ble_eq_true rfl) (Nat.le_of_ble_eq_true rfl) (fun _ q => nomatch q) (fun v h_89 sf_90 hq => ?_)
                obtain ⟨rfl, rfl⟩ := hq
                obtain ⟨kd2, e_kd2⟩ : ∃ y_ : Addr, y_ = kf a0 a1 a2 kb := ⟨_, rfl⟩
                rw [← e_kd2]
                refine Go.more (sf' := [x_6, sb, sa]) ?_ (Nat.le_refl _) (Nat.le_refl _) (fun _ q => List.mem_append_right _ q)
                show G_law l Z n0 17 67 [x_6, sb, sa] h_24 273 #[.val (.int p0), .val (.int p1), .val (.int p2), .val (.int p3), .val (.int k1), .val (.int kb), .val (.int n1), .val (.int m2), .val (.int u0), .val (.int u1), .val (.int y0), .val (.int y1), .val (.int sk), .val (.ref sa), .val (.ref sb), .val (.ref x_6), .val (.int sm), .unset, .unset] [(.ref kd2), (.ref sb)]
                refine Go.old fun o_91 _ => ?_
                have EX_kd2 : Exa Z h_24 kd2 "com/example/avain/avain/model/Type" := by rw [e_kd2]; exact (HX _ b_kb).ext o_91.2
                have FO_kd2 : Fld Z h_24 kd2 "java/lang/Enum" "ordinal" "I" (.int kb) := by rw [e_kd2]; exact (HO _ b_kb).ext o_91.2
                have NF_kd2 : kd2 ≠ fn := by rw [e_kd2]; exact HN _ b_kb
                have f_92 := ((S_sb.exa.ext E_9).keep K_18)
                have na1b : x_6 ≠ sb := ne_exa A_19 f_92 (by decide)
                have f_93 := (Hst.keep2 (S_sb.ext E_9) A_11 (by decide) (w27 hw) f_17 (w5 hw) nba K_18)
                refine Go.callS (S := []) 276 [(.ref sb), (.ref kd2)] at_273 rfl rfl (w121 hw) (w122 hw) (w123 hw) (w124 hw) (by decide) (call_of_go (R := _) (len := 3) (W := 0) (plainFor_of_name pn_6) (fun mid => ef_varof mid sb kd2 fn ca kb m2 y0 y1 z ) (c_varof hw sb kd2 fn ca kb m2 y0 y1 z EX_kd2 FO_kd2 f_93 b_m2 n0_sb ZF NF_kd2 b_kb IHi ICa HI SC hz) (w124 hw) (w123 hw) (by decide) (by decide)) (lenOf pd_19 rfl) (Nat.le_of_ble_eq_true rfl) rfl (Nat.le_of_ble_eq_true rfl) (Nat.le_of_ble_eq_true rfl) (sub1 (List.mem_of_getElem? (i := 1) rfl)) (fun v h_94 sf_95 hq => ?_)
                obtain ⟨yv, rfl, Kv, Ev⟩ := hq
                refine Go.more (sf' := [x_6, sb, sa]) ?_ (Nat.le_refl _) (Nat.le_refl _) (fun _ q => List.mem_append_right _ q)
                show G_law l Z n0 21 94 [x_6, sb, sa] h_94 276 #[.val (.int p0), .val (.int p1), .val (.int p2), .val (.int p3), .val (.int k1), .val (.int kb), .val (.int n1), .val (.int m2), .val (.int u0), .val (.int u1), .val (.int y0), .val (.int y1), .val (.int sk), .val (.ref sa), .val (.ref sb), .val (.ref x_6), .val (.int sm), .unset, .unset] [(.ref yv)]
                refine Go.astore 278 #[.val (.int p0), .val (.int p1), .val (.int p2), .val (.int p3), .val (.int k1), .val (.int kb), .val (.int n1), .val (.int m2), .val (.int u0), .val (.int u1), .val (.int y0), .val (.int y1), .val (.int sk), .val (.ref sa), .val (.ref sb), .val (.ref x_6), .val (.int sm), .val (.ref yv), .unset] at_276 rfl rfl rfl ?_
                refine Go.iconst 279 (0 : Int32) at_278 rfl rfl ?_
                refine Go.istore 281 #[.val (.int p0), .val (.int p1), .val (.int p2), .val (.int p3), .val (.int k1), .val (.int kb), .val (.int n1), .val (.int m2), .val (.int u0), .val (.int u1), .val (.int y0), .val (.int y1), .val (.int sk), .val (.ref sa), .val (.ref sb), .val (.ref x_6), .val (.int sm), .val (.ref yv), .val (.int (0 : Int32))] at_279 rfl rfl ?_
                refine Go.goto 291 at_281 (by decide) (by decide) ?_
                refine Go.aload 293 at_291 rfl rfl rfl ?_
                refine Go.aload 295 at_293 rfl rfl rfl ?_
                have f_98 := (A_19.keep Kv)
                refine Go.callV (S := []) (a := x_6) 298 [(.ref yv)] at_295 rfl rfl (w84 hw) (w85 hw) (w87 hw) (w86 hw) (fun _ q => notFace_of_selects (args := #[]) (mvT q (w87 hw))) (by decide) f_98 (call_of_go (R := _) (len := 3) (W := 0) (plainFor_of_name pn_8) (fun mid => ef_aeq1 mid x_6 yv ) (c_aeq1 hw x_6 yv Ev) (w88 hw) (w28 hw) (by decide) (by decide)) (lenOf pd_15 rfl) (Nat.le_of_ble_eq_true rfl) rfl (Nat.le_of_ble_eq_true rfl) (Nat.le_of_ble_eq_true rfl) (fun _ q => nomatch q) (fun v h_96 sf_97 hq => ?_)
                obtain ⟨rfl, rfl⟩ := hq
                refine Go.more (sf' := [x_6, sb, sa]) ?_ (Nat.le_refl _) (Nat.le_refl _) (fun _ q => List.mem_append_right _ q)
                show G_law l Z n0 21 94 [x_6, sb, sa] h_94 298 #[.val (.int p0), .val (.int p1), .val (.int p2), .val (.int p3), .val (.int k1), .val (.int kb), .val (.int n1), .val (.int m2), .val (.int u0), .val (.int u1), .val (.int y0), .val (.int y1), .val (.int sk), .val (.ref sa), .val (.ref sb), .val (.ref x_6), .val (.int sm), .val (.ref yv), .val (.int (0 : Int32))] [(.int (0 : Int32))]
                refine Go.iload 300 at_298 rfl rfl ?_
                refine Go.icmpN 303 at_300 rfl (teq (by decide)).2 ?_
                refine Go.aload 305 at_303 rfl rfl rfl ?_
                refine Go.aload 307 at_305 rfl rfl rfl ?_
                have f_99 := (f_20.keep Kv (ninS na1b nin0))
                have f_100 := (f_21.keep Kv (ninS na1b nin0))
                have f_101 := (Str.keepS S_22 f_92 (w5 hw) (Ne.symm nba) Kv)
                refine Go.callV (S := []) (a := x_6) 310 [(.ref x_6)] at_307 rfl rfl (w84 hw) (w85 hw) (w87 hw) (w86 hw) (fun _ q => notFace_of_selects (args := #[]) (mvT q (w87 hw))) (by decide) f_98 (call_of_go (R := _) (len := 3) (W := 0) (plainFor_of_name pn_8) (fun mid => ef_aeqs mid x_6 kd1 sa (strf n1 u0 u1) z ) (c_aeqs hw x_6 kd1 sa (strf n1 u0 u1) z f_99 f_100 f_98 f_101 (strf_len _ _ _) SC hz) (w88 hw) (w28 hw) (by decide) (by decide)) (lenOf pd_15 rfl) (Nat.le_of_ble_eq_true rfl) rfl (Nat.le_of_ble_eq_true rfl) (Nat.le_of_ble_eq_true rfl) (fun _ q => nomatch q) (fun v h_104 sf_105 hq => ?_)
                obtain ⟨rfl, r_102, rfl, hr_103⟩ := hq
                refine Go.more (sf' := [x_6, sb, sa]) ?_ (Nat.le_refl _) (Nat.le_refl _) (fun _ q => List.mem_append_right _ q)
                show G_law l Z n0 21 94 [x_6, sb, sa] h_94 310 #[.val (.int p0), .val (.int p1), .val (.int p2), .val (.int p3), .val (.int k1), .val (.int kb), .val (.int n1), .val (.int m2), .val (.int u0), .val (.int u1), .val (.int y0), .val (.int y1), .val (.int sk), .val (.ref sa), .val (.ref sb), .val (.ref x_6), .val (.int sm), .val (.ref yv), .val (.int (0 : Int32))] [(.int r_102)]
                refine Go.ifN 313 at_310 rfl (feq (fun q => by rw [pick hr_103 rfl] at q; exact absurd q (by decide))).1 ?_
                refine Go.iconst 314 (1 : Int32) at_313 rfl rfl ?_
                refine Go.goto 318 at_314 (by decide) (by decide) ?_
                exact Go.retN (1 : Int32) at_318 rfl (t := .boolean) (by simp) rfl (sf' := []) (rfl) (fun _ q => nomatch q) (Nat.le_of_ble_eq_true rfl) (Nat.le_of_ble_eq_true rfl)
              · skip
                refine Go.icmpY 284 at_263 (by decide) (by decide) (feq hc263).2 ?_
                refine Go.aload 286 at_284 rfl rfl rfl ?_
                refine Go.astore 288 #[.val (.int p0), .val (.int p1), .val (.int p2), .val (.int p3), .val (.int k1), .val (.int kb), .val (.int n1), .val (.int m2), .val (.int u0), .val (.int u1), .val (.int y0), .val (.int y1), .val (.int sk), .val (.ref sa), .val (.ref sb), .val (.ref x_6), .val (.int sm), .val (.ref sb), .unset] at_286 rfl rfl rfl ?_
                refine Go.iconst 289 (0 : Int32) at_288 rfl rfl ?_
                refine Go.istore 291 #[.val (.int p0), .val (.int p1), .val (.int p2), .val (.int p3), .val (.int k1), .val (.int kb), .val (.int n1), .val (.int m2), .val (.int u0), .val (.int u1), .val (.int y0), .val (.int y1), .val (.int sk), .val (.ref sa), .val (.ref sb), .val (.ref x_6), .val (.int sm), .val (.ref sb), .val (.int (0 : Int32))] at_289 rfl rfl ?_
                refine Go.aload 293 at_291 rfl rfl rfl ?_
                refine Go.aload 295 at_293 rfl rfl rfl ?_
                have f_106 := ((S_sb.exa.ext E_9).keep K_18)
                refine Go.callV (S := []) (a := x_6) 298 [(.ref sb)] at_295 rfl rfl (w84 hw) (w85 hw) (w87 hw) (w86 hw) (fun _ q => notFace_of_selects (args := #[]) (mvT q (w87 hw))) (by decide) A_19 (call_of_go (R := _) (len := 3) (W := 0) (plainFor_of_name pn_8) (fun mid => ef_aeq0 mid x_6 sb ) (c_aeq0 hw x_6 sb f_106) (w88 hw) (w28 hw) (by decide) (by decide)) (lenOf pd_15 rfl) (Nat.le_of_ble_eq_true rfl) rfl (Nat.le_of_ble_eq_true rfl) (Nat.le_of_ble_eq_true rfl) (fun _ q => nomatch q) (fun v h_107 sf_108 hq => ?_)
                obtain ⟨rfl, rfl⟩ := hq
                refine Go.more (sf' := [x_6, sb, sa]) ?_ (Nat.le_refl _) (Nat.le_refl _) (fun _ q => List.mem_append_right _ q)
                show G_law l Z n0 17 67 [x_6, sb, sa] h_24 298 #[.val (.int p0), .val (.int p1), .val (.int p2), .val (.int p3), .val (.int k1), .val (.int kb), .val (.int n1), .val (.int m2), .val (.int u0), .val (.int u1), .val (.int y0), .val (.int y1), .val (.int sk), .val (.ref sa), .val (.ref sb), .val (.ref x_6), .val (.int sm), .val (.ref sb), .val (.int (0 : Int32))] [(.int (0 : Int32))]
                refine Go.iload 300 at_298 rfl rfl ?_
                refine Go.icmpN 303 at_300 rfl (teq (by decide)).2 ?_
                refine Go.aload 305 at_303 rfl rfl rfl ?_
                refine Go.aload 307 at_305 rfl rfl rfl ?_
                refine Go.callV (S := []) (a := x_6) 310 [(.ref x_6)] at_307 rfl rfl (w84 hw) (w85 hw) (w87 hw) (w86 hw) (fun _ q => notFace_of_selects (args := #[]) (mvT q (w87 hw))) (by decide) A_19 (call_of_go (R := _) (len := 3) (W := 0) (plainFor_of_name pn_8) (fun mid => ef_aeqs mid x_6 kd1 sa (strf n1 u0 u1) z ) (c_aeqs hw x_6 kd1 sa (strf n1 u0 u1) z f_20 f_21 A_19 S_22 (strf_len _ _ _) SC hz) (w88 hw) (w28 hw) (by decide) (by decide)) (lenOf pd_15 rfl) (Nat.le_of_ble_eq_true rfl) rfl (Nat.le_of_ble_eq_true rfl) (Nat.le_of_ble_eq_true rfl) (fun _ q => nomatch q) (fun v h_111 sf_112 hq => ?_)
                obtain ⟨rfl, r_109, rfl, hr_110⟩ := hq
                refine Go.more (sf' := [x_6, sb, sa]) ?_ (Nat.le_refl _) (Nat.le_refl _) (fun _ q => List.mem_append_right _ q)
                show G_law l Z n0 17 67 [x_6, sb, sa] h_24 310 #[.val (.int p0), .val (.int p1), .val (.int p2), .val (.int p3), .val (.int k1), .val (.int kb), .val (.int n1), .val (.int m2), .val (.int u0), .val (.int u1), .val (.int y0), .val (.int y1), .val (.int sk), .val (.ref sa), .val (.ref sb), .val (.ref x_6), .val (.int sm), .val (.ref sb), .val (.int (0 : Int32))] [(.int r_109)]
                refine Go.ifN 313 at_310 rfl (feq (fun q => by rw [pick hr_110 rfl] at q; exact absurd q (by decide))).1 ?_
                refine Go.iconst 314 (1 : Int32) at_313 rfl rfl ?_
                refine Go.goto 318 at_314 (by decide) (by decide) ?_
                exact Go.retN (1 : Int32) at_318 rfl (t := .boolean) (by simp) rfl (sf' := []) (rfl) (fun _ q => nomatch q) (Nat.le_of_ble_eq_true rfl) (Nat.le_of_ble_eq_true rfl)
        by_cases hc166 : n1 = m2
        · skip
          refine Go.icmpN 169 at_166 rfl (teq hc166).2 ?_
          refine Go.iload 171 at_169 rfl rfl ?_
          refine Go.iconst 172 (1 : Int32) at_171 rfl rfl ?_
          by_cases hc172 : n1 < (1 : Int32)
          · skip
            refine Go.icmpY 182 at_172 (by decide) (by decide) (tlt hc172).1 ?_
            refine Go.iload 184 at_182 rfl rfl ?_
            refine Go.iconst 185 (2 : Int32) at_184 rfl rfl ?_
            by_cases hc185 : n1 < (2 : Int32)
            · skip
              refine Go.icmpY 195 at_185 (by decide) (by decide) (tlt hc185).1 ?_
              refine Go.iconst 196 (1 : Int32) at_195 rfl rfl ?_
              refine Go.goto 200 at_196 (by decide) (by decide) ?_
              exact cut200 _ (Or.inl ⟨rfl, ⟨hc166, Or.inl hc172, Or.inl hc185⟩⟩)
            · skip
              refine Go.icmpN 188 at_185 rfl (flt hc185).1 ?_
              refine Go.iload 190 at_188 rfl rfl ?_
              refine Go.iload 192 at_190 rfl rfl ?_
              by_cases hc192 : u1 = y1
              · skip
                refine Go.icmpN 195 at_192 rfl (teq hc192).2 ?_
                refine Go.iconst 196 (1 : Int32) at_195 rfl rfl ?_
                refine Go.goto 200 at_196 (by decide) (by decide) ?_
                exact cut200 _ (Or.inl ⟨rfl, ⟨hc166, Or.inl hc172, Or.inr hc192⟩⟩)
              · skip
                refine Go.icmpY 199 at_192 (by decide) (by decide) (feq hc192).2 ?_
                refine Go.iconst 200 (0 : Int32) at_199 rfl rfl ?_
                exact cut200 _ (Or.inr ⟨rfl, (fun q => q.2.2.elim hc185 hc192)⟩)
          · skip
            refine Go.icmpN 175 at_172 rfl (flt hc172).1 ?_
            refine Go.iload 177 at_175 rfl rfl ?_
            refine Go.iload 179 at_177 rfl rfl ?_
            by_cases hc179 : u0 = y0
            · skip
              refine Go.icmpN 182 at_179 rfl (teq hc179).2 ?_
              refine Go.iload 184 at_182 rfl rfl ?_
              refine Go.iconst 185 (2 : Int32) at_184 rfl rfl ?_
              by_cases hc185 : n1 < (2 : Int32)
              · skip
                refine Go.icmpY 195 at_185 (by decide) (by decide) (tlt hc185).1 ?_
                refine Go.iconst 196 (1 : Int32) at_195 rfl rfl ?_
                refine Go.goto 200 at_196 (by decide) (by decide) ?_
                exact cut200 _ (Or.inl ⟨rfl, ⟨hc166, Or.inr hc179, Or.inl hc185⟩⟩)
              · skip
                refine Go.icmpN 188 at_185 rfl (flt hc185).1 ?_
                refine Go.iload 190 at_188 rfl rfl ?_
                refine Go.iload 192 at_190 rfl rfl ?_
                by_cases hc192 : u1 = y1
                · skip
                  refine Go.icmpN 195 at_192 rfl (teq hc192).2 ?_
                  refine Go.iconst 196 (1 : Int32) at_195 rfl rfl ?_
                  refine Go.goto 200 at_196 (by decide) (by decide) ?_
                  exact cut200 _ (Or.inl ⟨rfl, ⟨hc166, Or.inr hc179, Or.inr hc192⟩⟩)
                · skip
                  refine Go.icmpY 199 at_192 (by decide) (by decide) (feq hc192).2 ?_
                  refine Go.iconst 200 (0 : Int32) at_199 rfl rfl ?_
                  exact cut200 _ (Or.inr ⟨rfl, (fun q => q.2.2.elim hc185 hc192)⟩)
            · skip
              refine Go.icmpY 199 at_179 (by decide) (by decide) (feq hc179).2 ?_
              refine Go.iconst 200 (0 : Int32) at_199 rfl rfl ?_
              exact cut200 _ (Or.inr ⟨rfl, (fun q => q.2.1.elim hc172 hc179)⟩)
        · skip
          refine Go.icmpY 199 at_166 (by decide) (by decide) (feq hc166).2 ?_
          refine Go.iconst 200 (0 : Int32) at_199 rfl rfl ?_
          exact cut200 _ (Or.inr ⟨rfl, (fun q => hc166 q.1)⟩)
      by_cases hc110 : (p3 &&& (4 : Int32)) = (0 : Int32)
      · skip
        refine Go.ifY 117 at_110 (by decide) (by decide) (teq hc110).1 ?_
        exact cut117 _ b_k2
      · skip
        refine Go.ifN 113 at_110 rfl (feq hc110).1 ?_
        refine Go.iload 115 at_113 rfl rfl ?_
        refine Go.istore 117 #[.val (.int p0), .val (.int p1), .val (.int p2), .val (.int p3), .val (.int k1), .val (.int k1), .val (.int n1), .val (.int m2), .val (.int u0), .val (.int u1), .val (.int y0), .val (.int y1), .unset, .unset, .unset, .unset, .unset, .unset, .unset] at_115 rfl rfl ?_
        exact cut117 _ b_k1
    by_cases hc100 : (p3 &&& (2 : Int32)) = (0 : Int32)
    · skip
      refine Go.ifY 107 at_100 (by decide) (by decide) (teq hc100).1 ?_
      exact cut107 _ b_n2
    · skip
      refine Go.ifN 103 at_100 rfl (feq hc100).1 ?_
      refine Go.iload 105 at_103 rfl rfl ?_
      refine Go.istore 107 #[.val (.int p0), .val (.int p1), .val (.int p2), .val (.int p3), .val (.int k1), .val (.int k2), .val (.int n1), .val (.int n1), .val (.int u0), .val (.int u1), .val (.int y0), .val (.int y1), .unset, .unset, .unset, .unset, .unset, .unset, .unset] at_105 rfl rfl ?_
      exact cut107 _ b_n1
  by_cases hc86 : (p3 &&& (1 : Int32)) = (0 : Int32)
  · skip
    refine Go.ifY 97 at_86 (by decide) (by decide) (teq hc86).1 ?_
    exact cut97 _ _ b_v0 b_v1
  · skip
    refine Go.ifN 89 at_86 rfl (feq hc86).1 ?_
    refine Go.iload 91 at_89 rfl rfl ?_
    refine Go.istore 93 #[.val (.int p0), .val (.int p1), .val (.int p2), .val (.int p3), .val (.int k1), .val (.int k2), .val (.int n1), .val (.int n2), .val (.int u0), .val (.int u1), .val (.int u0), .val (.int v1), .unset, .unset, .unset, .unset, .unset, .unset, .unset] at_91 rfl rfl ?_
    refine Go.iload 95 at_93 rfl rfl ?_
    refine Go.istore 97 #[.val (.int p0), .val (.int p1), .val (.int p2), .val (.int p3), .val (.int k1), .val (.int k2), .val (.int n1), .val (.int n2), .val (.int u0), .val (.int u1), .val (.int u0), .val (.int u1), .unset, .unset, .unset, .unset, .unset, .unset, .unset] at_95 rfl rfl ?_
    exact cut97 _ _ b_u0 b_u1
set_option maxRecDepth 65536 in
set_option maxHeartbeats 40000000 in
theorem comes_1 {Post : Tables → Env → Array Value → State → Outcome → State → Prop} (hpost : ∀ tb e args s v u, (limb_1_1.after args s (.returned v) u = true ∧ limb_1_2.after args s (.returned v) u = true ∧ True) → ReturnedEndW s (.returned v) u (Jvm.fieldLocs frame_1_writes args s ++ Jvm.arrayLocs frame_1_arrays args s ++ Jvm.staticLocs frame_1_statics s) 40 4288 → Post tb e args s (.returned v) u) :
    ArmFor flags0 classFile x code maxLocals ret World_1 tables_1 room_1 Calls_1 rest_1 Pre_1 Post := by
  intro l hfl _ _ p e ha hc hk s m args below hf hA hF happ hP
  obtain ⟨hcalls, hrest, hpre⟩ := hP
  obtain ⟨-, -, -, hnamed, -, -, -, hat⟩ := (Spec.applies_iff hf).mp happ
  obtain ⟨hg, hn⟩ := and_e (Cond.before_iff.mp (show (Jvm.Cond.and given_1 narrow_1).before args s = true from hpre))
  obtain ⟨g0, k1⟩ := and_e hg
  obtain ⟨g1, k2⟩ := and_e k1
  obtain ⟨g2, k3⟩ := and_e k2
  obtain ⟨g3, k4⟩ := and_e k3
  have g4 := k4
  obtain ⟨w0, w1, w2, w3, rfl⟩ : ∃ w0 w1 w2 w3 : Value, args = #[w0, w1, w2, w3] := by
    have hs : args.size = 4 := by simpa [Cond.value, given_1] using g0
    obtain ⟨L⟩ := args
    match L, hs with
    | [w0, w1, w2, w3], _ => exact ⟨w0, w1, w2, w3, rfl⟩
  have hw : HW _ s := fun d (hd : d ∈ tables_1) => atoms_spec (ws := Jvm.Cond.code x code maxLocals ret :: tables_1) hat d (List.mem_cons_of_mem _ hd)
  obtain ⟨hsets, hown0⟩ := atoms_of _ (rest_1_c_eq ▸ (show rest_1_c.before _ s = true from hrest))
  obtain ⟨p0, ea0⟩ := is_v g1
  obtain rfl : w0 = (.int p0) := Option.some.inj ea0
  obtain ⟨p1, ea1⟩ := is_v g2
  obtain rfl : w1 = (.int p1) := Option.some.inj ea1
  obtain ⟨p2, ea2⟩ := is_v g3
  obtain rfl : w2 = (.int p2) := Option.some.inj ea2
  obtain ⟨p3, ea3⟩ := is_v g4
  obtain rfl : w3 = (.int p3) := Option.some.inj ea3
  obtain ⟨z, ez⟩ := is_v (Cond.before_iff.mp (hsets _ (List.mem_of_getElem? (i := 1) rfl)))
  have SC : Sta s s.heap "java/lang/String" "COMPACT_STRINGS" "Z" (.int z) := Sta.start ez (Or.inl (hsets _ (List.mem_of_getElem? (i := 0) rfl)))
  have hz : ¬ (z = (0 : Int32)) := gotF (Cond.eq_ints ez (Term.int_eval (0))) (not_v (Cond.before_iff.mp (hsets _ (List.mem_of_getElem? (i := 2) rfl))))
  obtain ⟨r0, hn1⟩ := and_e hn
  obtain ⟨r1, hn2⟩ := and_e hn1
  obtain ⟨r2, hn3⟩ := and_e hn2
  obtain ⟨r3, hn4⟩ := and_e hn3
  obtain ⟨r4, hn5⟩ := and_e hn4
  obtain ⟨r5, hn6⟩ := and_e hn5
  obtain ⟨r6, hn7⟩ := and_e hn6
  have r7 := hn7
  obtain ⟨s_AGENT, ev_s_AGENT⟩ := exa_v r0
  have X_s_AGENT : Exa s s.heap s_AGENT "com/example/avain/avain/model/Type" := Exa.start ev_s_AGENT r0
  have Z_s_AGENT : Sta s s.heap "com/example/avain/avain/model/Type" "AGENT" "Lcom/example/avain/avain/model/Type;" (.ref s_AGENT) := Sta.start ev_s_AGENT (Or.inr ⟨(w33 hw), (w34 hw)⟩)
  obtain ⟨s_FUNCTION, ev_s_FUNCTION⟩ := exa_v r1
  have X_s_FUNCTION : Exa s s.heap s_FUNCTION "com/example/avain/avain/model/Type" := Exa.start ev_s_FUNCTION r1
  have Z_s_FUNCTION : Sta s s.heap "com/example/avain/avain/model/Type" "FUNCTION" "Lcom/example/avain/avain/model/Type;" (.ref s_FUNCTION) := Sta.start ev_s_FUNCTION (Or.inr ⟨(w33 hw), (w40 hw)⟩)
  obtain ⟨s_NUMBER, ev_s_NUMBER⟩ := exa_v r4
  have X_s_NUMBER : Exa s s.heap s_NUMBER "com/example/avain/avain/model/Type" := Exa.start ev_s_NUMBER r4
  have Z_s_NUMBER : Sta s s.heap "com/example/avain/avain/model/Type" "NUMBER" "Lcom/example/avain/avain/model/Type;" (.ref s_NUMBER) := Sta.start ev_s_NUMBER (Or.inr ⟨(w33 hw), (w101 hw)⟩)
  obtain ⟨s_SYMMETRIC_KEY, ev_s_SYMMETRIC_KEY⟩ := exa_v r6
  have X_s_SYMMETRIC_KEY : Exa s s.heap s_SYMMETRIC_KEY "com/example/avain/avain/model/Type" := Exa.start ev_s_SYMMETRIC_KEY r6
  have Z_s_SYMMETRIC_KEY : Sta s s.heap "com/example/avain/avain/model/Type" "SYMMETRIC_KEY" "Lcom/example/avain/avain/model/Type;" (.ref s_SYMMETRIC_KEY) := Sta.start ev_s_SYMMETRIC_KEY (Or.inr ⟨(w33 hw), (w178 hw)⟩)
  have F_s_AGENT_ordinal : Fld s s.heap s_AGENT "java/lang/Enum" "ordinal" "I" (.int (0 : Int32)) := fld_int r2 ev_s_AGENT
  have F_s_FUNCTION_ordinal : Fld s s.heap s_FUNCTION "java/lang/Enum" "ordinal" "I" (.int (3 : Int32)) := fld_int r3 ev_s_FUNCTION
  have F_s_NUMBER_ordinal : Fld s s.heap s_NUMBER "java/lang/Enum" "ordinal" "I" (.int (1 : Int32)) := fld_int r5 ev_s_NUMBER
  have F_s_SYMMETRIC_KEY_ordinal : Fld s s.heap s_SYMMETRIC_KEY "java/lang/Enum" "ordinal" "I" (.int (2 : Int32)) := fld_int r7 ev_s_SYMMETRIC_KEY
  have IHi := sta_int (Cond.before_iff.mp (hsets _ (List.mem_of_getElem? (i := 12) rfl))) (Or.inl (hsets _ (List.mem_of_getElem? (i := 10) rfl)))
  have zA := Cond.before_iff.mp (hsets _ (List.mem_of_getElem? (i := 13) rfl))
  have zE := Cond.before_iff.mp (hsets _ (List.mem_of_getElem? (i := 14) rfl))
  have zL := Cond.before_iff.mp (hsets _ (List.mem_of_getElem? (i := 15) rfl))
  have zB := Cond.before_iff.mp (hsets _ (List.mem_of_getElem? (i := 16) rfl))
  obtain ⟨ca, ev_ca⟩ := exa_v zE
  have ICa : Sta s s.heap "java/lang/Integer$IntegerCache" "cache" "[Ljava/lang/Integer;" (.ref ca) := Sta.start ev_ca (Or.inr ⟨(w150 hw), hsets _ (List.mem_of_getElem? (i := 11) rfl)⟩)
  have HI := cache_at ev_ca zA zL zB
  have hCH : CHv s consts_1 s.vm s.heap := CHv.start (ew hw) (fun p hp => hcalls.1 p hp) (hsets _ (List.mem_of_getElem? (i := 2) rfl)) (w19 hw) (w5 hw)

  obtain ⟨n, o, h1, h2, h3, _, L, _, rfl, rfl, -, N, -, -, hq⟩ := met_of_go (md := some consts_1) (desc := "(IIII)Z") (ws := tables_1) (plainFor_of_name pn_7) (fun m => ef_law m p0 p1 p2 p3) (law_go (l := l) (Z := s) (n0 := s.heap.size) (h0 := s.heap) hw p0 p1 p2 p3 z SC hz s_AGENT s_NUMBER s_SYMMETRIC_KEY s_FUNCTION ca Z_s_AGENT Z_s_NUMBER Z_s_SYMMETRIC_KEY Z_s_FUNCTION (fun _ q => kf_ord F_s_AGENT_ordinal F_s_NUMBER_ordinal F_s_SYMMETRIC_KEY_ordinal q) (fun _ q => kf_exa X_s_AGENT X_s_NUMBER X_s_SYMMETRIC_KEY q) (fun k q => Fld.ne (kf_ord F_s_AGENT_ordinal F_s_NUMBER_ordinal F_s_SYMMETRIC_KEY_ordinal q) F_s_FUNCTION_ordinal (by rcases q with rfl | rfl | rfl <;> decide)) IHi ICa HI) p e ha hc hk s m _ below hf ((Spec.applies_iff_loose hf).mp happ).1 ⟨rfl, State.Warmed39.refl s, rfl, Old.start s, ⟨_, (State.WarmedH.refl s).since _, Nat.le_refl _⟩, ⟨_, ew hw⟩, CHr.refl hCH, fun x hx => nomatch hx⟩ trivial
  refine ⟨n, _, h1, h2, h3, hpost _ _ _ _ _ _ ⟨Cond.after_iff.mpr rfl, Cond.after_iff.mpr (eq_i res_at (Term.int_eval (1)) rfl), trivial⟩ ⟨hq.1, hq.2.1, hq.2.2.1, (hq.2.2.2.sift fun y hy => Or.inr (N y hy)).mono (by decide) (by decide)⟩⟩
theorem main_1_1 : Claimed_1_1 := comes_1 fun _ _ _ _ _ _ h hF => ⟨h.1, hF⟩
theorem main_1_2 : Claimed_1_2 := comes_1 fun _ _ _ _ _ _ h hF => ⟨h.2.1, hF⟩
end Jvm.Pilot.@@N@@
namespace Jvm.Pilot.@@N@@
open Jvm Jvm.ClassFile Sem Op Lib Jvm.Free Jvm.Stand Jvm.Pilot.@@N@@.Jvm.D
/-! MADE BY PROGRAM (witnessworld.py) out of the Statement's table words and the real class files: 31 classes; the members and pool entries that the words name. The judged class is class 1, her method 3. -/
namespace start1
open Jvm.ClassFile
def u (s : String) : CpInfo := .utf8 (stringToUtf16 s)
/-- a pool by its gaps: so many unusable entries, then the entry; so many at the end -/
def gap : Nat → List CpInfo → List CpInfo
  | 0, r => r
  | n + 1, r => .unusable :: gap n r
def poolList (es : List (Nat × CpInfo)) (last : Nat) : List CpInfo := es.foldr (fun e r => gap e.1 (e.2 :: r)) (gap last [])
def pool (es : List (Nat × CpInfo)) (last : Nat) : Array CpInfo := ⟨poolList es last⟩
def fileOf (pool : Array CpInfo) (this : Nat) (attrs : Array Attribute := #[]) (ms : Array MethodInfo := #[]) (fl : Nat := 33) (sup : Nat := 0) (ifs : Array Nat := #[]) (fds : Array FieldInfo := #[]) : ClassFile where
  minorVersion := 0
  majorVersion := 65
  constantPool := pool
  accessFlags := fl
  thisClass := this
  superClass := sup
  interfaces := ifs
  fields := fds
  methods := ms
  attributes := attrs
def plain (name : String) (sup : Option ClassId) : Class where
  name := name
  kind := .ordinary
  loader := none
  accessFlags := 33
  super := sup
  interfaces := #[]
  cf := none
  fields := #[]
  methods := #[]
  instanceTypes := #[]
  staticTypes := #[]
  resolved := #[]
  callSites := []
  init := .initialized
  statics := none
  mirror := none

def pool0 : Array CpInfo := pool [(5, u "<init>"), (0, u "()V"), (1, .class_ 10), (1, u "java/lang/Object"), (16, u "hashCode"), (0, u "()I")] 95

def k0c0 : Code := { maxStack := 0, maxLocals := 1, code := object_method_1_code, exceptionTable := #[], attributes := #[] }
def k0m0 : Method := { name := "<init>", desc := "()V", sig := { parameters := [], returnType := none }, accessFlags := 1, code := some k0c0 }
def k0m1 : Method := { name := "hashCode", desc := "()I", sig := { parameters := [], returnType := some .int }, accessFlags := 257, code := none }
/-- java/lang/Object -/
def k0 : Class := { plain "java/lang/Object" none with
  accessFlags := 33
  interfaces := #[]
  cf := some (fileOf pool0 8 #[] #[{ accessFlags := 1, nameIndex := 5, descriptorIndex := 6, attributes := #[] }, { accessFlags := 257, nameIndex := 27, descriptorIndex := 28, attributes := #[] }] 33 0 #[] #[])
  fields := #[]
  methods := #[k0m0, k0m1]
  instanceTypes := #[]
  staticTypes := #[]
  resolved := Array.replicate 124 none
  statics := none }

def pool1 : Array CpInfo := pool [(2, .class_ 4), (1, u "java/lang/Object"), (0, u "<init>"), (0, u "()V"), (0, .fieldref 8 9), (0, .class_ 10), (0, .nameAndType 11 12), (0, u "com/example/avain/avain/model/Type"), (0, u "AGENT"), (0, u "Lcom/example/avain/avain/model/Type;"), (0, .fieldref 8 14), (0, .nameAndType 15 12), (0, u "NUMBER"), (0, .fieldref 8 17), (0, .nameAndType 18 12), (0, u "SYMMETRIC_KEY"), (0, .class_ 20), (0, u "java/lang/String"), (0, .methodref 19 22), (0, .nameAndType 5 23), (0, u "([C)V"), (0, .methodref 25 26), (0, .class_ 27), (0, .nameAndType 28 29), (0, u "com/example/avain/avain/model/AtomEqualsPinLaw"), (0, u "str"), (0, u "(ICC)Ljava/lang/String;"), (0, .class_ 31), (0, u "com/example/avain/avain/model/Atom"), (0, .methodref 25 33), (0, .nameAndType 34 35), (0, u "typeOf"), (0, u "(I)Lcom/example/avain/avain/model/Type;"), (0, .methodref 30 37), (0, .nameAndType 5 38), (0, u "(Lcom/example/avain/avain/model/Type;Ljava/lang/String;)V"), (0, .methodref 40 41), (0, .class_ 42), (0, .nameAndType 43 44), (0, u "com/example/avain/avain/model/Variable"), (0, u "of"), (0, u "(Ljava/lang/String;Lcom/example/avain/avain/model/Type;)Lcom/example/avain/avain/model/Variable;"), (0, .methodref 30 46), (0, .nameAndType 47 48), (0, u "equals"), (0, u "(Ljava/lang/Object;)Z"), (3, u "law"), (0, u "(IIII)Z")] 2

def k1m0 : Method := { name := "<init>", desc := "()V", sig := { parameters := [], returnType := none }, accessFlags := 1, code := none }
def k1c1 : Code := { maxStack := 2, maxLocals := 1, code := method_2_code, exceptionTable := #[], attributes := #[] }
def k1m1 : Method := { name := "typeOf", desc := "(I)Lcom/example/avain/avain/model/Type;", sig := { parameters := [.int], returnType := some (.object "com/example/avain/avain/model/Type") }, accessFlags := 10, code := some k1c1 }
def k1c2 : Code := { maxStack := 3, maxLocals := 4, code := method_3_code, exceptionTable := #[], attributes := #[] }
def k1m2 : Method := { name := "str", desc := "(ICC)Ljava/lang/String;", sig := { parameters := [.int, .char, .char], returnType := some (.object "java/lang/String") }, accessFlags := 10, code := some k1c2 }
def k1c3 : Code := { maxStack := 4, maxLocals := 19, code := code, exceptionTable := #[], attributes := #[] }
def k1m3 : Method := { name := "law", desc := "(IIII)Z", sig := { parameters := [.int, .int, .int, .int], returnType := some .boolean }, accessFlags := 9, code := some k1c3 }
/-- com/example/avain/avain/model/AtomEqualsPinLaw -/
def k1 : Class := { plain "com/example/avain/avain/model/AtomEqualsPinLaw" (some 0) with
  accessFlags := 49
  interfaces := #[]
  cf := some (fileOf pool1 25 #[] #[{ accessFlags := 1, nameIndex := 5, descriptorIndex := 6, attributes := #[] }, { accessFlags := 10, nameIndex := 34, descriptorIndex := 35, attributes := #[] }, { accessFlags := 10, nameIndex := 28, descriptorIndex := 29, attributes := #[] }, { accessFlags := 9, nameIndex := 52, descriptorIndex := 53, attributes := #[] }] 49 2 #[] #[])
  fields := #[]
  methods := #[k1m0, k1m1, k1m2, k1m3]
  instanceTypes := #[]
  staticTypes := #[]
  resolved := Array.replicate 56 none
  statics := none }

def pool2 : Array CpInfo := pool [(1, .class_ 2), (0, u "java/io/Serializable"), (0, .class_ 4), (0, u "java/lang/Object")] 2

/-- java/io/Serializable -/
def k2 : Class := { plain "java/io/Serializable" (some 0) with
  accessFlags := 1537
  interfaces := #[]
  cf := some (fileOf pool2 1 #[] #[] 1537 3 #[] #[])
  fields := #[]
  methods := #[]
  instanceTypes := #[]
  staticTypes := #[]
  resolved := Array.replicate 7 none
  statics := none }

def pool3 : Array CpInfo := pool [(1, .class_ 2), (0, u "java/lang/Comparable"), (0, .class_ 4), (0, u "java/lang/Object")] 7

/-- java/lang/Comparable -/
def k3 : Class := { plain "java/lang/Comparable" (some 0) with
  accessFlags := 1537
  interfaces := #[]
  cf := some (fileOf pool3 1 #[] #[] 1537 3 #[] #[])
  fields := #[]
  methods := #[]
  instanceTypes := #[]
  staticTypes := #[]
  resolved := Array.replicate 12 none
  statics := none }

def pool4 : Array CpInfo := pool [(2, .class_ 4), (1, u "java/lang/CharSequence"), (42, .class_ 48), (0, u "java/lang/CharSequence$1CodePointIterator"), (10, .class_ 60), (0, u "java/lang/CharSequence$1CharIterator"), (5, .class_ 67), (0, u "java/lang/Object")] 63

/-- java/lang/CharSequence -/
def k4 : Class := { plain "java/lang/CharSequence" (some 0) with
  accessFlags := 1537
  interfaces := #[]
  cf := some (fileOf pool4 2 #[.nestMembers #[47, 59]] #[] 1537 66 #[] #[])
  fields := #[]
  methods := #[]
  instanceTypes := #[]
  staticTypes := #[]
  resolved := Array.replicate 131 none
  statics := none }

def pool5 : Array CpInfo := pool [(1, .class_ 2), (0, u "java/lang/constant/Constable"), (0, .class_ 4), (0, u "java/lang/Object")] 6

/-- java/lang/constant/Constable -/
def k5 : Class := { plain "java/lang/constant/Constable" (some 0) with
  accessFlags := 1537
  interfaces := #[]
  cf := some (fileOf pool5 1 #[] #[] 1537 3 #[] #[])
  fields := #[]
  methods := #[]
  instanceTypes := #[]
  staticTypes := #[]
  resolved := Array.replicate 11 none
  statics := none }

def pool6 : Array CpInfo := pool [(1, .class_ 2), (0, u "java/lang/constant/ConstantDesc"), (0, .class_ 4), (0, u "java/lang/Object")] 32

/-- java/lang/constant/ConstantDesc -/
def k6 : Class := { plain "java/lang/constant/ConstantDesc" (some 0) with
  accessFlags := 1537
  interfaces := #[]
  cf := some (fileOf pool6 1 #[] #[] 1537 3 #[] #[])
  fields := #[]
  methods := #[]
  instanceTypes := #[]
  staticTypes := #[]
  resolved := Array.replicate 37 none
  statics := none }

def pool7 : Array CpInfo := pool [(1, .methodref 2 3), (0, .class_ 4), (0, .nameAndType 5 6), (0, u "java/lang/Object"), (0, u "<init>"), (0, u "()V"), (0, .string 8), (0, u ""), (0, .fieldref 10 11), (0, .class_ 12), (0, .nameAndType 13 14), (0, u "java/lang/String"), (0, u "value"), (0, u "[B"), (0, .fieldref 10 16), (0, .nameAndType 17 18), (0, u "coder"), (0, u "B"), (0, .fieldref 10 20), (0, .nameAndType 21 22), (0, u "hash"), (0, u "I"), (0, .fieldref 10 24), (0, .nameAndType 25 26), (0, u "hashIsZero"), (0, u "Z"), (0, .methodref 10 28), (0, .nameAndType 5 29), (0, u "([CIILjava/lang/Void;)V"), (8, .fieldref 10 39), (0, .nameAndType 40 26), (0, u "COMPACT_STRINGS"), (1, .class_ 44), (1, u "java/lang/StringUTF16"), (0, u "compress"), (1, .methodref 42 48), (0, .nameAndType 49 50), (0, u "coderFromArrayLen"), (0, u "([BI)B"), (56, .class_ 109), (1, u "java/lang/StringLatin1"), (32, u "()Z"), (34, .methodref 42 178), (0, .nameAndType 45 179), (0, u "([CII)[B"), (154, u "()I"), (157, .methodref 10 493), (0, .nameAndType 494 142), (0, u "isLatin1"), (46, .methodref 107 542), (0, .nameAndType 543 544), (0, u "equals"), (0, u "([B[B)Z"), (28, u "(Ljava/lang/Object;)Z"), (1, .class_ 576), (0, u "java/lang/CharSequence"), (22, u "CASE_INSENSITIVE_ORDER"), (0, u "Ljava/util/Comparator;"), (27, .methodref 107 629), (0, .nameAndType 630 631), (0, u "hashCode"), (0, u "([B)I"), (378, u "([C)V"), (90, u "serialPersistentFields"), (0, u "[Ljava/io/ObjectStreamField;"), (0, .class_ 1104), (0, u "java/lang/String$CaseInsensitiveComparator"), (1, .class_ 1107), (0, u "java/io/Serializable"), (0, .class_ 1109), (0, u "java/lang/Comparable"), (0, .class_ 1111), (0, u "java/lang/constant/Constable"), (0, .class_ 1113), (0, u "java/lang/constant/ConstantDesc"), (2, u "serialVersionUID"), (0, u "J"), (3, u "REPL"), (0, u "C"), (2, u "LATIN1"), (1, u "UTF16")] 323

def k7m0 : Method := { name := "<init>", desc := "()V", sig := { parameters := [], returnType := none }, accessFlags := 1, code := none }
def k7c1 : Code := { maxStack := 5, maxLocals := 2, code := jdk_42_method_3_code, exceptionTable := #[], attributes := #[] }
def k7m1 : Method := { name := "<init>", desc := "([C)V", sig := { parameters := [(.array .char)], returnType := none }, accessFlags := 1, code := some k7c1 }
def k7c2 : Code := { maxStack := 2, maxLocals := 3, code := jdk_42_method_66_code, exceptionTable := #[], attributes := #[] }
def k7m2 : Method := { name := "equals", desc := "(Ljava/lang/Object;)Z", sig := { parameters := [(.object "java/lang/Object")], returnType := some .boolean }, accessFlags := 1, code := some k7c2 }
def k7c3 : Code := { maxStack := 2, maxLocals := 2, code := jdk_42_method_78_code, exceptionTable := #[], attributes := #[] }
def k7m3 : Method := { name := "hashCode", desc := "()I", sig := { parameters := [], returnType := some .int }, accessFlags := 1, code := some k7c3 }
def k7c4 : Code := { maxStack := 4, maxLocals := 6, code := jdk_42_method_149_code, exceptionTable := #[], attributes := #[] }
def k7m4 : Method := { name := "<init>", desc := "([CIILjava/lang/Void;)V", sig := { parameters := [(.array .char), .int, .int, (.object "java/lang/Void")], returnType := none }, accessFlags := 2, code := some k7c4 }
def k7c5 : Code := { maxStack := 1, maxLocals := 1, code := jdk_42_method_154_code, exceptionTable := #[], attributes := #[] }
def k7m5 : Method := { name := "isLatin1", desc := "()Z", sig := { parameters := [], returnType := some .boolean }, accessFlags := 0, code := some k7c5 }
/-- java/lang/String -/
def k7 : Class := { plain "java/lang/String" (some 0) with
  accessFlags := 49
  interfaces := #[2, 3, 4, 5, 6]
  cf := some (fileOf pool7 10 #[.nestMembers #[1103]] #[{ accessFlags := 1, nameIndex := 5, descriptorIndex := 6, attributes := #[] }, { accessFlags := 1, nameIndex := 5, descriptorIndex := 1010, attributes := #[] }, { accessFlags := 1, nameIndex := 543, descriptorIndex := 573, attributes := #[] }, { accessFlags := 1, nameIndex := 630, descriptorIndex := 334, attributes := #[] }, { accessFlags := 2, nameIndex := 5, descriptorIndex := 29, attributes := #[] }, { accessFlags := 0, nameIndex := 494, descriptorIndex := 142, attributes := #[] }] 49 2 #[1106, 1108, 575, 1110, 1112] #[{ accessFlags := 18, nameIndex := 13, descriptorIndex := 14, attributes := #[] }, { accessFlags := 18, nameIndex := 17, descriptorIndex := 18, attributes := #[] }, { accessFlags := 2, nameIndex := 21, descriptorIndex := 22, attributes := #[] }, { accessFlags := 2, nameIndex := 25, descriptorIndex := 26, attributes := #[] }, { accessFlags := 26, nameIndex := 1116, descriptorIndex := 1117, attributes := #[] }, { accessFlags := 24, nameIndex := 40, descriptorIndex := 26, attributes := #[] }, { accessFlags := 26, nameIndex := 1101, descriptorIndex := 1102, attributes := #[] }, { accessFlags := 26, nameIndex := 1121, descriptorIndex := 1122, attributes := #[] }, { accessFlags := 25, nameIndex := 599, descriptorIndex := 600, attributes := #[] }, { accessFlags := 24, nameIndex := 1125, descriptorIndex := 18, attributes := #[] }, { accessFlags := 24, nameIndex := 1127, descriptorIndex := 18, attributes := #[] }])
  fields := #[{ name := "value", type := (.array .byte), accessFlags := 18, slot := 0, constantValue := 0 }, { name := "coder", type := .byte, accessFlags := 18, slot := 1, constantValue := 0 }, { name := "hash", type := .int, accessFlags := 2, slot := 2, constantValue := 0 }, { name := "hashIsZero", type := .boolean, accessFlags := 2, slot := 3, constantValue := 0 }, { name := "serialVersionUID", type := .long, accessFlags := 26, slot := 0, constantValue := 0 }, { name := "COMPACT_STRINGS", type := .boolean, accessFlags := 24, slot := 1, constantValue := 0 }, { name := "serialPersistentFields", type := (.array (.object "java/io/ObjectStreamField")), accessFlags := 26, slot := 2, constantValue := 0 }, { name := "REPL", type := .char, accessFlags := 26, slot := 3, constantValue := 0 }, { name := "CASE_INSENSITIVE_ORDER", type := (.object "java/util/Comparator"), accessFlags := 25, slot := 4, constantValue := 0 }, { name := "LATIN1", type := .byte, accessFlags := 24, slot := 5, constantValue := 0 }, { name := "UTF16", type := .byte, accessFlags := 24, slot := 6, constantValue := 0 }]
  methods := #[k7m0, k7m1, k7m2, k7m3, k7m4, k7m5]
  instanceTypes := #[(.array .byte), .byte, .int, .boolean]
  staticTypes := #[.long, .boolean, (.array (.object "java/io/ObjectStreamField")), .char, (.object "java/util/Comparator"), .byte, .byte]
  resolved := Array.replicate 1451 none
  statics := some 0 }

def pool8 : Array CpInfo := pool [(14, .class_ 16), (1, u "com/example/avain/avain/model/Term"), (96, .class_ 114), (0, u "java/lang/Object"), (0, .class_ 116), (0, u "java/lang/Comparable")] 45

/-- com/example/avain/avain/model/Term -/
def k8 : Class := { plain "com/example/avain/avain/model/Term" (some 0) with
  accessFlags := 1537
  interfaces := #[3]
  cf := some (fileOf pool8 14 #[] #[] 1537 113 #[115] #[])
  fields := #[]
  methods := #[]
  instanceTypes := #[]
  staticTypes := #[]
  resolved := Array.replicate 162 none
  statics := none }

def pool9 : Array CpInfo := pool [(1, .methodref 2 3), (0, .class_ 4), (0, .nameAndType 5 6), (0, u "java/lang/Object"), (0, u "<init>"), (0, u "()V"), (0, .fieldref 8 9), (0, .class_ 10), (0, .nameAndType 11 12), (0, u "com/example/avain/avain/model/Type"), (0, u "FUNCTION"), (0, u "Lcom/example/avain/avain/model/Type;"), (9, .string 23), (0, u "type"), (0, .methodref 25 26), (0, .class_ 27), (0, .nameAndType 28 29), (0, u "java/util/Objects"), (0, u "requireNonNull"), (0, u "(Ljava/lang/Object;Ljava/lang/String;)Ljava/lang/Object;"), (0, .fieldref 31 32), (0, .class_ 33), (0, .nameAndType 23 12), (0, u "com/example/avain/avain/model/Atom"), (0, .string 35), (0, u "text"), (0, .class_ 37), (0, u "java/lang/String"), (0, .fieldref 31 39), (0, .nameAndType 35 40), (0, u "Ljava/lang/String;"), (0, .methodref 8 42), (0, .nameAndType 43 44), (0, u "ordinal"), (0, u "()I"), (0, .methodref 36 46), (0, .nameAndType 47 44), (0, u "hashCode"), (0, .fieldref 31 49), (0, .nameAndType 50 51), (0, u "hash"), (0, u "I"), (15, u "(Lcom/example/avain/avain/model/Type;Ljava/lang/String;)V"), (8, u "INTRUDER"), (0, u "Lcom/example/avain/avain/model/Atom;"), (5, u "OPEN_VALUES"), (0, u "[[Lcom/example/avain/avain/model/Atom;"), (9, .methodref 36 95), (0, .nameAndType 96 97), (0, u "equals"), (0, u "(Ljava/lang/Object;)Z"), (7, .class_ 106), (0, u "com/example/avain/avain/model/Term"), (0, u "OPEN"), (1, u "CACHED")] 46

def k9c0 : Code := { maxStack := 3, maxLocals := 3, code := prog_44_method_1_code, exceptionTable := #[], attributes := #[] }
def k9m0 : Method := { name := "<init>", desc := "(Lcom/example/avain/avain/model/Type;Ljava/lang/String;)V", sig := { parameters := [(.object "com/example/avain/avain/model/Type"), (.object "java/lang/String")], returnType := none }, accessFlags := 1, code := some k9c0 }
def k9c1 : Code := { maxStack := 2, maxLocals := 3, code := prog_44_method_10_code, exceptionTable := #[], attributes := #[] }
def k9m1 : Method := { name := "equals", desc := "(Ljava/lang/Object;)Z", sig := { parameters := [(.object "java/lang/Object")], returnType := some .boolean }, accessFlags := 1, code := some k9c1 }
/-- com/example/avain/avain/model/Atom -/
def k9 : Class := { plain "com/example/avain/avain/model/Atom" (some 0) with
  accessFlags := 49
  interfaces := #[8]
  cf := some (fileOf pool9 31 #[] #[{ accessFlags := 1, nameIndex := 5, descriptorIndex := 67, attributes := #[] }, { accessFlags := 1, nameIndex := 96, descriptorIndex := 97, attributes := #[] }] 49 2 #[105] #[{ accessFlags := 25, nameIndex := 76, descriptorIndex := 77, attributes := #[] }, { accessFlags := 26, nameIndex := 107, descriptorIndex := 40, attributes := #[] }, { accessFlags := 26, nameIndex := 109, descriptorIndex := 51, attributes := #[] }, { accessFlags := 26, nameIndex := 83, descriptorIndex := 84, attributes := #[] }, { accessFlags := 18, nameIndex := 23, descriptorIndex := 12, attributes := #[] }, { accessFlags := 18, nameIndex := 35, descriptorIndex := 40, attributes := #[] }, { accessFlags := 18, nameIndex := 50, descriptorIndex := 51, attributes := #[] }])
  fields := #[{ name := "INTRUDER", type := (.object "com/example/avain/avain/model/Atom"), accessFlags := 25, slot := 0, constantValue := 0 }, { name := "OPEN", type := (.object "java/lang/String"), accessFlags := 26, slot := 1, constantValue := 0 }, { name := "CACHED", type := .int, accessFlags := 26, slot := 2, constantValue := 0 }, { name := "OPEN_VALUES", type := (.array (.array (.object "com/example/avain/avain/model/Atom"))), accessFlags := 26, slot := 3, constantValue := 0 }, { name := "type", type := (.object "com/example/avain/avain/model/Type"), accessFlags := 18, slot := 0, constantValue := 0 }, { name := "text", type := (.object "java/lang/String"), accessFlags := 18, slot := 1, constantValue := 0 }, { name := "hash", type := .int, accessFlags := 18, slot := 2, constantValue := 0 }]
  methods := #[k9m0, k9m1]
  instanceTypes := #[(.object "com/example/avain/avain/model/Type"), (.object "java/lang/String"), .int]
  staticTypes := #[(.object "com/example/avain/avain/model/Atom"), (.object "java/lang/String"), .int, (.array (.array (.object "com/example/avain/avain/model/Atom")))]
  resolved := Array.replicate 156 none
  statics := none }

def pool10 : Array CpInfo := pool [(2, .class_ 4), (1, u "java/lang/Enum"), (0, u "name"), (0, u "Ljava/lang/String;"), (0, .fieldref 2 8), (0, .nameAndType 9 10), (0, u "ordinal"), (0, u "I"), (1, .class_ 14), (1, u "java/lang/Object"), (4, u "hash"), (86, .class_ 108), (1, u "java/lang/Enum$EnumDesc"), (2, .class_ 112), (0, u "java/lang/constant/Constable"), (0, .class_ 114), (0, u "java/lang/Comparable"), (0, .class_ 116), (0, u "java/io/Serializable"), (9, u "()I")] 77

def k10c0 : Code := { maxStack := 1, maxLocals := 1, code := jdk_37_method_2_code, exceptionTable := #[], attributes := #[] }
def k10m0 : Method := { name := "ordinal", desc := "()I", sig := { parameters := [], returnType := some .int }, accessFlags := 17, code := some k10c0 }
/-- java/lang/Enum -/
def k10 : Class := { plain "java/lang/Enum" (some 0) with
  accessFlags := 1057
  interfaces := #[5, 3, 2]
  cf := some (fileOf pool10 2 #[.nestMembers #[106]] #[{ accessFlags := 17, nameIndex := 9, descriptorIndex := 126, attributes := #[] }] 1057 12 #[111, 113, 115] #[{ accessFlags := 18, nameIndex := 5, descriptorIndex := 6, attributes := #[] }, { accessFlags := 18, nameIndex := 9, descriptorIndex := 10, attributes := #[] }, { accessFlags := 2, nameIndex := 19, descriptorIndex := 10, attributes := #[] }])
  fields := #[{ name := "name", type := (.object "java/lang/String"), accessFlags := 18, slot := 0, constantValue := 0 }, { name := "ordinal", type := .int, accessFlags := 18, slot := 1, constantValue := 0 }, { name := "hash", type := .int, accessFlags := 2, slot := 2, constantValue := 0 }]
  methods := #[k10m0]
  instanceTypes := #[(.object "java/lang/String"), .int, .int]
  staticTypes := #[]
  resolved := Array.replicate 204 none
  statics := none }

def pool11 : Array CpInfo := pool [(1, .class_ 2), (0, u "com/example/avain/avain/model/Type"), (2, u "AGENT"), (0, u "Lcom/example/avain/avain/model/Type;"), (2, u "NUMBER"), (2, u "SYMMETRIC_KEY"), (2, u "FUNCTION"), (2, u "$VALUES"), (0, u "[Lcom/example/avain/avain/model/Type;"), (6, .class_ 28), (1, u "java/lang/Enum"), (8, u "keyword"), (0, u "Ljava/lang/String;")] 42

/-- com/example/avain/avain/model/Type -/
def k11 : Class := { plain "com/example/avain/avain/model/Type" (some 10) with
  accessFlags := 16433
  interfaces := #[]
  cf := some (fileOf pool11 1 #[] #[] 16433 26 #[] #[{ accessFlags := 16409, nameIndex := 5, descriptorIndex := 6, attributes := #[] }, { accessFlags := 16409, nameIndex := 9, descriptorIndex := 6, attributes := #[] }, { accessFlags := 16409, nameIndex := 12, descriptorIndex := 6, attributes := #[] }, { accessFlags := 16409, nameIndex := 15, descriptorIndex := 6, attributes := #[] }, { accessFlags := 18, nameIndex := 37, descriptorIndex := 38, attributes := #[] }, { accessFlags := 4122, nameIndex := 18, descriptorIndex := 19, attributes := #[] }])
  fields := #[{ name := "AGENT", type := (.object "com/example/avain/avain/model/Type"), accessFlags := 16409, slot := 0, constantValue := 0 }, { name := "NUMBER", type := (.object "com/example/avain/avain/model/Type"), accessFlags := 16409, slot := 1, constantValue := 0 }, { name := "SYMMETRIC_KEY", type := (.object "com/example/avain/avain/model/Type"), accessFlags := 16409, slot := 2, constantValue := 0 }, { name := "FUNCTION", type := (.object "com/example/avain/avain/model/Type"), accessFlags := 16409, slot := 3, constantValue := 0 }, { name := "keyword", type := (.object "java/lang/String"), accessFlags := 18, slot := 3, constantValue := 0 }, { name := "$VALUES", type := (.array (.object "com/example/avain/avain/model/Type")), accessFlags := 4122, slot := 4, constantValue := 0 }]
  methods := #[]
  instanceTypes := #[(.object "java/lang/String"), .int, .int, (.object "java/lang/String")]
  staticTypes := #[(.object "com/example/avain/avain/model/Type"), (.object "com/example/avain/avain/model/Type"), (.object "com/example/avain/avain/model/Type"), (.object "com/example/avain/avain/model/Type"), (.array (.object "com/example/avain/avain/model/Type"))]
  resolved := Array.replicate 81 none
  statics := some 1 }

def pool12 : Array CpInfo := pool [(2, .class_ 4), (1, u "java/lang/Object"), (0, u "<init>"), (0, u "()V"), (12, .class_ 21), (1, u "java/util/Arrays"), (4, u "hashCode"), (1, .methodref 19 29), (0, .nameAndType 26 30), (0, u "([Ljava/lang/Object;)I"), (11, .class_ 44), (1, u "java/util/Objects"), (0, u "requireNonNull"), (48, u "(Ljava/lang/Object;Ljava/lang/String;)Ljava/lang/Object;"), (42, u "hash")] 46

def k12m0 : Method := { name := "<init>", desc := "()V", sig := { parameters := [], returnType := none }, accessFlags := 2, code := none }
def k12c1 : Code := { maxStack := 1, maxLocals := 1, code := jdk_31_method_5_code, exceptionTable := #[], attributes := #[] }
def k12m1 : Method := { name := "hash", desc := "([Ljava/lang/Object;)I", sig := { parameters := [(.array (.object "java/lang/Object"))], returnType := some .int }, accessFlags := 137, code := some k12c1 }
def k12c2 : Code := { maxStack := 3, maxLocals := 2, code := jdk_31_method_11_code, exceptionTable := #[], attributes := #[] }
def k12m2 : Method := { name := "requireNonNull", desc := "(Ljava/lang/Object;Ljava/lang/String;)Ljava/lang/Object;", sig := { parameters := [(.object "java/lang/Object"), (.object "java/lang/String")], returnType := some (.object "java/lang/Object") }, accessFlags := 9, code := some k12c2 }
/-- java/util/Objects -/
def k12 : Class := { plain "java/util/Objects" (some 0) with
  accessFlags := 49
  interfaces := #[]
  cf := some (fileOf pool12 42 #[] #[{ accessFlags := 2, nameIndex := 5, descriptorIndex := 6, attributes := #[] }, { accessFlags := 137, nameIndex := 137, descriptorIndex := 30, attributes := #[] }, { accessFlags := 9, nameIndex := 45, descriptorIndex := 94, attributes := #[] }] 49 2 #[] #[])
  fields := #[]
  methods := #[k12m0, k12m1, k12m2]
  instanceTypes := #[]
  staticTypes := #[]
  resolved := Array.replicate 184 none
  statics := none }

def pool13 : Array CpInfo := pool [(4, .class_ 6), (1, u "java/lang/Object"), (0, u "<init>"), (0, u "()V"), (5, .class_ 16), (1, u "java/lang/StringLatin1"), (28, .class_ 47), (1, u "jdk/internal/util/ArraysSupport"), (9, u "([B)I"), (26, .methodref 45 85), (0, .nameAndType 86 87), (0, u "vectorizedHashCode"), (0, u "(Ljava/lang/Object;IIII)I"), (33, u "$assertionsDisabled"), (0, u "Z"), (98, .class_ 223), (1, u "java/lang/StringLatin1$LinesSpliterator"), (57, u "equals"), (0, u "([B[B)Z"), (15, u "hashCode"), (91, .class_ 391), (0, u "java/lang/StringLatin1$CharsSpliterator")] 3

def k13m0 : Method := { name := "<init>", desc := "()V", sig := { parameters := [], returnType := none }, accessFlags := 0, code := none }
def k13c1 : Code := { maxStack := 3, maxLocals := 3, code := jdk_43_method_13_code, exceptionTable := #[], attributes := #[] }
def k13m1 : Method := { name := "equals", desc := "([B[B)Z", sig := { parameters := [(.array .byte), (.array .byte)], returnType := some .boolean }, accessFlags := 9, code := some k13c1 }
def k13c2 : Code := { maxStack := 5, maxLocals := 1, code := jdk_43_method_21_code, exceptionTable := #[], attributes := #[] }
def k13m2 : Method := { name := "hashCode", desc := "([B)I", sig := { parameters := [(.array .byte)], returnType := some .int }, accessFlags := 9, code := some k13c2 }
/-- java/lang/StringLatin1 -/
def k13 : Class := { plain "java/lang/StringLatin1" (some 0) with
  accessFlags := 48
  interfaces := #[]
  cf := some (fileOf pool13 14 #[.nestMembers #[390, 221]] #[{ accessFlags := 0, nameIndex := 7, descriptorIndex := 8, attributes := #[] }, { accessFlags := 9, nameIndex := 281, descriptorIndex := 282, attributes := #[] }, { accessFlags := 9, nameIndex := 298, descriptorIndex := 57, attributes := #[] }] 48 4 #[] #[{ accessFlags := 4120, nameIndex := 121, descriptorIndex := 122, attributes := #[] }])
  fields := #[{ name := "$assertionsDisabled", type := .boolean, accessFlags := 4120, slot := 0, constantValue := 0 }]
  methods := #[k13m0, k13m1, k13m2]
  instanceTypes := #[]
  staticTypes := #[.boolean]
  resolved := Array.replicate 395 none
  statics := none }

def pool14 : Array CpInfo := pool [(6, .class_ 8), (1, u "java/lang/Object"), (0, u "<init>"), (0, u "()V"), (1, .class_ 14), (1, u "java/lang/StringUTF16"), (31, u "$assertionsDisabled"), (0, u "Z"), (13, u "HI_BYTE_SHIFT"), (0, u "I"), (2, u "LO_BYTE_SHIFT"), (49, .methodref 12 116), (0, .nameAndType 117 118), (0, u "compress"), (0, u "([CI[BII)I"), (3, u "([CII)[B"), (138, u "coderFromArrayLen"), (0, u "([BI)B"), (106, .class_ 371), (1, u "java/lang/StringUTF16$LinesSpliterator"), (58, u "MAX_LENGTH"), (196, .class_ 628), (0, u "java/lang/StringUTF16$CodePointsSpliterator"), (0, .class_ 630), (0, u "java/lang/StringUTF16$CharsSpliterator")] 4

def k14m0 : Method := { name := "<init>", desc := "()V", sig := { parameters := [], returnType := none }, accessFlags := 0, code := none }
def k14c1 : Code := { maxStack := 2, maxLocals := 2, code := jdk_52_method_15_code, exceptionTable := #[], attributes := #[] }
def k14m1 : Method := { name := "coderFromArrayLen", desc := "([BI)B", sig := { parameters := [(.array .byte), .int], returnType := some .byte }, accessFlags := 8, code := some k14c1 }
def k14c2 : Code := { maxStack := 5, maxLocals := 6, code := jdk_52_method_16_code, exceptionTable := #[], attributes := #[] }
def k14m2 : Method := { name := "compress", desc := "([CII)[B", sig := { parameters := [(.array .char), .int, .int], returnType := some (.array .byte) }, accessFlags := 9, code := some k14c2 }
def k14c3 : Code := { maxStack := 3, maxLocals := 7, code := jdk_52_method_21_code, exceptionTable := #[], attributes := #[] }
def k14m3 : Method := { name := "compress", desc := "([CI[BII)I", sig := { parameters := [(.array .char), .int, (.array .byte), .int, .int], returnType := some .int }, accessFlags := 9, code := some k14c3 }
/-- java/lang/StringUTF16 -/
def k14 : Class := { plain "java/lang/StringUTF16" (some 0) with
  accessFlags := 48
  interfaces := #[]
  cf := some (fileOf pool14 12 #[.nestMembers #[627, 629, 369]] #[{ accessFlags := 0, nameIndex := 9, descriptorIndex := 10, attributes := #[] }, { accessFlags := 8, nameIndex := 261, descriptorIndex := 262, attributes := #[] }, { accessFlags := 9, nameIndex := 117, descriptorIndex := 122, attributes := #[] }, { accessFlags := 9, nameIndex := 117, descriptorIndex := 118, attributes := #[] }] 48 6 #[] #[{ accessFlags := 26, nameIndex := 61, descriptorIndex := 62, attributes := #[] }, { accessFlags := 26, nameIndex := 65, descriptorIndex := 62, attributes := #[] }, { accessFlags := 24, nameIndex := 430, descriptorIndex := 62, attributes := #[] }, { accessFlags := 4120, nameIndex := 46, descriptorIndex := 47, attributes := #[] }])
  fields := #[{ name := "HI_BYTE_SHIFT", type := .int, accessFlags := 26, slot := 0, constantValue := 0 }, { name := "LO_BYTE_SHIFT", type := .int, accessFlags := 26, slot := 1, constantValue := 0 }, { name := "MAX_LENGTH", type := .int, accessFlags := 24, slot := 2, constantValue := 0 }, { name := "$assertionsDisabled", type := .boolean, accessFlags := 4120, slot := 3, constantValue := 0 }]
  methods := #[k14m0, k14m1, k14m2, k14m3]
  instanceTypes := #[]
  staticTypes := #[.int, .int, .int, .boolean]
  resolved := Array.replicate 635 none
  statics := none }

def pool15 : Array CpInfo := pool [(9, u "<init>"), (6, .class_ 18), (1, u "java/lang/Object"), (0, u "()V"), (1, .class_ 23), (1, u "jdk/internal/util/ArraysSupport"), (0, u "LOG2_ARRAY_LONG_INDEX_SCALE"), (0, u "I"), (2, u "U"), (0, u "Ljdk/internal/misc/Unsafe;"), (8, u "BIG_ENDIAN"), (0, u "Z"), (8, u "LOG2_BYTE_BIT_SIZE"), (4, u "LOG2_ARRAY_INT_INDEX_SCALE"), (6, .class_ 61), (0, u "[B"), (0, .methodref 21 63), (0, .nameAndType 64 65), (0, u "signedHashCode"), (0, u "(I[BII)I"), (42, u "JLA"), (0, u "Ljdk/internal/access/JavaLangAccess;"), (11, u "LOG2_ARRAY_BOOLEAN_INDEX_SCALE"), (9, u "LOG2_ARRAY_BYTE_INDEX_SCALE"), (5, u "LOG2_ARRAY_CHAR_INDEX_SCALE"), (5, u "LOG2_ARRAY_SHORT_INDEX_SCALE"), (18, u "LOG2_ARRAY_FLOAT_INDEX_SCALE"), (24, u "LOG2_ARRAY_DOUBLE_INDEX_SCALE"), (89, u "T_BOOLEAN"), (2, u "T_CHAR"), (1, u "T_FLOAT"), (1, u "T_DOUBLE"), (1, u "T_BYTE"), (1, u "T_SHORT"), (1, u "T_INT"), (1, u "T_LONG"), (1, u "SOFT_MAX_ARRAY_LENGTH"), (26, u "vectorizedHashCode"), (0, u "(Ljava/lang/Object;IIII)I")] 55

def k15m0 : Method := { name := "<init>", desc := "()V", sig := { parameters := [], returnType := none }, accessFlags := 2, code := none }
def k15c1 : Code := { maxStack := 4, maxLocals := 5, code := jdk_48_method_4_code, exceptionTable := #[], attributes := #[] }
def k15m1 : Method := { name := "vectorizedHashCode", desc := "(Ljava/lang/Object;IIII)I", sig := { parameters := [(.object "java/lang/Object"), .int, .int, .int, .int], returnType := some .int }, accessFlags := 9, code := some k15c1 }
def k15c2 : Code := { maxStack := 3, maxLocals := 6, code := jdk_48_method_5_code, exceptionTable := #[], attributes := #[] }
def k15m2 : Method := { name := "signedHashCode", desc := "(I[BII)I", sig := { parameters := [.int, (.array .byte), .int, .int], returnType := some .int }, accessFlags := 10, code := some k15c2 }
/-- jdk/internal/util/ArraysSupport -/
def k15 : Class := { plain "jdk/internal/util/ArraysSupport" (some 0) with
  accessFlags := 33
  interfaces := #[]
  cf := some (fileOf pool15 21 #[] #[{ accessFlags := 2, nameIndex := 9, descriptorIndex := 19, attributes := #[] }, { accessFlags := 9, nameIndex := 321, descriptorIndex := 322, attributes := #[] }, { accessFlags := 10, nameIndex := 64, descriptorIndex := 65, attributes := #[] }] 33 16 #[] #[{ accessFlags := 24, nameIndex := 28, descriptorIndex := 29, attributes := #[] }, { accessFlags := 26, nameIndex := 38, descriptorIndex := 39, attributes := #[] }, { accessFlags := 25, nameIndex := 121, descriptorIndex := 25, attributes := #[] }, { accessFlags := 25, nameIndex := 131, descriptorIndex := 25, attributes := #[] }, { accessFlags := 25, nameIndex := 137, descriptorIndex := 25, attributes := #[] }, { accessFlags := 25, nameIndex := 143, descriptorIndex := 25, attributes := #[] }, { accessFlags := 25, nameIndex := 53, descriptorIndex := 25, attributes := #[] }, { accessFlags := 25, nameIndex := 24, descriptorIndex := 25, attributes := #[] }, { accessFlags := 25, nameIndex := 162, descriptorIndex := 25, attributes := #[] }, { accessFlags := 25, nameIndex := 187, descriptorIndex := 25, attributes := #[] }, { accessFlags := 26, nameIndex := 48, descriptorIndex := 25, attributes := #[] }, { accessFlags := 25, nameIndex := 277, descriptorIndex := 25, attributes := #[] }, { accessFlags := 25, nameIndex := 280, descriptorIndex := 25, attributes := #[] }, { accessFlags := 25, nameIndex := 282, descriptorIndex := 25, attributes := #[] }, { accessFlags := 25, nameIndex := 284, descriptorIndex := 25, attributes := #[] }, { accessFlags := 25, nameIndex := 286, descriptorIndex := 25, attributes := #[] }, { accessFlags := 25, nameIndex := 288, descriptorIndex := 25, attributes := #[] }, { accessFlags := 25, nameIndex := 290, descriptorIndex := 25, attributes := #[] }, { accessFlags := 25, nameIndex := 292, descriptorIndex := 25, attributes := #[] }, { accessFlags := 26, nameIndex := 108, descriptorIndex := 109, attributes := #[] }, { accessFlags := 25, nameIndex := 294, descriptorIndex := 25, attributes := #[] }])
  fields := #[{ name := "U", type := (.object "jdk/internal/misc/Unsafe"), accessFlags := 24, slot := 0, constantValue := 0 }, { name := "BIG_ENDIAN", type := .boolean, accessFlags := 26, slot := 1, constantValue := 0 }, { name := "LOG2_ARRAY_BOOLEAN_INDEX_SCALE", type := .int, accessFlags := 25, slot := 2, constantValue := 0 }, { name := "LOG2_ARRAY_BYTE_INDEX_SCALE", type := .int, accessFlags := 25, slot := 3, constantValue := 0 }, { name := "LOG2_ARRAY_CHAR_INDEX_SCALE", type := .int, accessFlags := 25, slot := 4, constantValue := 0 }, { name := "LOG2_ARRAY_SHORT_INDEX_SCALE", type := .int, accessFlags := 25, slot := 5, constantValue := 0 }, { name := "LOG2_ARRAY_INT_INDEX_SCALE", type := .int, accessFlags := 25, slot := 6, constantValue := 0 }, { name := "LOG2_ARRAY_LONG_INDEX_SCALE", type := .int, accessFlags := 25, slot := 7, constantValue := 0 }, { name := "LOG2_ARRAY_FLOAT_INDEX_SCALE", type := .int, accessFlags := 25, slot := 8, constantValue := 0 }, { name := "LOG2_ARRAY_DOUBLE_INDEX_SCALE", type := .int, accessFlags := 25, slot := 9, constantValue := 0 }, { name := "LOG2_BYTE_BIT_SIZE", type := .int, accessFlags := 26, slot := 10, constantValue := 0 }, { name := "T_BOOLEAN", type := .int, accessFlags := 25, slot := 11, constantValue := 0 }, { name := "T_CHAR", type := .int, accessFlags := 25, slot := 12, constantValue := 0 }, { name := "T_FLOAT", type := .int, accessFlags := 25, slot := 13, constantValue := 0 }, { name := "T_DOUBLE", type := .int, accessFlags := 25, slot := 14, constantValue := 0 }, { name := "T_BYTE", type := .int, accessFlags := 25, slot := 15, constantValue := 0 }, { name := "T_SHORT", type := .int, accessFlags := 25, slot := 16, constantValue := 0 }, { name := "T_INT", type := .int, accessFlags := 25, slot := 17, constantValue := 0 }, { name := "T_LONG", type := .int, accessFlags := 25, slot := 18, constantValue := 0 }, { name := "JLA", type := (.object "jdk/internal/access/JavaLangAccess"), accessFlags := 26, slot := 19, constantValue := 0 }, { name := "SOFT_MAX_ARRAY_LENGTH", type := .int, accessFlags := 25, slot := 20, constantValue := 0 }]
  methods := #[k15m0, k15m1, k15m2]
  instanceTypes := #[]
  staticTypes := #[(.object "jdk/internal/misc/Unsafe"), .boolean, .int, .int, .int, .int, .int, .int, .int, .int, .int, .int, .int, .int, .int, .int, .int, .int, .int, (.object "jdk/internal/access/JavaLangAccess"), .int]
  resolved := Array.replicate 378 none
  statics := none }

def pool16 : Array CpInfo := pool [(1, .methodref 2 3), (0, .class_ 4), (0, .nameAndType 5 6), (0, u "java/lang/Object"), (0, u "<init>"), (0, u "()V"), (0, .string 8), (0, u "name"), (0, .methodref 10 11), (0, .class_ 12), (0, .nameAndType 13 14), (0, u "java/util/Objects"), (0, u "requireNonNull"), (0, u "(Ljava/lang/Object;Ljava/lang/String;)Ljava/lang/Object;"), (0, .class_ 16), (0, u "java/lang/String"), (0, .fieldref 18 19), (0, .class_ 20), (0, .nameAndType 8 21), (0, u "com/example/avain/avain/model/Variable"), (0, u "Ljava/lang/String;"), (0, .fieldref 18 23), (0, .nameAndType 24 25), (0, u "type"), (0, u "Lcom/example/avain/avain/model/Type;"), (0, .fieldref 18 27), (0, .nameAndType 28 29), (0, u "shape"), (0, u "Lcom/example/avain/avain/model/Term;"), (0, .methodref 31 32), (0, .class_ 33), (0, .nameAndType 34 35), (0, u "com/example/avain/avain/model/Type"), (0, u "ordinal"), (0, u "()I"), (0, .methodref 37 38), (0, .class_ 39), (0, .nameAndType 40 41), (0, u "java/lang/Integer"), (0, u "valueOf"), (0, u "(I)Ljava/lang/Integer;"), (0, .methodref 10 43), (0, .nameAndType 44 45), (0, u "hash"), (0, u "([Ljava/lang/Object;)I"), (0, .fieldref 18 47), (0, .nameAndType 44 48), (0, u "I"), (0, .fieldref 31 50), (0, .nameAndType 51 25), (0, u "FUNCTION"), (9, .methodref 18 62), (0, .nameAndType 5 63), (0, u "(Ljava/lang/String;Lcom/example/avain/avain/model/Type;Lcom/example/avain/avain/model/Term;)V"), (1, .class_ 66), (0, u "com/example/avain/avain/model/Term"), (12, u "of"), (0, u "(Ljava/lang/String;Lcom/example/avain/avain/model/Type;)Lcom/example/avain/avain/model/Variable;")] 28

def k16c0 : Code := { maxStack := 5, maxLocals := 4, code := prog_61_method_1_code, exceptionTable := #[], attributes := #[] }
def k16m0 : Method := { name := "<init>", desc := "(Ljava/lang/String;Lcom/example/avain/avain/model/Type;Lcom/example/avain/avain/model/Term;)V", sig := { parameters := [(.object "java/lang/String"), (.object "com/example/avain/avain/model/Type"), (.object "com/example/avain/avain/model/Term")], returnType := none }, accessFlags := 2, code := some k16c0 }
def k16c1 : Code := { maxStack := 5, maxLocals := 2, code := prog_61_method_2_code, exceptionTable := #[], attributes := #[] }
def k16m1 : Method := { name := "of", desc := "(Ljava/lang/String;Lcom/example/avain/avain/model/Type;)Lcom/example/avain/avain/model/Variable;", sig := { parameters := [(.object "java/lang/String"), (.object "com/example/avain/avain/model/Type")], returnType := some (.object "com/example/avain/avain/model/Variable") }, accessFlags := 9, code := some k16c1 }
/-- com/example/avain/avain/model/Variable -/
def k16 : Class := { plain "com/example/avain/avain/model/Variable" (some 0) with
  accessFlags := 49
  interfaces := #[8]
  cf := some (fileOf pool16 18 #[] #[{ accessFlags := 2, nameIndex := 5, descriptorIndex := 63, attributes := #[] }, { accessFlags := 9, nameIndex := 79, descriptorIndex := 80, attributes := #[] }] 49 2 #[65] #[{ accessFlags := 18, nameIndex := 8, descriptorIndex := 21, attributes := #[] }, { accessFlags := 18, nameIndex := 24, descriptorIndex := 25, attributes := #[] }, { accessFlags := 18, nameIndex := 28, descriptorIndex := 29, attributes := #[] }, { accessFlags := 18, nameIndex := 44, descriptorIndex := 48, attributes := #[] }])
  fields := #[{ name := "name", type := (.object "java/lang/String"), accessFlags := 18, slot := 0, constantValue := 0 }, { name := "type", type := (.object "com/example/avain/avain/model/Type"), accessFlags := 18, slot := 1, constantValue := 0 }, { name := "shape", type := (.object "com/example/avain/avain/model/Term"), accessFlags := 18, slot := 2, constantValue := 0 }, { name := "hash", type := .int, accessFlags := 18, slot := 3, constantValue := 0 }]
  methods := #[k16m0, k16m1]
  instanceTypes := #[(.object "java/lang/String"), (.object "com/example/avain/avain/model/Type"), (.object "com/example/avain/avain/model/Term"), .int]
  staticTypes := #[]
  resolved := Array.replicate 109 none
  statics := none }

def pool17 : Array CpInfo := pool [(2, .class_ 4), (1, u "java/lang/Object"), (0, u "<init>"), (0, u "()V"), (1, .class_ 10), (1, u "java/lang/Number"), (2, .class_ 14), (0, u "java/io/Serializable"), (0, u "serialVersionUID"), (0, u "J")] 20

def k17m0 : Method := { name := "<init>", desc := "()V", sig := { parameters := [], returnType := none }, accessFlags := 1, code := none }
/-- java/lang/Number -/
def k17 : Class := { plain "java/lang/Number" (some 0) with
  accessFlags := 1057
  interfaces := #[2]
  cf := some (fileOf pool17 8 #[] #[{ accessFlags := 1, nameIndex := 5, descriptorIndex := 6, attributes := #[] }] 1057 2 #[13] #[{ accessFlags := 26, nameIndex := 15, descriptorIndex := 16, attributes := #[] }])
  fields := #[{ name := "serialVersionUID", type := .long, accessFlags := 26, slot := 0, constantValue := 0 }]
  methods := #[k17m0]
  instanceTypes := #[]
  staticTypes := #[.long]
  resolved := Array.replicate 37 none
  statics := none }

def pool18 : Array CpInfo := pool [(1, .class_ 2), (0, u "java/lang/Integer"), (16, u "digits"), (0, u "[C"), (33, u "(I)I"), (30, u "DigitOnes"), (0, u "[B"), (2, u "DigitTens"), (31, u "()I"), (65, u "valueOf"), (0, u "(I)Ljava/lang/Integer;"), (0, .class_ 190), (0, u "java/lang/Integer$IntegerCache"), (0, .fieldref 189 192), (0, .nameAndType 193 194), (0, u "high"), (0, u "I"), (0, .fieldref 189 196), (0, .nameAndType 197 198), (0, u "cache"), (0, u "[Ljava/lang/Integer;"), (4, .class_ 204), (0, u "java/lang/Number"), (0, .fieldref 1 206), (0, .nameAndType 207 194), (0, u "value"), (0, .methodref 1 209), (0, .nameAndType 210 54), (0, u "hashCode"), (91, u "TYPE"), (0, u "Ljava/lang/Class;"), (0, .class_ 305), (0, u "java/lang/Comparable"), (0, .class_ 307), (0, u "java/lang/constant/Constable"), (0, .class_ 309), (0, u "java/lang/constant/ConstantDesc"), (0, u "MIN_VALUE"), (1, u "MAX_VALUE"), (3, u "SIZE"), (1, u "BYTES"), (1, u "serialVersionUID"), (0, u "J")] 131

def k18c0 : Code := { maxStack := 3, maxLocals := 1, code := jdk_33_method_22_code, exceptionTable := #[], attributes := #[] }
def k18m0 : Method := { name := "valueOf", desc := "(I)Ljava/lang/Integer;", sig := { parameters := [.int], returnType := some (.object "java/lang/Integer") }, accessFlags := 9, code := some k18c0 }
def k18c1 : Code := { maxStack := 1, maxLocals := 1, code := jdk_33_method_32_code, exceptionTable := #[], attributes := #[] }
def k18m1 : Method := { name := "hashCode", desc := "()I", sig := { parameters := [], returnType := some .int }, accessFlags := 1, code := some k18c1 }
def k18c2 : Code := { maxStack := 1, maxLocals := 1, code := jdk_33_method_33_code, exceptionTable := #[], attributes := #[] }
def k18m2 : Method := { name := "hashCode", desc := "(I)I", sig := { parameters := [.int], returnType := some .int }, accessFlags := 9, code := some k18c2 }
/-- java/lang/Integer -/
def k18 : Class := { plain "java/lang/Integer" (some 17) with
  accessFlags := 49
  interfaces := #[3, 5, 6]
  cf := some (fileOf pool18 1 #[.nestMembers #[189]] #[{ accessFlags := 9, nameIndex := 187, descriptorIndex := 188, attributes := #[] }, { accessFlags := 1, nameIndex := 210, descriptorIndex := 121, attributes := #[] }, { accessFlags := 9, nameIndex := 210, descriptorIndex := 54, attributes := #[] }] 49 203 #[304, 306, 308] #[{ accessFlags := 25, nameIndex := 310, descriptorIndex := 194, attributes := #[] }, { accessFlags := 25, nameIndex := 312, descriptorIndex := 194, attributes := #[] }, { accessFlags := 25, nameIndex := 302, descriptorIndex := 303, attributes := #[] }, { accessFlags := 24, nameIndex := 19, descriptorIndex := 20, attributes := #[] }, { accessFlags := 24, nameIndex := 89, descriptorIndex := 86, attributes := #[] }, { accessFlags := 24, nameIndex := 85, descriptorIndex := 86, attributes := #[] }, { accessFlags := 18, nameIndex := 207, descriptorIndex := 194, attributes := #[] }, { accessFlags := 25, nameIndex := 316, descriptorIndex := 194, attributes := #[] }, { accessFlags := 25, nameIndex := 318, descriptorIndex := 194, attributes := #[] }, { accessFlags := 26, nameIndex := 320, descriptorIndex := 321, attributes := #[] }])
  fields := #[{ name := "MIN_VALUE", type := .int, accessFlags := 25, slot := 0, constantValue := 0 }, { name := "MAX_VALUE", type := .int, accessFlags := 25, slot := 1, constantValue := 0 }, { name := "TYPE", type := (.object "java/lang/Class"), accessFlags := 25, slot := 2, constantValue := 0 }, { name := "digits", type := (.array .char), accessFlags := 24, slot := 3, constantValue := 0 }, { name := "DigitTens", type := (.array .byte), accessFlags := 24, slot := 4, constantValue := 0 }, { name := "DigitOnes", type := (.array .byte), accessFlags := 24, slot := 5, constantValue := 0 }, { name := "value", type := .int, accessFlags := 18, slot := 0, constantValue := 0 }, { name := "SIZE", type := .int, accessFlags := 25, slot := 6, constantValue := 0 }, { name := "BYTES", type := .int, accessFlags := 25, slot := 7, constantValue := 0 }, { name := "serialVersionUID", type := .long, accessFlags := 26, slot := 8, constantValue := 0 }]
  methods := #[k18m0, k18m1, k18m2]
  instanceTypes := #[.int]
  staticTypes := #[.int, .int, (.object "java/lang/Class"), (.array .char), (.array .byte), (.array .byte), .int, .int, .long]
  resolved := Array.replicate 453 none
  statics := none }

def pool19 : Array CpInfo := pool [(2, .class_ 4), (1, u "java/lang/Object"), (0, u "<init>"), (0, u "()V"), (0, .class_ 8), (0, u "java/lang/Integer"), (7, .class_ 18), (1, u "java/lang/Integer$IntegerCache"), (0, u "$assertionsDisabled"), (0, u "Z"), (26, u "high"), (0, u "I"), (8, u "archivedCache"), (0, u "[Ljava/lang/Integer;"), (12, u "cache"), (0, u "low")] 27

def k19m0 : Method := { name := "<init>", desc := "()V", sig := { parameters := [], returnType := none }, accessFlags := 2, code := none }
/-- java/lang/Integer$IntegerCache -/
def k19 : Class := { plain "java/lang/Integer$IntegerCache" (some 0) with
  accessFlags := 48
  interfaces := #[]
  cf := some (fileOf pool19 16 #[.nestHost 7] #[{ accessFlags := 2, nameIndex := 5, descriptorIndex := 6, attributes := #[] }] 48 2 #[] #[{ accessFlags := 24, nameIndex := 72, descriptorIndex := 48, attributes := #[] }, { accessFlags := 24, nameIndex := 47, descriptorIndex := 48, attributes := #[] }, { accessFlags := 24, nameIndex := 71, descriptorIndex := 58, attributes := #[] }, { accessFlags := 8, nameIndex := 57, descriptorIndex := 58, attributes := #[] }, { accessFlags := 4120, nameIndex := 19, descriptorIndex := 20, attributes := #[] }])
  fields := #[{ name := "low", type := .int, accessFlags := 24, slot := 0, constantValue := 0 }, { name := "high", type := .int, accessFlags := 24, slot := 1, constantValue := 0 }, { name := "cache", type := (.array (.object "java/lang/Integer")), accessFlags := 24, slot := 2, constantValue := 0 }, { name := "archivedCache", type := (.array (.object "java/lang/Integer")), accessFlags := 8, slot := 3, constantValue := 0 }, { name := "$assertionsDisabled", type := .boolean, accessFlags := 4120, slot := 4, constantValue := 0 }]
  methods := #[k19m0]
  instanceTypes := #[]
  staticTypes := #[.int, .int, (.array (.object "java/lang/Integer")), (.array (.object "java/lang/Integer")), .boolean]
  resolved := Array.replicate 100 none
  statics := some 2 }

def pool20 : Array CpInfo := pool [(2, .class_ 4), (1, u "java/lang/Object"), (0, u "<init>"), (0, u "()V"), (7, .class_ 16), (1, u "java/util/Arrays"), (25, u "()I"), (31, .class_ 76), (1, u "java/util/Arrays$NaturalOrder"), (36, .class_ 115), (1, u "java/util/Arrays$LegacyMergeSort"), (1, u "Z"), (257, .class_ 376), (0, u "java/util/Arrays$ArrayList"), (6, .methodref 2 384), (0, .nameAndType 385 42), (0, u "hashCode"), (3, u "([Ljava/lang/Object;)I"), (55, u "$assertionsDisabled"), (269, u "MIN_ARRAY_SORT_GRAN"), (0, u "I"), (2, u "INSERTIONSORT_THRESHOLD"), (255, .class_ 976), (0, u "java/util/Arrays$ArrayItr")] 52

def k20m0 : Method := { name := "<init>", desc := "()V", sig := { parameters := [], returnType := none }, accessFlags := 2, code := none }
def k20c1 : Code := { maxStack := 2, maxLocals := 6, code := jdk_65_method_157_code, exceptionTable := #[], attributes := #[] }
def k20m1 : Method := { name := "hashCode", desc := "([Ljava/lang/Object;)I", sig := { parameters := [(.array (.object "java/lang/Object"))], returnType := some .int }, accessFlags := 9, code := some k20c1 }
/-- java/util/Arrays -/
def k20 : Class := { plain "java/util/Arrays" (some 0) with
  accessFlags := 49
  interfaces := #[]
  cf := some (fileOf pool20 14 #[.nestMembers #[975, 375, 113, 74]] #[{ accessFlags := 2, nameIndex := 5, descriptorIndex := 6, attributes := #[] }, { accessFlags := 9, nameIndex := 385, descriptorIndex := 389, attributes := #[] }] 49 2 #[] #[{ accessFlags := 26, nameIndex := 715, descriptorIndex := 716, attributes := #[] }, { accessFlags := 26, nameIndex := 719, descriptorIndex := 716, attributes := #[] }, { accessFlags := 4120, nameIndex := 445, descriptorIndex := 117, attributes := #[] }])
  fields := #[{ name := "MIN_ARRAY_SORT_GRAN", type := .int, accessFlags := 26, slot := 0, constantValue := 0 }, { name := "INSERTIONSORT_THRESHOLD", type := .int, accessFlags := 26, slot := 1, constantValue := 0 }, { name := "$assertionsDisabled", type := .boolean, accessFlags := 4120, slot := 2, constantValue := 0 }]
  methods := #[k20m0, k20m1]
  instanceTypes := #[]
  staticTypes := #[.int, .int, .boolean]
  resolved := Array.replicate 1029 none
  statics := none }

def pool21 : Array CpInfo := pool [(2, .class_ 4), (1, u "java/lang/Object"), (0, u "<init>"), (0, u "()V"), (17, .class_ 26), (1, u "jdk/internal/util/Preconditions"), (28, .class_ 56), (0, u "jdk/internal/util/Preconditions$4"), (57, .class_ 115), (0, u "jdk/internal/util/Preconditions$1"), (7, u "SIOOBE_FORMATTER"), (0, u "Ljava/util/function/BiFunction;"), (0, .class_ 126), (0, u "jdk/internal/util/Preconditions$2"), (3, u "AIOOBE_FORMATTER"), (0, .class_ 132), (0, u "jdk/internal/util/Preconditions$3"), (3, u "IOOBE_FORMATTER")] 57

def k21m0 : Method := { name := "<init>", desc := "()V", sig := { parameters := [], returnType := none }, accessFlags := 1, code := none }
/-- jdk/internal/util/Preconditions -/
def k21 : Class := { plain "jdk/internal/util/Preconditions" (some 0) with
  accessFlags := 33
  interfaces := #[]
  cf := some (fileOf pool21 24 #[.nestMembers #[55, 131, 125, 114]] #[{ accessFlags := 1, nameIndex := 5, descriptorIndex := 6, attributes := #[] }] 33 2 #[] #[{ accessFlags := 25, nameIndex := 123, descriptorIndex := 124, attributes := #[] }, { accessFlags := 25, nameIndex := 130, descriptorIndex := 124, attributes := #[] }, { accessFlags := 25, nameIndex := 136, descriptorIndex := 124, attributes := #[] }])
  fields := #[{ name := "SIOOBE_FORMATTER", type := (.object "java/util/function/BiFunction"), accessFlags := 25, slot := 0, constantValue := 0 }, { name := "AIOOBE_FORMATTER", type := (.object "java/util/function/BiFunction"), accessFlags := 25, slot := 1, constantValue := 0 }, { name := "IOOBE_FORMATTER", type := (.object "java/util/function/BiFunction"), accessFlags := 25, slot := 2, constantValue := 0 }]
  methods := #[k21m0]
  instanceTypes := #[]
  staticTypes := #[(.object "java/util/function/BiFunction"), (.object "java/util/function/BiFunction"), (.object "java/util/function/BiFunction")]
  resolved := Array.replicate 194 none
  statics := some 3 }

def pool22 : Array CpInfo := pool [(1, u "java/lang/Cloneable"), (0, .class_ 1), (0, u "java/lang/Object"), (0, .class_ 3)] 3

/-- java/lang/Cloneable -/
def k22 : Class := { plain "java/lang/Cloneable" (some 0) with
  accessFlags := 1537
  interfaces := #[]
  cf := some (fileOf pool22 2 #[] #[] 1537 4 #[] #[])
  fields := #[]
  methods := #[]
  instanceTypes := #[]
  staticTypes := #[]
  resolved := Array.replicate 8 none
  statics := none }

/-- the primitive byte -/
def k23 : Class := { plain "byte" none with kind := .primitive 'B', accessFlags := 0x411 }
/-- [B -/
def k24 : Class := { plain "[B" (some 0) with kind := .array 23 .byte, interfaces := #[22, 2], accessFlags := 1041 }

/-- the primitive char -/
def k25 : Class := { plain "char" none with kind := .primitive 'C', accessFlags := 0x411 }
/-- [C -/
def k26 : Class := { plain "[C" (some 0) with kind := .array 25 .char, interfaces := #[22, 2], accessFlags := 1041 }

/-- the primitive int -/
def k27 : Class := { plain "int" none with kind := .primitive 'I', accessFlags := 0x411 }
/-- [I -/
def k28 : Class := { plain "[I" (some 0) with kind := .array 27 .int, interfaces := #[22, 2], accessFlags := 1041 }

/-- [Ljava/lang/Integer; -/
def k29 : Class := { plain "[Ljava/lang/Integer;" (some 0) with kind := .array 18 (.object "java/lang/Integer"), interfaces := #[22, 2], accessFlags := 1041 }

/-- [Ljava/lang/Object; -/
def k30 : Class := { plain "[Ljava/lang/Object;" (some 0) with kind := .array 0 (.object "java/lang/Object"), interfaces := #[22, 2], accessFlags := 1041 }

def heap : Heap := #[{ cls := 7, slots := #[.long 0, .int 1, .null, .int 0, .null, .int 0, .int 0], vm := .statics 7 },
  { cls := 11, slots := #[.ref 261, .ref 262, .ref 263, .ref 264, .null], vm := .statics 11 },
  { cls := 19, slots := #[.int 0, .int 127, .ref 4, .null, .int 0], vm := .statics 19 },
  { cls := 21, slots := #[.null, .null, .null], vm := .statics 21 },
  { cls := 29, slots := #[.ref 5, .ref 6, .ref 7, .ref 8, .ref 9, .ref 10, .ref 11, .ref 12, .ref 13, .ref 14, .ref 15, .ref 16, .ref 17, .ref 18, .ref 19, .ref 20, .ref 21, .ref 22, .ref 23, .ref 24, .ref 25, .ref 26, .ref 27, .ref 28, .ref 29, .ref 30, .ref 31, .ref 32, .ref 33, .ref 34, .ref 35, .ref 36, .ref 37, .ref 38, .ref 39, .ref 40, .ref 41, .ref 42, .ref 43, .ref 44, .ref 45, .ref 46, .ref 47, .ref 48, .ref 49, .ref 50, .ref 51, .ref 52, .ref 53, .ref 54, .ref 55, .ref 56, .ref 57, .ref 58, .ref 59, .ref 60, .ref 61, .ref 62, .ref 63, .ref 64, .ref 65, .ref 66, .ref 67, .ref 68, .ref 69, .ref 70, .ref 71, .ref 72, .ref 73, .ref 74, .ref 75, .ref 76, .ref 77, .ref 78, .ref 79, .ref 80, .ref 81, .ref 82, .ref 83, .ref 84, .ref 85, .ref 86, .ref 87, .ref 88, .ref 89, .ref 90, .ref 91, .ref 92, .ref 93, .ref 94, .ref 95, .ref 96, .ref 97, .ref 98, .ref 99, .ref 100, .ref 101, .ref 102, .ref 103, .ref 104, .ref 105, .ref 106, .ref 107, .ref 108, .ref 109, .ref 110, .ref 111, .ref 112, .ref 113, .ref 114, .ref 115, .ref 116, .ref 117, .ref 118, .ref 119, .ref 120, .ref 121, .ref 122, .ref 123, .ref 124, .ref 125, .ref 126, .ref 127, .ref 128, .ref 129, .ref 130, .ref 131, .ref 132, .ref 133, .ref 134, .ref 135, .ref 136, .ref 137, .ref 138, .ref 139, .ref 140, .ref 141, .ref 142, .ref 143, .ref 144, .ref 145, .ref 146, .ref 147, .ref 148, .ref 149, .ref 150, .ref 151, .ref 152, .ref 153, .ref 154, .ref 155, .ref 156, .ref 157, .ref 158, .ref 159, .ref 160, .ref 161, .ref 162, .ref 163, .ref 164, .ref 165, .ref 166, .ref 167, .ref 168, .ref 169, .ref 170, .ref 171, .ref 172, .ref 173, .ref 174, .ref 175, .ref 176, .ref 177, .ref 178, .ref 179, .ref 180, .ref 181, .ref 182, .ref 183, .ref 184, .ref 185, .ref 186, .ref 187, .ref 188, .ref 189, .ref 190, .ref 191, .ref 192, .ref 193, .ref 194, .ref 195, .ref 196, .ref 197, .ref 198, .ref 199, .ref 200, .ref 201, .ref 202, .ref 203, .ref 204, .ref 205, .ref 206, .ref 207, .ref 208, .ref 209, .ref 210, .ref 211, .ref 212, .ref 213, .ref 214, .ref 215, .ref 216, .ref 217, .ref 218, .ref 219, .ref 220, .ref 221, .ref 222, .ref 223, .ref 224, .ref 225, .ref 226, .ref 227, .ref 228, .ref 229, .ref 230, .ref 231, .ref 232, .ref 233, .ref 234, .ref 235, .ref 236, .ref 237, .ref 238, .ref 239, .ref 240, .ref 241, .ref 242, .ref 243, .ref 244, .ref 245, .ref 246, .ref 247, .ref 248, .ref 249, .ref 250, .ref 251, .ref 252, .ref 253, .ref 254, .ref 255, .ref 256, .ref 257, .ref 258, .ref 259, .ref 260], vm := .none },
  { cls := 18, slots := #[.int (-128)], vm := .none },
  { cls := 18, slots := #[.int (-127)], vm := .none },
  { cls := 18, slots := #[.int (-126)], vm := .none },
  { cls := 18, slots := #[.int (-125)], vm := .none },
  { cls := 18, slots := #[.int (-124)], vm := .none },
  { cls := 18, slots := #[.int (-123)], vm := .none },
  { cls := 18, slots := #[.int (-122)], vm := .none },
  { cls := 18, slots := #[.int (-121)], vm := .none },
  { cls := 18, slots := #[.int (-120)], vm := .none },
  { cls := 18, slots := #[.int (-119)], vm := .none },
  { cls := 18, slots := #[.int (-118)], vm := .none },
  { cls := 18, slots := #[.int (-117)], vm := .none },
  { cls := 18, slots := #[.int (-116)], vm := .none },
  { cls := 18, slots := #[.int (-115)], vm := .none },
  { cls := 18, slots := #[.int (-114)], vm := .none },
  { cls := 18, slots := #[.int (-113)], vm := .none },
  { cls := 18, slots := #[.int (-112)], vm := .none },
  { cls := 18, slots := #[.int (-111)], vm := .none },
  { cls := 18, slots := #[.int (-110)], vm := .none },
  { cls := 18, slots := #[.int (-109)], vm := .none },
  { cls := 18, slots := #[.int (-108)], vm := .none },
  { cls := 18, slots := #[.int (-107)], vm := .none },
  { cls := 18, slots := #[.int (-106)], vm := .none },
  { cls := 18, slots := #[.int (-105)], vm := .none },
  { cls := 18, slots := #[.int (-104)], vm := .none },
  { cls := 18, slots := #[.int (-103)], vm := .none },
  { cls := 18, slots := #[.int (-102)], vm := .none },
  { cls := 18, slots := #[.int (-101)], vm := .none },
  { cls := 18, slots := #[.int (-100)], vm := .none },
  { cls := 18, slots := #[.int (-99)], vm := .none },
  { cls := 18, slots := #[.int (-98)], vm := .none },
  { cls := 18, slots := #[.int (-97)], vm := .none },
  { cls := 18, slots := #[.int (-96)], vm := .none },
  { cls := 18, slots := #[.int (-95)], vm := .none },
  { cls := 18, slots := #[.int (-94)], vm := .none },
  { cls := 18, slots := #[.int (-93)], vm := .none },
  { cls := 18, slots := #[.int (-92)], vm := .none },
  { cls := 18, slots := #[.int (-91)], vm := .none },
  { cls := 18, slots := #[.int (-90)], vm := .none },
  { cls := 18, slots := #[.int (-89)], vm := .none },
  { cls := 18, slots := #[.int (-88)], vm := .none },
  { cls := 18, slots := #[.int (-87)], vm := .none },
  { cls := 18, slots := #[.int (-86)], vm := .none },
  { cls := 18, slots := #[.int (-85)], vm := .none },
  { cls := 18, slots := #[.int (-84)], vm := .none },
  { cls := 18, slots := #[.int (-83)], vm := .none },
  { cls := 18, slots := #[.int (-82)], vm := .none },
  { cls := 18, slots := #[.int (-81)], vm := .none },
  { cls := 18, slots := #[.int (-80)], vm := .none },
  { cls := 18, slots := #[.int (-79)], vm := .none },
  { cls := 18, slots := #[.int (-78)], vm := .none },
  { cls := 18, slots := #[.int (-77)], vm := .none },
  { cls := 18, slots := #[.int (-76)], vm := .none },
  { cls := 18, slots := #[.int (-75)], vm := .none },
  { cls := 18, slots := #[.int (-74)], vm := .none },
  { cls := 18, slots := #[.int (-73)], vm := .none },
  { cls := 18, slots := #[.int (-72)], vm := .none },
  { cls := 18, slots := #[.int (-71)], vm := .none },
  { cls := 18, slots := #[.int (-70)], vm := .none },
  { cls := 18, slots := #[.int (-69)], vm := .none },
  { cls := 18, slots := #[.int (-68)], vm := .none },
  { cls := 18, slots := #[.int (-67)], vm := .none },
  { cls := 18, slots := #[.int (-66)], vm := .none },
  { cls := 18, slots := #[.int (-65)], vm := .none },
  { cls := 18, slots := #[.int (-64)], vm := .none },
  { cls := 18, slots := #[.int (-63)], vm := .none },
  { cls := 18, slots := #[.int (-62)], vm := .none },
  { cls := 18, slots := #[.int (-61)], vm := .none },
  { cls := 18, slots := #[.int (-60)], vm := .none },
  { cls := 18, slots := #[.int (-59)], vm := .none },
  { cls := 18, slots := #[.int (-58)], vm := .none },
  { cls := 18, slots := #[.int (-57)], vm := .none },
  { cls := 18, slots := #[.int (-56)], vm := .none },
  { cls := 18, slots := #[.int (-55)], vm := .none },
  { cls := 18, slots := #[.int (-54)], vm := .none },
  { cls := 18, slots := #[.int (-53)], vm := .none },
  { cls := 18, slots := #[.int (-52)], vm := .none },
  { cls := 18, slots := #[.int (-51)], vm := .none },
  { cls := 18, slots := #[.int (-50)], vm := .none },
  { cls := 18, slots := #[.int (-49)], vm := .none },
  { cls := 18, slots := #[.int (-48)], vm := .none },
  { cls := 18, slots := #[.int (-47)], vm := .none },
  { cls := 18, slots := #[.int (-46)], vm := .none },
  { cls := 18, slots := #[.int (-45)], vm := .none },
  { cls := 18, slots := #[.int (-44)], vm := .none },
  { cls := 18, slots := #[.int (-43)], vm := .none },
  { cls := 18, slots := #[.int (-42)], vm := .none },
  { cls := 18, slots := #[.int (-41)], vm := .none },
  { cls := 18, slots := #[.int (-40)], vm := .none },
  { cls := 18, slots := #[.int (-39)], vm := .none },
  { cls := 18, slots := #[.int (-38)], vm := .none },
  { cls := 18, slots := #[.int (-37)], vm := .none },
  { cls := 18, slots := #[.int (-36)], vm := .none },
  { cls := 18, slots := #[.int (-35)], vm := .none },
  { cls := 18, slots := #[.int (-34)], vm := .none },
  { cls := 18, slots := #[.int (-33)], vm := .none },
  { cls := 18, slots := #[.int (-32)], vm := .none },
  { cls := 18, slots := #[.int (-31)], vm := .none },
  { cls := 18, slots := #[.int (-30)], vm := .none },
  { cls := 18, slots := #[.int (-29)], vm := .none },
  { cls := 18, slots := #[.int (-28)], vm := .none },
  { cls := 18, slots := #[.int (-27)], vm := .none },
  { cls := 18, slots := #[.int (-26)], vm := .none },
  { cls := 18, slots := #[.int (-25)], vm := .none },
  { cls := 18, slots := #[.int (-24)], vm := .none },
  { cls := 18, slots := #[.int (-23)], vm := .none },
  { cls := 18, slots := #[.int (-22)], vm := .none },
  { cls := 18, slots := #[.int (-21)], vm := .none },
  { cls := 18, slots := #[.int (-20)], vm := .none },
  { cls := 18, slots := #[.int (-19)], vm := .none },
  { cls := 18, slots := #[.int (-18)], vm := .none },
  { cls := 18, slots := #[.int (-17)], vm := .none },
  { cls := 18, slots := #[.int (-16)], vm := .none },
  { cls := 18, slots := #[.int (-15)], vm := .none },
  { cls := 18, slots := #[.int (-14)], vm := .none },
  { cls := 18, slots := #[.int (-13)], vm := .none },
  { cls := 18, slots := #[.int (-12)], vm := .none },
  { cls := 18, slots := #[.int (-11)], vm := .none },
  { cls := 18, slots := #[.int (-10)], vm := .none },
  { cls := 18, slots := #[.int (-9)], vm := .none },
  { cls := 18, slots := #[.int (-8)], vm := .none },
  { cls := 18, slots := #[.int (-7)], vm := .none },
  { cls := 18, slots := #[.int (-6)], vm := .none },
  { cls := 18, slots := #[.int (-5)], vm := .none },
  { cls := 18, slots := #[.int (-4)], vm := .none },
  { cls := 18, slots := #[.int (-3)], vm := .none },
  { cls := 18, slots := #[.int (-2)], vm := .none },
  { cls := 18, slots := #[.int (-1)], vm := .none },
  { cls := 18, slots := #[.int 0], vm := .none },
  { cls := 18, slots := #[.int 1], vm := .none },
  { cls := 18, slots := #[.int 2], vm := .none },
  { cls := 18, slots := #[.int 3], vm := .none },
  { cls := 18, slots := #[.int 4], vm := .none },
  { cls := 18, slots := #[.int 5], vm := .none },
  { cls := 18, slots := #[.int 6], vm := .none },
  { cls := 18, slots := #[.int 7], vm := .none },
  { cls := 18, slots := #[.int 8], vm := .none },
  { cls := 18, slots := #[.int 9], vm := .none },
  { cls := 18, slots := #[.int 10], vm := .none },
  { cls := 18, slots := #[.int 11], vm := .none },
  { cls := 18, slots := #[.int 12], vm := .none },
  { cls := 18, slots := #[.int 13], vm := .none },
  { cls := 18, slots := #[.int 14], vm := .none },
  { cls := 18, slots := #[.int 15], vm := .none },
  { cls := 18, slots := #[.int 16], vm := .none },
  { cls := 18, slots := #[.int 17], vm := .none },
  { cls := 18, slots := #[.int 18], vm := .none },
  { cls := 18, slots := #[.int 19], vm := .none },
  { cls := 18, slots := #[.int 20], vm := .none },
  { cls := 18, slots := #[.int 21], vm := .none },
  { cls := 18, slots := #[.int 22], vm := .none },
  { cls := 18, slots := #[.int 23], vm := .none },
  { cls := 18, slots := #[.int 24], vm := .none },
  { cls := 18, slots := #[.int 25], vm := .none },
  { cls := 18, slots := #[.int 26], vm := .none },
  { cls := 18, slots := #[.int 27], vm := .none },
  { cls := 18, slots := #[.int 28], vm := .none },
  { cls := 18, slots := #[.int 29], vm := .none },
  { cls := 18, slots := #[.int 30], vm := .none },
  { cls := 18, slots := #[.int 31], vm := .none },
  { cls := 18, slots := #[.int 32], vm := .none },
  { cls := 18, slots := #[.int 33], vm := .none },
  { cls := 18, slots := #[.int 34], vm := .none },
  { cls := 18, slots := #[.int 35], vm := .none },
  { cls := 18, slots := #[.int 36], vm := .none },
  { cls := 18, slots := #[.int 37], vm := .none },
  { cls := 18, slots := #[.int 38], vm := .none },
  { cls := 18, slots := #[.int 39], vm := .none },
  { cls := 18, slots := #[.int 40], vm := .none },
  { cls := 18, slots := #[.int 41], vm := .none },
  { cls := 18, slots := #[.int 42], vm := .none },
  { cls := 18, slots := #[.int 43], vm := .none },
  { cls := 18, slots := #[.int 44], vm := .none },
  { cls := 18, slots := #[.int 45], vm := .none },
  { cls := 18, slots := #[.int 46], vm := .none },
  { cls := 18, slots := #[.int 47], vm := .none },
  { cls := 18, slots := #[.int 48], vm := .none },
  { cls := 18, slots := #[.int 49], vm := .none },
  { cls := 18, slots := #[.int 50], vm := .none },
  { cls := 18, slots := #[.int 51], vm := .none },
  { cls := 18, slots := #[.int 52], vm := .none },
  { cls := 18, slots := #[.int 53], vm := .none },
  { cls := 18, slots := #[.int 54], vm := .none },
  { cls := 18, slots := #[.int 55], vm := .none },
  { cls := 18, slots := #[.int 56], vm := .none },
  { cls := 18, slots := #[.int 57], vm := .none },
  { cls := 18, slots := #[.int 58], vm := .none },
  { cls := 18, slots := #[.int 59], vm := .none },
  { cls := 18, slots := #[.int 60], vm := .none },
  { cls := 18, slots := #[.int 61], vm := .none },
  { cls := 18, slots := #[.int 62], vm := .none },
  { cls := 18, slots := #[.int 63], vm := .none },
  { cls := 18, slots := #[.int 64], vm := .none },
  { cls := 18, slots := #[.int 65], vm := .none },
  { cls := 18, slots := #[.int 66], vm := .none },
  { cls := 18, slots := #[.int 67], vm := .none },
  { cls := 18, slots := #[.int 68], vm := .none },
  { cls := 18, slots := #[.int 69], vm := .none },
  { cls := 18, slots := #[.int 70], vm := .none },
  { cls := 18, slots := #[.int 71], vm := .none },
  { cls := 18, slots := #[.int 72], vm := .none },
  { cls := 18, slots := #[.int 73], vm := .none },
  { cls := 18, slots := #[.int 74], vm := .none },
  { cls := 18, slots := #[.int 75], vm := .none },
  { cls := 18, slots := #[.int 76], vm := .none },
  { cls := 18, slots := #[.int 77], vm := .none },
  { cls := 18, slots := #[.int 78], vm := .none },
  { cls := 18, slots := #[.int 79], vm := .none },
  { cls := 18, slots := #[.int 80], vm := .none },
  { cls := 18, slots := #[.int 81], vm := .none },
  { cls := 18, slots := #[.int 82], vm := .none },
  { cls := 18, slots := #[.int 83], vm := .none },
  { cls := 18, slots := #[.int 84], vm := .none },
  { cls := 18, slots := #[.int 85], vm := .none },
  { cls := 18, slots := #[.int 86], vm := .none },
  { cls := 18, slots := #[.int 87], vm := .none },
  { cls := 18, slots := #[.int 88], vm := .none },
  { cls := 18, slots := #[.int 89], vm := .none },
  { cls := 18, slots := #[.int 90], vm := .none },
  { cls := 18, slots := #[.int 91], vm := .none },
  { cls := 18, slots := #[.int 92], vm := .none },
  { cls := 18, slots := #[.int 93], vm := .none },
  { cls := 18, slots := #[.int 94], vm := .none },
  { cls := 18, slots := #[.int 95], vm := .none },
  { cls := 18, slots := #[.int 96], vm := .none },
  { cls := 18, slots := #[.int 97], vm := .none },
  { cls := 18, slots := #[.int 98], vm := .none },
  { cls := 18, slots := #[.int 99], vm := .none },
  { cls := 18, slots := #[.int 100], vm := .none },
  { cls := 18, slots := #[.int 101], vm := .none },
  { cls := 18, slots := #[.int 102], vm := .none },
  { cls := 18, slots := #[.int 103], vm := .none },
  { cls := 18, slots := #[.int 104], vm := .none },
  { cls := 18, slots := #[.int 105], vm := .none },
  { cls := 18, slots := #[.int 106], vm := .none },
  { cls := 18, slots := #[.int 107], vm := .none },
  { cls := 18, slots := #[.int 108], vm := .none },
  { cls := 18, slots := #[.int 109], vm := .none },
  { cls := 18, slots := #[.int 110], vm := .none },
  { cls := 18, slots := #[.int 111], vm := .none },
  { cls := 18, slots := #[.int 112], vm := .none },
  { cls := 18, slots := #[.int 113], vm := .none },
  { cls := 18, slots := #[.int 114], vm := .none },
  { cls := 18, slots := #[.int 115], vm := .none },
  { cls := 18, slots := #[.int 116], vm := .none },
  { cls := 18, slots := #[.int 117], vm := .none },
  { cls := 18, slots := #[.int 118], vm := .none },
  { cls := 18, slots := #[.int 119], vm := .none },
  { cls := 18, slots := #[.int 120], vm := .none },
  { cls := 18, slots := #[.int 121], vm := .none },
  { cls := 18, slots := #[.int 122], vm := .none },
  { cls := 18, slots := #[.int 123], vm := .none },
  { cls := 18, slots := #[.int 124], vm := .none },
  { cls := 18, slots := #[.int 125], vm := .none },
  { cls := 18, slots := #[.int 126], vm := .none },
  { cls := 18, slots := #[.int 127], vm := .none },
  { cls := 11, slots := #[.null, .int 0, .int 0, .null], vm := .none },
  { cls := 11, slots := #[.null, .int 1, .int 0, .null], vm := .none },
  { cls := 11, slots := #[.null, .int 2, .int 0, .null], vm := .none },
  { cls := 11, slots := #[.null, .int 3, .int 0, .null], vm := .none }]
def classes : Array Class := #[k0, k1, k2, k3, k4, k5, k6, k7, k8, k9, k10, k11, k12, k13, k14, k15, k16, k17, k18, k19, k20, k21, k22, k23, k24, k25, k26, k27, k28, k29, k30]
def interned : List (Array UInt16 × Addr) := []
def slotsUsed : Nat := 548
def theMethod : MethodId := ⟨1, 3⟩
def args0 : Array Value := #[.int 1, .int 2, .int 3, .int 4]
def aboutOver (below : List Frame) : State where
  vm := { classes := classes, interned := interned.toArray }
  heap := heap
  slotsUsed := slotsUsed
  threads := #[{ frames := .invoking theMethod args0 :: below }]
def below0 : List Frame := [.native { method := ⟨0, 0⟩, args := #[] }]
def about1 : State := aboutOver below0
def p0 : Program := .bare "" "" ""
def e0 : Env := launch0.env 0 0 0
theorem w_frames : about1.frames = Frame.invoking theMethod args0 :: below0 := rfl
set_option maxRecDepth 65536 in
theorem w_args : argsFit about1.vm theMethod args0 = true := by decide +kernel
set_option maxRecDepth 65536 in
theorem w_heap : heapFits about1 = true := by decide +kernel
set_option maxRecDepth 65536 in
theorem w_runnable : about1.curStatus? = some .runnable := by decide +kernel
set_option maxRecDepth 65536 in
theorem w_alone : about1.alone = true := by decide +kernel
set_option maxRecDepth 65536 in
theorem w_named : about1.methodNamed? x = some theMethod := by decide +kernel
set_option maxRecDepth 65536 in
theorem w_hears : about1.hears theMethod below0 = true := by decide +kernel
set_option maxRecDepth 65536 in
theorem w_ripe : about1.ripe theMethod args0 below0 = true := by decide +kernel
theorem w_running : about1.status = .running := rfl
set_option maxRecDepth 65536 in
theorem w_room : about1.hasRoom e0.platform room_1 = true :=
  launch0.hasRoom_least _ room_1 (by decide +kernel) (by decide +kernel) (by decide +kernel) (by decide +kernel) (by decide +kernel) (by decide +kernel)
theorem allAtoms_all (ts : List Jvm.Cond) (a : Array Jvm.Value) (st : Jvm.State) : (allAtoms ts).before a st = ts.all (fun c => c.before a st) := by
  induction ts with
  | nil => rfl
  | cons c t ih =>
    show (Jvm.Cond.and c (allAtoms t)).before a st = _
    rw [Jvm.Cond.before_and, ih, List.all_cons]
def words1 : List Jvm.Cond := Jvm.Cond.code x code maxLocals ret :: tables_1
/-- a 'code' word, met by the world's own term for the bytes: nothing is compared byte by byte -/
theorem code_word {y : MethodName} {bytes : ByteArray} {mx : Nat} {rt : Option FieldType} {a : Array Value} {s : State} {m : MethodId} {meth : Method} {c : Code} (h1 : s.methodNamed? y = some m) (h2 : s.vm.method? m = some meth) (h3 : meth.code = some c) (h4 : c.code = bytes)
    (h5 : (c.maxLocals == mx && c.exceptionTable.isEmpty && decide (c.maxStack ≤ mostOperands) && decide (meth.sig.returnType = rt) && !meth.locks && decide (parseMethodDescriptor y.desc = some meth.sig)) = true) : (Jvm.Cond.code y bytes mx rt).before a s = true := by
  simp only [Bool.and_eq_true, beq_iff_eq, Bool.not_eq_true', decide_eq_true_eq] at h5
  obtain ⟨⟨⟨⟨⟨g1, g2⟩, g3⟩, g4⟩, g5⟩, g6⟩ := h5
  simp [Cond.before, Cond.holds, Cond.value, h1, h2, h3, h4, g1, g2, g3, g4, g5, g6]
def isCode : Jvm.Cond → Bool
  | .code _ _ _ _ => true
  | _ => false
theorem all_split {L : List Jvm.Cond} {P : Jvm.Cond → Bool} (h1 : L.all (fun c => isCode c || P c) = true) (h2 : ∀ c ∈ L.filter isCode, P c = true) : L.all P = true := by
  refine List.all_eq_true.mpr fun c hc => ?_
  have h := List.all_eq_true.mp h1 c hc
  rcases Bool.eq_false_or_eq_true (isCode c) with hi | hi
  · exact h2 c (List.mem_filter.mpr ⟨hc, hi⟩)
  · simpa [hi] using h
set_option maxRecDepth 65536 in
theorem w_c0 : (Jvm.Cond.code x code maxLocals ret).before args0 about1 = true := code_word (m := ⟨1, 3⟩) (meth := k1m3) (c := k1c3) (by decide +kernel) rfl rfl rfl (by decide +kernel)
set_option maxRecDepth 65536 in
theorem w_c1 : (Jvm.Cond.code ({ cls := "com/example/avain/avain/model/AtomEqualsPinLaw", name := "str", desc := "(ICC)Ljava/lang/String;" } : Jvm.MethodName) method_3_code (4 : Nat) (Option.some (Jvm.ClassFile.FieldType.object "java/lang/String"))).before args0 about1 = true := code_word (m := ⟨1, 2⟩) (meth := k1m2) (c := k1c2) (by decide +kernel) rfl rfl rfl (by decide +kernel)
set_option maxRecDepth 65536 in
theorem w_c2 : (Jvm.Cond.code ({ cls := "java/lang/String", name := "<init>", desc := "([C)V" } : Jvm.MethodName) jdk_42_method_3_code (2 : Nat) (Option.none : Option Jvm.ClassFile.FieldType)).before args0 about1 = true := code_word (m := ⟨7, 1⟩) (meth := k7m1) (c := k7c1) (by decide +kernel) rfl rfl rfl (by decide +kernel)
set_option maxRecDepth 65536 in
theorem w_c3 : (Jvm.Cond.code ({ cls := "java/lang/String", name := "<init>", desc := "([CIILjava/lang/Void;)V" } : Jvm.MethodName) jdk_42_method_149_code (6 : Nat) (Option.none : Option Jvm.ClassFile.FieldType)).before args0 about1 = true := code_word (m := ⟨7, 4⟩) (meth := k7m4) (c := k7c4) (by decide +kernel) rfl rfl rfl (by decide +kernel)
set_option maxRecDepth 65536 in
theorem w_c4 : (Jvm.Cond.code ({ cls := "java/lang/Object", name := "<init>", desc := "()V" } : Jvm.MethodName) object_method_1_code (1 : Nat) (Option.none : Option Jvm.ClassFile.FieldType)).before args0 about1 = true := code_word (m := ⟨0, 0⟩) (meth := k0m0) (c := k0c0) (by decide +kernel) rfl rfl rfl (by decide +kernel)
set_option maxRecDepth 65536 in
theorem w_c5 : (Jvm.Cond.code ({ cls := "com/example/avain/avain/model/AtomEqualsPinLaw", name := "typeOf", desc := "(I)Lcom/example/avain/avain/model/Type;" } : Jvm.MethodName) method_2_code (1 : Nat) (Option.some (Jvm.ClassFile.FieldType.object "com/example/avain/avain/model/Type"))).before args0 about1 = true := code_word (m := ⟨1, 1⟩) (meth := k1m1) (c := k1c1) (by decide +kernel) rfl rfl rfl (by decide +kernel)
set_option maxRecDepth 65536 in
theorem w_c6 : (Jvm.Cond.code ({ cls := "com/example/avain/avain/model/Atom", name := "<init>", desc := "(Lcom/example/avain/avain/model/Type;Ljava/lang/String;)V" } : Jvm.MethodName) prog_44_method_1_code (3 : Nat) (Option.none : Option Jvm.ClassFile.FieldType)).before args0 about1 = true := code_word (m := ⟨9, 0⟩) (meth := k9m0) (c := k9c0) (by decide +kernel) rfl rfl rfl (by decide +kernel)
set_option maxRecDepth 65536 in
theorem w_c7 : (Jvm.Cond.code ({ cls := "java/util/Objects", name := "requireNonNull", desc := "(Ljava/lang/Object;Ljava/lang/String;)Ljava/lang/Object;" } : Jvm.MethodName) jdk_31_method_11_code (2 : Nat) (Option.some (Jvm.ClassFile.FieldType.object "java/lang/Object"))).before args0 about1 = true := code_word (m := ⟨12, 2⟩) (meth := k12m2) (c := k12c2) (by decide +kernel) rfl rfl rfl (by decide +kernel)
set_option maxRecDepth 65536 in
theorem w_c8 : (Jvm.Cond.code ({ cls := "java/lang/Enum", name := "ordinal", desc := "()I" } : Jvm.MethodName) jdk_37_method_2_code (1 : Nat) (Option.some Jvm.ClassFile.FieldType.int)).before args0 about1 = true := code_word (m := ⟨10, 0⟩) (meth := k10m0) (c := k10c0) (by decide +kernel) rfl rfl rfl (by decide +kernel)
set_option maxRecDepth 65536 in
theorem w_c9 : (Jvm.Cond.code ({ cls := "java/lang/String", name := "hashCode", desc := "()I" } : Jvm.MethodName) jdk_42_method_78_code (2 : Nat) (Option.some Jvm.ClassFile.FieldType.int)).before args0 about1 = true := code_word (m := ⟨7, 3⟩) (meth := k7m3) (c := k7c3) (by decide +kernel) rfl rfl rfl (by decide +kernel)
set_option maxRecDepth 65536 in
theorem w_c10 : (Jvm.Cond.code ({ cls := "java/lang/String", name := "isLatin1", desc := "()Z" } : Jvm.MethodName) jdk_42_method_154_code (1 : Nat) (Option.some Jvm.ClassFile.FieldType.boolean)).before args0 about1 = true := code_word (m := ⟨7, 5⟩) (meth := k7m5) (c := k7c5) (by decide +kernel) rfl rfl rfl (by decide +kernel)
set_option maxRecDepth 65536 in
theorem w_c11 : (Jvm.Cond.code ({ cls := "java/lang/StringLatin1", name := "hashCode", desc := "([B)I" } : Jvm.MethodName) jdk_43_method_21_code (1 : Nat) (Option.some Jvm.ClassFile.FieldType.int)).before args0 about1 = true := code_word (m := ⟨13, 2⟩) (meth := k13m2) (c := k13c2) (by decide +kernel) rfl rfl rfl (by decide +kernel)
set_option maxRecDepth 65536 in
theorem w_c12 : (Jvm.Cond.code ({ cls := "com/example/avain/avain/model/Atom", name := "equals", desc := "(Ljava/lang/Object;)Z" } : Jvm.MethodName) prog_44_method_10_code (3 : Nat) (Option.some Jvm.ClassFile.FieldType.boolean)).before args0 about1 = true := code_word (m := ⟨9, 1⟩) (meth := k9m1) (c := k9c1) (by decide +kernel) rfl rfl rfl (by decide +kernel)
set_option maxRecDepth 65536 in
theorem w_c13 : (Jvm.Cond.code ({ cls := "java/lang/String", name := "equals", desc := "(Ljava/lang/Object;)Z" } : Jvm.MethodName) jdk_42_method_66_code (3 : Nat) (Option.some Jvm.ClassFile.FieldType.boolean)).before args0 about1 = true := code_word (m := ⟨7, 2⟩) (meth := k7m2) (c := k7c2) (by decide +kernel) rfl rfl rfl (by decide +kernel)
set_option maxRecDepth 65536 in
theorem w_c14 : (Jvm.Cond.code ({ cls := "java/lang/StringLatin1", name := "equals", desc := "([B[B)Z" } : Jvm.MethodName) jdk_43_method_13_code (3 : Nat) (Option.some Jvm.ClassFile.FieldType.boolean)).before args0 about1 = true := code_word (m := ⟨13, 1⟩) (meth := k13m1) (c := k13c1) (by decide +kernel) rfl rfl rfl (by decide +kernel)
set_option maxRecDepth 65536 in
theorem w_c15 : (Jvm.Cond.code ({ cls := "java/lang/StringUTF16", name := "compress", desc := "([CII)[B" } : Jvm.MethodName) jdk_52_method_16_code (6 : Nat) (Option.some (Jvm.ClassFile.FieldType.array Jvm.ClassFile.FieldType.byte))).before args0 about1 = true := code_word (m := ⟨14, 2⟩) (meth := k14m2) (c := k14c2) (by decide +kernel) rfl rfl rfl (by decide +kernel)
set_option maxRecDepth 65536 in
theorem w_c16 : (Jvm.Cond.code ({ cls := "java/lang/StringUTF16", name := "compress", desc := "([CI[BII)I" } : Jvm.MethodName) jdk_52_method_21_code (7 : Nat) (Option.some Jvm.ClassFile.FieldType.int)).before args0 about1 = true := code_word (m := ⟨14, 3⟩) (meth := k14m3) (c := k14c3) (by decide +kernel) rfl rfl rfl (by decide +kernel)
set_option maxRecDepth 65536 in
theorem w_c17 : (Jvm.Cond.code ({ cls := "java/lang/StringUTF16", name := "coderFromArrayLen", desc := "([BI)B" } : Jvm.MethodName) jdk_52_method_15_code (2 : Nat) (Option.some Jvm.ClassFile.FieldType.byte)).before args0 about1 = true := code_word (m := ⟨14, 1⟩) (meth := k14m1) (c := k14c1) (by decide +kernel) rfl rfl rfl (by decide +kernel)
set_option maxRecDepth 65536 in
theorem w_c18 : (Jvm.Cond.code ({ cls := "jdk/internal/util/ArraysSupport", name := "vectorizedHashCode", desc := "(Ljava/lang/Object;IIII)I" } : Jvm.MethodName) jdk_48_method_4_code (5 : Nat) (Option.some Jvm.ClassFile.FieldType.int)).before args0 about1 = true := code_word (m := ⟨15, 1⟩) (meth := k15m1) (c := k15c1) (by decide +kernel) rfl rfl rfl (by decide +kernel)
set_option maxRecDepth 65536 in
theorem w_c19 : (Jvm.Cond.code ({ cls := "jdk/internal/util/ArraysSupport", name := "signedHashCode", desc := "(I[BII)I" } : Jvm.MethodName) jdk_48_method_5_code (6 : Nat) (Option.some Jvm.ClassFile.FieldType.int)).before args0 about1 = true := code_word (m := ⟨15, 2⟩) (meth := k15m2) (c := k15c2) (by decide +kernel) rfl rfl rfl (by decide +kernel)
set_option maxRecDepth 65536 in
theorem w_c20 : (Jvm.Cond.code ({ cls := "com/example/avain/avain/model/Variable", name := "of", desc := "(Ljava/lang/String;Lcom/example/avain/avain/model/Type;)Lcom/example/avain/avain/model/Variable;" } : Jvm.MethodName) prog_61_method_2_code (2 : Nat) (Option.some (Jvm.ClassFile.FieldType.object "com/example/avain/avain/model/Variable"))).before args0 about1 = true := code_word (m := ⟨16, 1⟩) (meth := k16m1) (c := k16c1) (by decide +kernel) rfl rfl rfl (by decide +kernel)
set_option maxRecDepth 65536 in
theorem w_c21 : (Jvm.Cond.code ({ cls := "com/example/avain/avain/model/Variable", name := "<init>", desc := "(Ljava/lang/String;Lcom/example/avain/avain/model/Type;Lcom/example/avain/avain/model/Term;)V" } : Jvm.MethodName) prog_61_method_1_code (4 : Nat) (Option.none : Option Jvm.ClassFile.FieldType)).before args0 about1 = true := code_word (m := ⟨16, 0⟩) (meth := k16m0) (c := k16c0) (by decide +kernel) rfl rfl rfl (by decide +kernel)
set_option maxRecDepth 65536 in
theorem w_c22 : (Jvm.Cond.code ({ cls := "java/lang/Integer", name := "valueOf", desc := "(I)Ljava/lang/Integer;" } : Jvm.MethodName) jdk_33_method_22_code (1 : Nat) (Option.some (Jvm.ClassFile.FieldType.object "java/lang/Integer"))).before args0 about1 = true := code_word (m := ⟨18, 0⟩) (meth := k18m0) (c := k18c0) (by decide +kernel) rfl rfl rfl (by decide +kernel)
set_option maxRecDepth 65536 in
theorem w_c23 : (Jvm.Cond.code ({ cls := "java/util/Objects", name := "hash", desc := "([Ljava/lang/Object;)I" } : Jvm.MethodName) jdk_31_method_5_code (1 : Nat) (Option.some Jvm.ClassFile.FieldType.int)).before args0 about1 = true := code_word (m := ⟨12, 1⟩) (meth := k12m1) (c := k12c1) (by decide +kernel) rfl rfl rfl (by decide +kernel)
set_option maxRecDepth 65536 in
theorem w_c24 : (Jvm.Cond.code ({ cls := "java/util/Arrays", name := "hashCode", desc := "([Ljava/lang/Object;)I" } : Jvm.MethodName) jdk_65_method_157_code (6 : Nat) (Option.some Jvm.ClassFile.FieldType.int)).before args0 about1 = true := code_word (m := ⟨20, 1⟩) (meth := k20m1) (c := k20c1) (by decide +kernel) rfl rfl rfl (by decide +kernel)
set_option maxRecDepth 65536 in
theorem w_c25 : (Jvm.Cond.code ({ cls := "java/lang/Integer", name := "hashCode", desc := "()I" } : Jvm.MethodName) jdk_33_method_32_code (1 : Nat) (Option.some Jvm.ClassFile.FieldType.int)).before args0 about1 = true := code_word (m := ⟨18, 1⟩) (meth := k18m1) (c := k18c1) (by decide +kernel) rfl rfl rfl (by decide +kernel)
set_option maxRecDepth 65536 in
theorem w_c26 : (Jvm.Cond.code ({ cls := "java/lang/Integer", name := "hashCode", desc := "(I)I" } : Jvm.MethodName) jdk_33_method_33_code (1 : Nat) (Option.some Jvm.ClassFile.FieldType.int)).before args0 about1 = true := code_word (m := ⟨18, 2⟩) (meth := k18m2) (c := k18c2) (by decide +kernel) rfl rfl rfl (by decide +kernel)
def codes1 : List Jvm.Cond := [Jvm.Cond.code x code maxLocals ret, Jvm.Cond.code ({ cls := "com/example/avain/avain/model/AtomEqualsPinLaw", name := "str", desc := "(ICC)Ljava/lang/String;" } : Jvm.MethodName) method_3_code (4 : Nat) (Option.some (Jvm.ClassFile.FieldType.object "java/lang/String")), Jvm.Cond.code ({ cls := "java/lang/String", name := "<init>", desc := "([C)V" } : Jvm.MethodName) jdk_42_method_3_code (2 : Nat) (Option.none : Option Jvm.ClassFile.FieldType), Jvm.Cond.code ({ cls := "java/lang/String", name := "<init>", desc := "([CIILjava/lang/Void;)V" } : Jvm.MethodName) jdk_42_method_149_code (6 : Nat) (Option.none : Option Jvm.ClassFile.FieldType), Jvm.Cond.code ({ cls := "java/lang/Object", name := "<init>", desc := "()V" } : Jvm.MethodName) object_method_1_code (1 : Nat) (Option.none : Option Jvm.ClassFile.FieldType), Jvm.Cond.code ({ cls := "com/example/avain/avain/model/AtomEqualsPinLaw", name := "typeOf", desc := "(I)Lcom/example/avain/avain/model/Type;" } : Jvm.MethodName) method_2_code (1 : Nat) (Option.some (Jvm.ClassFile.FieldType.object "com/example/avain/avain/model/Type")), Jvm.Cond.code ({ cls := "com/example/avain/avain/model/Atom", name := "<init>", desc := "(Lcom/example/avain/avain/model/Type;Ljava/lang/String;)V" } : Jvm.MethodName) prog_44_method_1_code (3 : Nat) (Option.none : Option Jvm.ClassFile.FieldType), Jvm.Cond.code ({ cls := "java/util/Objects", name := "requireNonNull", desc := "(Ljava/lang/Object;Ljava/lang/String;)Ljava/lang/Object;" } : Jvm.MethodName) jdk_31_method_11_code (2 : Nat) (Option.some (Jvm.ClassFile.FieldType.object "java/lang/Object")), Jvm.Cond.code ({ cls := "java/lang/Enum", name := "ordinal", desc := "()I" } : Jvm.MethodName) jdk_37_method_2_code (1 : Nat) (Option.some Jvm.ClassFile.FieldType.int), Jvm.Cond.code ({ cls := "java/lang/String", name := "hashCode", desc := "()I" } : Jvm.MethodName) jdk_42_method_78_code (2 : Nat) (Option.some Jvm.ClassFile.FieldType.int), Jvm.Cond.code ({ cls := "java/lang/String", name := "isLatin1", desc := "()Z" } : Jvm.MethodName) jdk_42_method_154_code (1 : Nat) (Option.some Jvm.ClassFile.FieldType.boolean), Jvm.Cond.code ({ cls := "java/lang/StringLatin1", name := "hashCode", desc := "([B)I" } : Jvm.MethodName) jdk_43_method_21_code (1 : Nat) (Option.some Jvm.ClassFile.FieldType.int), Jvm.Cond.code ({ cls := "com/example/avain/avain/model/Atom", name := "equals", desc := "(Ljava/lang/Object;)Z" } : Jvm.MethodName) prog_44_method_10_code (3 : Nat) (Option.some Jvm.ClassFile.FieldType.boolean), Jvm.Cond.code ({ cls := "java/lang/String", name := "equals", desc := "(Ljava/lang/Object;)Z" } : Jvm.MethodName) jdk_42_method_66_code (3 : Nat) (Option.some Jvm.ClassFile.FieldType.boolean), Jvm.Cond.code ({ cls := "java/lang/StringLatin1", name := "equals", desc := "([B[B)Z" } : Jvm.MethodName) jdk_43_method_13_code (3 : Nat) (Option.some Jvm.ClassFile.FieldType.boolean), Jvm.Cond.code ({ cls := "java/lang/StringUTF16", name := "compress", desc := "([CII)[B" } : Jvm.MethodName) jdk_52_method_16_code (6 : Nat) (Option.some (Jvm.ClassFile.FieldType.array Jvm.ClassFile.FieldType.byte)), Jvm.Cond.code ({ cls := "java/lang/StringUTF16", name := "compress", desc := "([CI[BII)I" } : Jvm.MethodName) jdk_52_method_21_code (7 : Nat) (Option.some Jvm.ClassFile.FieldType.int), Jvm.Cond.code ({ cls := "java/lang/StringUTF16", name := "coderFromArrayLen", desc := "([BI)B" } : Jvm.MethodName) jdk_52_method_15_code (2 : Nat) (Option.some Jvm.ClassFile.FieldType.byte), Jvm.Cond.code ({ cls := "jdk/internal/util/ArraysSupport", name := "vectorizedHashCode", desc := "(Ljava/lang/Object;IIII)I" } : Jvm.MethodName) jdk_48_method_4_code (5 : Nat) (Option.some Jvm.ClassFile.FieldType.int), Jvm.Cond.code ({ cls := "jdk/internal/util/ArraysSupport", name := "signedHashCode", desc := "(I[BII)I" } : Jvm.MethodName) jdk_48_method_5_code (6 : Nat) (Option.some Jvm.ClassFile.FieldType.int), Jvm.Cond.code ({ cls := "com/example/avain/avain/model/Variable", name := "of", desc := "(Ljava/lang/String;Lcom/example/avain/avain/model/Type;)Lcom/example/avain/avain/model/Variable;" } : Jvm.MethodName) prog_61_method_2_code (2 : Nat) (Option.some (Jvm.ClassFile.FieldType.object "com/example/avain/avain/model/Variable")), Jvm.Cond.code ({ cls := "com/example/avain/avain/model/Variable", name := "<init>", desc := "(Ljava/lang/String;Lcom/example/avain/avain/model/Type;Lcom/example/avain/avain/model/Term;)V" } : Jvm.MethodName) prog_61_method_1_code (4 : Nat) (Option.none : Option Jvm.ClassFile.FieldType), Jvm.Cond.code ({ cls := "java/lang/Integer", name := "valueOf", desc := "(I)Ljava/lang/Integer;" } : Jvm.MethodName) jdk_33_method_22_code (1 : Nat) (Option.some (Jvm.ClassFile.FieldType.object "java/lang/Integer")), Jvm.Cond.code ({ cls := "java/util/Objects", name := "hash", desc := "([Ljava/lang/Object;)I" } : Jvm.MethodName) jdk_31_method_5_code (1 : Nat) (Option.some Jvm.ClassFile.FieldType.int), Jvm.Cond.code ({ cls := "java/util/Arrays", name := "hashCode", desc := "([Ljava/lang/Object;)I" } : Jvm.MethodName) jdk_65_method_157_code (6 : Nat) (Option.some Jvm.ClassFile.FieldType.int), Jvm.Cond.code ({ cls := "java/lang/Integer", name := "hashCode", desc := "()I" } : Jvm.MethodName) jdk_33_method_32_code (1 : Nat) (Option.some Jvm.ClassFile.FieldType.int), Jvm.Cond.code ({ cls := "java/lang/Integer", name := "hashCode", desc := "(I)I" } : Jvm.MethodName) jdk_33_method_33_code (1 : Nat) (Option.some Jvm.ClassFile.FieldType.int)]
set_option maxRecDepth 65536 in
theorem codes_eq : words1.filter isCode = codes1 := rfl
theorem w_codes : ∀ c ∈ words1.filter isCode, c.before args0 about1 = true := by
  rw [codes_eq]
  intro c hc
  simp only [codes1, List.mem_cons, List.not_mem_nil, or_false] at hc
  rcases hc with rfl | rfl | rfl | rfl | rfl | rfl | rfl | rfl | rfl | rfl | rfl | rfl | rfl | rfl | rfl | rfl | rfl | rfl | rfl | rfl | rfl | rfl | rfl | rfl | rfl | rfl | rfl
  · exact w_c0
  · exact w_c1
  · exact w_c2
  · exact w_c3
  · exact w_c4
  · exact w_c5
  · exact w_c6
  · exact w_c7
  · exact w_c8
  · exact w_c9
  · exact w_c10
  · exact w_c11
  · exact w_c12
  · exact w_c13
  · exact w_c14
  · exact w_c15
  · exact w_c16
  · exact w_c17
  · exact w_c18
  · exact w_c19
  · exact w_c20
  · exact w_c21
  · exact w_c22
  · exact w_c23
  · exact w_c24
  · exact w_c25
  · exact w_c26
set_option maxRecDepth 65536 in
theorem w_t1 : (words1.take 24).all (fun c => isCode c || c.before args0 about1) = true := by decide +kernel
set_option maxRecDepth 65536 in
theorem w_t2 : ((words1.drop 24).take 24).all (fun c => isCode c || c.before args0 about1) = true := by decide +kernel
set_option maxRecDepth 65536 in
theorem w_t3 : (((words1.drop 24).drop 24).take 24).all (fun c => isCode c || c.before args0 about1) = true := by decide +kernel
set_option maxRecDepth 65536 in
theorem w_t4 : ((((words1.drop 24).drop 24).drop 24).take 24).all (fun c => isCode c || c.before args0 about1) = true := by decide +kernel
set_option maxRecDepth 65536 in
theorem w_t5 : (((((words1.drop 24).drop 24).drop 24).drop 24).take 24).all (fun c => isCode c || c.before args0 about1) = true := by decide +kernel
set_option maxRecDepth 65536 in
theorem w_t6 : ((((((words1.drop 24).drop 24).drop 24).drop 24).drop 24).take 24).all (fun c => isCode c || c.before args0 about1) = true := by decide +kernel
set_option maxRecDepth 65536 in
theorem w_t7 : (((((((words1.drop 24).drop 24).drop 24).drop 24).drop 24).drop 24).take 24).all (fun c => isCode c || c.before args0 about1) = true := by decide +kernel
set_option maxRecDepth 65536 in
theorem w_t8 : (((((((words1.drop 24).drop 24).drop 24).drop 24).drop 24).drop 24).drop 24).all (fun c => isCode c || c.before args0 about1) = true := by decide +kernel
theorem w_tables : (allAtoms (Jvm.Cond.code x code maxLocals ret :: tables_1)).before args0 about1 = true := by
  rw [allAtoms_all]
  show words1.all (fun c => c.before args0 about1) = true
  refine all_split ?_ w_codes
  rw [← List.take_append_drop 24 words1, List.all_append, w_t1, ← List.take_append_drop 24 (words1.drop 24), List.all_append, w_t2, ← List.take_append_drop 24 ((words1.drop 24).drop 24), List.all_append, w_t3, ← List.take_append_drop 24 (((words1.drop 24).drop 24).drop 24), List.all_append, w_t4, ← List.take_append_drop 24 ((((words1.drop 24).drop 24).drop 24).drop 24), List.all_append, w_t5, ← List.take_append_drop 24 (((((words1.drop 24).drop 24).drop 24).drop 24).drop 24), List.all_append, w_t6, ← List.take_append_drop 24 ((((((words1.drop 24).drop 24).drop 24).drop 24).drop 24).drop 24), List.all_append, w_t7, w_t8]
  rfl
set_option maxRecDepth 65536 in
theorem w_rest : rest_1_c.before args0 about1 = true := by decide +kernel
set_option maxRecDepth 65536 in
theorem w_case : (Jvm.Cond.and given_1 narrow_1).before args0 about1 = true := by decide +kernel
set_option maxRecDepth 65536 in
theorem w_consts : constsHeld consts_1 about1 := Jvm.Lit.constsHeldB_iff.mp (by decide +kernel)
theorem w_applies : (headSpec (Jvm.Cond.code x code maxLocals ret :: tables_1) room_1).applies x e0.platform about1 = true :=
  (Spec.applies_iff w_frames).mpr ⟨w_running, w_runnable, w_alone, w_named, w_hears, w_ripe, w_room, w_tables⟩
theorem atStart : AtStart classFile x code maxLocals ret World_1 tables_1 room_1 Calls_1 rest_1 Pre_1 launch0 p0 e0 about1 theMethod args0 below0 :=
  ⟨lists_1, trivial, launch0.admits_env _ _ _, launch0.least_env, fairChoices_fair.cas, fairChoices_fair.clock, w_frames, w_args, w_heap, w_applies, ⟨w_consts, trivial⟩, w_rest, w_case⟩
end start1
theorem witness_1 : WitnessClaimed_1 := ⟨start1.p0, start1.e0, start1.about1, start1.theMethod, start1.args0, start1.below0, start1.atStart⟩
end Jvm.Pilot.@@N@@
