import JvmDerived
import JvmDerived.Pilot.@@N@@Statement
import JvmDerived.Pilot.@@N@@Code
set_option linter.unusedVariables false
set_option linter.unusedSimpArgs false
namespace Jvm.Pilot.@@N@@
namespace GK
open Jvm Jvm.ClassFile Sem Op Lib Jvm.Free Jvm.Stand Jvm.LawKit Jvm.RoadKit Bundle
/-! A small program logic over the library's walks: 'Go' says that from a frame at pc the body runs to its return, and what holds there. -/
abbrev Md := Option (List (String × Nat))
def Bk0 (md : Md) (Z s : State) (sf : List Addr) (vm0 : Vm) (h : Heap) : Prop :=
  match md with
  | none => vm0 = s.vm
  | some EL => (∃ k, s.Since vm0 k ∧ k ≤ h.size) ∧ (∃ a0, EW Z a0 EL) ∧ CHr Z EL s.vm s.heap vm0 h ∧ ∀ x ∈ sf, x < h.size ∧ Safe Z EL vm0 h x
/-- what is kept along a walk: the start's cells stand; the tables' book -/
def Bok (md : Md) (Z : State) (n0 : Nat) (s : State) (sf : List Addr) (vm0 : Vm) (h : Heap) : Prop := Old Z n0 h ∧ Bk0 md Z s sf vm0 h
def SafeAll (md : Md) (Z : State) (sf : List Addr) (vm : Vm) (h : Heap) : Prop :=
  match md with
  | none => True
  | some EL => ∀ x ∈ sf, x < h.size ∧ Safe Z EL vm h x
def FinE (md : Md) (Z s : State) (o : Outcome) (t : State) (L : List Loc) (k n : Nat) : Prop :=
  match md with
  | none => FrameEnd s o t L k n
  | some EL => CHr Z EL s.vm s.heap t.vm t.heap ∧ ReturnedEndW s o t L k n
section B
variable {md : Md} {EL : List (String × Nat)} {Z s : State} {n0 : Nat} {sf sf' ws : List Addr} {vm0 vm1 : Vm} {h h' h2 : Heap} {x a : Addr} {sl : Nat} {v : Value}
theorem extR (h : Heap) : Ext h h := ⟨Nat.le_refl _, fun _ _ q => q⟩
theorem extT (E : Ext h h') (E' : Ext h' h2) : Ext h h2 := ⟨Nat.le_trans E.1 E'.1, fun a c q => E'.2 a c (E.2 a c q)⟩
/-- a write beyond h -/
theorem extW (E : Ext h h') (W : Wr h' h2 a sl v) (q : h.size ≤ a) : Ext h h2 := by
  obtain ⟨c, -, -, -, rfl⟩ := W
  refine ⟨by simpa using E.1, fun b cb hb => ?_⟩
  have hlt := (Array.getElem?_eq_some_iff.mp hb).1
  rw [Array.getElem?_setIfInBounds_ne (by omega)]
  exact E.2 b cb hb
theorem extK (E : Ext h h') (K : Keep h' h2 ws) (q : ∀ x ∈ ws, h.size ≤ x) : Ext h h2 :=
  ⟨Nat.le_trans E.1 K.1, fun b cb hb => K.2.1 b cb (E.2 b cb hb) fun z => by
    have hlt := (Array.getElem?_eq_some_iff.mp hb).1
    have := q b z; omega⟩
theorem keepE (E : Ext h h') (ws : List Addr) : Keep h h' ws := (Keep.refl h ws).ext E
theorem Bok.n0le (B : Bok md Z n0 s sf vm0 h) : n0 ≤ h.size := B.1.1 ▸ B.1.2.1
theorem Bok.sub (B : Bok md Z n0 s sf vm0 h) (q : ∀ x ∈ sf', x ∈ sf) : Bok md Z n0 s sf' vm0 h := by
  cases md with
  | none => exact B
  | some EL => exact ⟨B.1, B.2.1, B.2.2.1, B.2.2.2.1, fun x hx => B.2.2.2.2 x (q x hx)⟩
theorem Bok.keep (B : Bok md Z n0 s sf vm0 h) (K : Keep h h' ws) (q : ∀ x ∈ ws, x ∈ sf) (q0 : ∀ x ∈ ws, n0 ≤ x) : Bok md Z n0 s sf vm0 h' := by
  refine ⟨B.1.keep K q0, ?_⟩
  cases md with
  | none => exact B.2
  | some EL =>
    obtain ⟨-, ⟨k, h1, h2⟩, h3, h4, h5⟩ := B
    have C := CHr.keep K (fun x hx => (h5 x (q x hx)).2) h4.1
    exact ⟨⟨k, h1, Nat.le_trans h2 K.1⟩, h3, h4.trans C, fun x hx => ⟨Nat.lt_of_lt_of_le (h5 x hx).1 K.1, C.safe (h5 x hx).1 (h5 x hx).2⟩⟩
theorem Bok.wr (B : Bok md Z n0 s sf vm0 h) (W : Wr h h' a sl v) (q : a ∈ sf) (q0 : n0 ≤ a) : Bok md Z n0 s sf vm0 h' :=
  B.keep (Keep.of_wr W) (fun x hx => by cases List.mem_singleton.mp hx; exact q) (fun x hx => by cases List.mem_singleton.mp hx; exact q0)
theorem Bok.ext (B : Bok md Z n0 s sf vm0 h) (E : Ext h h') : Bok md Z n0 s sf vm0 h' :=
  B.keep (keepE E []) (fun x hx => nomatch hx) (fun x hx => nomatch hx)
theorem Bok.new (B : Bok md Z n0 s sf vm0 h) (E : Ext h h') (q : x < h'.size) (r : h.size ≤ x) : Bok md Z n0 s (x :: sf) vm0 h' := by
  have B' := B.ext E
  cases md with
  | none => exact B'
  | some EL =>
    refine ⟨B'.1, B'.2.1, B'.2.2.1, B'.2.2.2.1, fun y hy => ?_⟩
    rcases List.mem_cons.mp hy with rfl | hy
    · exact ⟨q, fun b => Safe.new r ((B.2.2.2.1.1.step fun _ _ _ q => E.2 _ _ q).2 _ b)⟩
    · exact B'.2.2.2.2 y hy
end B
/-- Java's x >>> y -/
def ushr (x y : Int32) : Int32 := (x.toUInt32 >>> (y &&& 31).toUInt32).toInt32
def ushrL (x : Int64) (y : Int32) : Int64 := (x.toUInt64 >>> (y &&& 0x3f).toInt64.toUInt64).toInt64
/-- (char) x -/
def chr (x : Int32) : Int32 := x.toUInt32.toUInt16.toUInt32.toInt32
def Go (md : Md) (l : Launch) (Z : State) (n0 : Nat) (R : Room) (bytes : ByteArray) (ml : Nat) (ret : Option FieldType) (own mn : String) (Ψ : Option Value → Heap → List Addr → Prop)
    (cells slots : Nat) (sf : List Addr) (h : Heap) (pc : Nat) (L : Array Slot) (S : List Value) : Prop :=
  ∀ (p : Program) (e : Env) (s : State) (m : MethodId) (args : Array Value) (below : List Frame) (meth : Method) (c : Code) (vm0 : Vm) (T : State) (locs : List Loc),
    p.tables.exec = Jvm.exec → c.code = bytes → c.maxLocals = ml → meth.sig.returnType = ret → meth.locks = false → meth.name = mn → Z.vm.findClass own = some m.cls →
    Stand p l e R (s.setVm vm0) m args below meth c T locs cells slots → T.heap = h → Z.Warmed39 vm0 → Bok md Z n0 s sf vm0 h → Fr n0 locs →
    ∃ (s₂ : State) (o : Outcome), Steps p.tables e below (T.setTop (mkF m pc L S)) s₂ ∧ s₂.status = .running ∧ Ended s₂ below o ∧
      ∃ (v : Option Value) (L' : List Loc) (sf' : List Addr), o = .returned v ∧ Ψ v s₂.heap sf' ∧ Old Z n0 s₂.heap ∧ Fr n0 L' ∧ SafeAll md Z sf' s₂.vm s₂.heap ∧ FinE md Z s o s₂ L' R.cells R.slots
section G
variable {md : Md} {EL : List (String × Nat)} {l : Launch} {Z : State} {n0 : Nat} {R : Room} {bytes : ByteArray} {ml : Nat} {ret : Option FieldType} {own mn : String} {Ψ : Option Value → Heap → List Addr → Prop}
  {cells slots : Nat} {sf : List Addr} {h h' : Heap} {pc : Nat} {L : Array Slot} {S : List Value} {a0 : Array Value}
theorem Go.more {cells' slots' : Nat} {sf' : List Addr} (G : Go md l Z n0 R bytes ml ret own mn Ψ cells' slots' sf' h pc L S) (hc : cells ≤ cells') (hs : slots ≤ slots') (q : ∀ x ∈ sf', x ∈ sf) : Go md l Z n0 R bytes ml ret own mn Ψ cells slots sf h pc L S := by
  intro p e s m args below meth c vm0 T locs hx hby hml hr hlk hn ho X eT hZ B N
  exact G p e s m args below meth c vm0 T locs hx hby hml hr hlk hn ho (X.more hc hs) eT hZ (B.sub q) N
theorem Go.old (G : Old Z n0 h → n0 ≤ h.size → Go md l Z n0 R bytes ml ret own mn Ψ cells slots sf h pc L S) : Go md l Z n0 R bytes ml ret own mn Ψ cells slots sf h pc L S := by
  intro p e s m args below meth c vm0 T locs hx hby hml hr hlk hn ho X eT hZ B N
  exact G B.1 B.n0le p e s m args below meth c vm0 T locs hx hby hml hr hlk hn ho X eT hZ B N
theorem Go.pure {L' : Array Slot} {S' : List Value} (pc' : Nat) (k : ∀ (p : Program) (e : Env) (below : List Frame) (T target : State) (m : MethodId) (c : Code), At T m c below → p.tables.exec = Jvm.exec → c.code = bytes → Steps p.tables e below (T.setTop (mkF m pc' L' S')) target → Steps p.tables e below (T.setTop (mkF m pc L S)) target)
    (G : Go md l Z n0 R bytes ml ret own mn Ψ cells slots sf h pc' L' S') : Go md l Z n0 R bytes ml ret own mn Ψ cells slots sf h pc L S := by
  intro p e s m args below meth c vm0 T locs hx hby hml hr hlk hn ho X eT hZ B N
  obtain ⟨s₂, o, h1, r⟩ := G p e s m args below meth c vm0 T locs hx hby hml hr hlk hn ho X eT hZ B N
  exact ⟨s₂, o, k _ _ _ _ _ _ _ X.here hx hby h1, r⟩
/-- a step that may warm the tables and leaves the heap as it was -/
theorem Go.warm {L' : Array Slot} {S' : List Value} (pc' : Nat) (k : ∀ (p : Program) (e : Env) (s : State) (m : MethodId) (args : Array Value) (below : List Frame) (meth : Method) (c : Code) (T : State) (locs : List Loc), p.tables.exec = Jvm.exec → c.code = bytes → c.maxLocals = ml → Z.Warmed39 s.vm → s.vm.findClass own = some m.cls →
      Stand p l e R s m args below meth c T locs cells slots → T.heap = h → ∃ T', Stand p l e R s m args below meth c T' locs cells slots ∧ T'.heap = h ∧ ∀ target, Steps p.tables e below (T'.setTop (mkF m pc' L' S')) target → Steps p.tables e below (T.setTop (mkF m pc L S)) target)
    (G : Go md l Z n0 R bytes ml ret own mn Ψ cells slots sf h pc' L' S') : Go md l Z n0 R bytes ml ret own mn Ψ cells slots sf h pc L S := by
  intro p e s m args below meth c vm0 T locs hx hby hml hr hlk hn ho X eT hZ B N
  obtain ⟨T', X', e', st⟩ := k p e (s.setVm vm0) m args below meth c T locs hx hby hml hZ (by rw [show (s.setVm vm0).vm = vm0 from rfl, hZ.alike.findClass]; exact ho) X eT
  obtain ⟨s₂, o, h1, r⟩ := G p e s m args below meth c vm0 T' locs hx hby hml hr hlk hn ho X' e' hZ B N
  exact ⟨s₂, o, st _ h1, r⟩
/-- a write at a place of the object a -/
theorem Go.write {L' : Array Slot} {S' : List Value} {a : Addr} {sl : Nat} {v : Value} (pc' : Nat) (ha : a ∈ sf) (hn0 : n0 ≤ a) (k : ∀ (p : Program) (e : Env) (s : State) (m : MethodId) (args : Array Value) (below : List Frame) (meth : Method) (c : Code) (T : State) (locs : List Loc), p.tables.exec = Jvm.exec → c.code = bytes → c.maxLocals = ml → meth.name = mn → Z.Warmed39 s.vm → s.vm.findClass own = some m.cls →
      Stand p l e R s m args below meth c T locs cells slots → T.heap = h → ∃ T' h', Stand p l e R s m args below meth c T' (locs ++ [⟨a, sl⟩]) cells slots ∧ T'.heap = h' ∧ Wr h h' a sl v ∧ ∀ target, Steps p.tables e below (T'.setTop (mkF m pc' L' S')) target → Steps p.tables e below (T.setTop (mkF m pc L S)) target)
    (G : ∀ h', Wr h h' a sl v → Go md l Z n0 R bytes ml ret own mn Ψ cells slots sf h' pc' L' S') : Go md l Z n0 R bytes ml ret own mn Ψ cells slots sf h pc L S := by
  intro p e s m args below meth c vm0 T locs hx hby hml hr hlk hn ho X eT hZ B N
  obtain ⟨T', h', X', e', W, st⟩ := k p e (s.setVm vm0) m args below meth c T locs hx hby hml hn hZ (by rw [show (s.setVm vm0).vm = vm0 from rfl, hZ.alike.findClass]; exact ho) X eT
  obtain ⟨s₂, o, h1, r⟩ := G h' W p e s m args below meth c vm0 T' _ hx hby hml hr hlk hn ho X' e' hZ (B.wr W ha hn0) (Fr.snoc X' N hn0)
  exact ⟨s₂, o, st _ h1, r⟩
/-! the ends -/
theorem fin_ret {p : Program} {e : Env} {s : State} {m : MethodId} {args : Array Value} {below : List Frame} {meth : Method} {c : Code} {vm0 : Vm} {T : State} {locs : List Loc} {sf' : List Addr} {g : JFrame}
    (X : Stand p l e R (s.setVm vm0) m args below meth c T locs cells slots) (eT : T.heap = h) (hZ : Z.Warmed39 vm0) (B : Bok md Z n0 s sf vm0 h) (N : Fr n0 locs) {v : Option Value} (hv : meth.sig.returnType = none → v = none) (hlk : meth.locks = false) (hc : cells ≤ R.cells) (hs : slots ≤ R.slots)
    (Q : Ψ v h sf') (hsub : ∀ x ∈ sf', x ∈ sf)
    (st : ∀ fs, (∀ (f : JFrame) (acts : List Action), f.method = m → f.locked = none → f.entered = [] → (doReturn e (T.setTop f) acts v).1 = T.setFrames fs) → Steps p.tables e below (T.setTop g) (T.setFrames fs)) :
    ∃ (s₂ : State) (o : Outcome), Steps p.tables e below (T.setTop g) s₂ ∧ s₂.status = .running ∧ Ended s₂ below o ∧
      ∃ (v : Option Value) (L' : List Loc) (sf' : List Addr), o = .returned v ∧ Ψ v s₂.heap sf' ∧ Old Z n0 s₂.heap ∧ Fr n0 L' ∧ SafeAll md Z sf' s₂.vm s₂.heap ∧ FinE md Z s o s₂ L' R.cells R.slots := by
  have eh : ∀ fs, (T.setFrames fs).heap = h := fun fs => eT
  cases md with
  | none =>
    obtain rfl : vm0 = s.vm := B.2
    obtain ⟨fs, hr, hrun, hended, hW, hsame⟩ := X.leave hv hlk
    exact ⟨_, _, st fs hr, hrun, hended, v, locs, sf', rfl, by rw [eh]; exact Q, by rw [eh]; exact B.1, N, trivial, ⟨_, rfl⟩, hW, hsame.mono hc hs⟩
  | some EL =>
    obtain ⟨h0, ⟨k, h1, h2⟩, ⟨a0, h3⟩, h4, h5⟩ := B
    obtain ⟨fs, hr, hrun, hended, hW⟩ := X.leaveW h1 (by rw [eT]; exact h2) hv hlk
    have C : CHr Z EL vm0 h T.vm h := CHv.at X hZ h3 h4.1
    refine ⟨_, _, st fs hr, hrun, hended, v, locs, sf', rfl, by rw [eh]; exact Q, by rw [eh]; exact h0, N, fun x hx => ?_, ?_, hW.1, hW.2.1, hW.2.2.1, hW.2.2.2.mono hc hs⟩
    · rw [eh]; exact ⟨(h5 x (hsub x hx)).1, C.safe (h5 x (hsub x hx)).1 (h5 x (hsub x hx)).2⟩
    · rw [eh]; exact h4.trans C
theorem Go.ret0 (hd : decode bytes pc = .ok (.return_, 1)) (hret : ret = none) {sf' : List Addr} (Q : Ψ none h sf') (hsub : ∀ x ∈ sf', x ∈ sf) (hc : cells ≤ R.cells) (hs : slots ≤ R.slots) : Go md l Z n0 R bytes ml ret own mn Ψ cells slots sf h pc L [] := by
  intro p e s m args below meth c vm0 T locs hx hby hml hr hlk hn ho X eT hZ B N
  exact fin_ret X eT hZ B N (fun _ => rfl) hlk hc hs Q hsub fun fs hl => X.returnOut hx (hr.trans hret) (hb hby hd) hl
theorem Go.retW {t : FieldType} {w : Value} {i : Instr} (hd : decode bytes pc = .ok (i, 1)) (hret : ret = some t) (hn' : narrow t w = w)
    (hi : (i = .ireturn ∧ (t = .int ∨ t = .boolean ∨ t = .byte ∨ t = .char ∨ t = .short) ∧ ∃ z, w = .int z) ∨ (i = .lreturn ∧ t = .long ∧ ∃ z, w = .long z) ∨ (i = .dreturn ∧ t = .double ∧ ∃ z, w = .double z) ∨ (i = .freturn ∧ t = .float ∧ ∃ z, w = .float z) ∨ (i = .areturn ∧ t.isReference = true ∧ w.isRef = true))
    {sf' : List Addr} (Q : Ψ (some w) h sf') (hsub : ∀ x ∈ sf', x ∈ sf) (hc : cells ≤ R.cells) (hs : slots ≤ R.slots) : Go md l Z n0 R bytes ml ret own mn Ψ cells slots sf h pc L (w :: S) := by
  intro p e s m args below meth c vm0 T locs hx hby hml hr hlk hn ho X eT hZ B N
  exact fin_ret X eT hZ B N (fun q => by rw [hr, hret] at q; cases q) hlk hc hs Q hsub fun fs hl => retOut X hx (hr.trans hret) hn' hi (hb hby hd) hl
theorem Go.retI {z : Int32} (hd : decode bytes pc = .ok (.ireturn, 1)) (hret : ret = some .int) {sf' : List Addr} (Q : Ψ (some (.int z)) h sf') (hsub : ∀ x ∈ sf', x ∈ sf) (hc : cells ≤ R.cells) (hs : slots ≤ R.slots) : Go md l Z n0 R bytes ml ret own mn Ψ cells slots sf h pc L (.int z :: S) :=
  Go.retW hd hret rfl (Or.inl ⟨rfl, Or.inl rfl, _, rfl⟩) Q hsub hc hs
theorem Go.retJ {z : Int64} (hd : decode bytes pc = .ok (.lreturn, 1)) (hret : ret = some .long) {sf' : List Addr} (Q : Ψ (some (.long z)) h sf') (hsub : ∀ x ∈ sf', x ∈ sf) (hc : cells ≤ R.cells) (hs : slots ≤ R.slots) : Go md l Z n0 R bytes ml ret own mn Ψ cells slots sf h pc L (.long z :: S) :=
  Go.retW hd hret rfl (Or.inr (Or.inl ⟨rfl, rfl, _, rfl⟩)) Q hsub hc hs
theorem Go.retA {t : FieldType} {w : Value} (hd : decode bytes pc = .ok (.areturn, 1)) (hret : ret = some t) (ht : t.isReference = true) (hw : w.isRef = true) {sf' : List Addr} (Q : Ψ (some w) h sf') (hsub : ∀ x ∈ sf', x ∈ sf) (hc : cells ≤ R.cells) (hs : slots ≤ R.slots) : Go md l Z n0 R bytes ml ret own mn Ψ cells slots sf h pc L (w :: S) :=
  Go.retW hd hret (by cases t <;> cases w <;> first | rfl | cases ht | cases hw) (Or.inr (Or.inr (Or.inr (Or.inr ⟨rfl, ht, hw⟩)))) Q hsub hc hs
theorem Go.retN {t : FieldType} {z : Int32} (v : Int32) (hd : decode bytes pc = .ok (.ireturn, 1)) (hret : ret = some t) (ht : t = .boolean ∨ t = .byte ∨ t = .char ∨ t = .short) (hv : nar t z = v) {sf' : List Addr} (Q : Ψ (some (.int v)) h sf') (hsub : ∀ x ∈ sf', x ∈ sf) (hc : cells ≤ R.cells) (hs : slots ≤ R.slots) :
    Go md l Z n0 R bytes ml ret own mn Ψ cells slots sf h pc L (.int z :: S) := by
  subst hv
  intro p e s m args below meth c vm0 T locs hx hby hml hr hlk hn ho X eT hZ B N
  exact fin_ret X eT hZ B N (fun q => by rw [hr, hret] at q; cases q) hlk hc hs Q hsub fun fs hl => Jvm.RoadKit.retN X hx (hr.trans hret) ht (hb hby hd) hl
/-! plain steps -/
theorem Go.aload {k : Nat} {v : Value} (pc' : Nat) (hd : decode bytes pc = .ok (.aload k, 2)) (hp : pc + 2 = pc') (hl : L[k]? = some (.val v)) (hv : v.isRef = true) (G : Go md l Z n0 R bytes ml ret own mn Ψ cells slots sf h pc' L (v :: S)) : Go md l Z n0 R bytes ml ret own mn Ψ cells slots sf h pc L S := by
  subst hp; exact Go.pure _ (fun p e below T target m c A hx hby k => XS.aload A hx rfl (hb hby hd) hl hv k) G
theorem Go.aloadN {k : Fin 4} {v : Value} (pc' : Nat) (hd : decode bytes pc = .ok (.aload_n k, 1)) (hp : pc + 1 = pc') (hl : L[k.val]? = some (.val v)) (hv : v.isRef = true) (G : Go md l Z n0 R bytes ml ret own mn Ψ cells slots sf h pc' L (v :: S)) : Go md l Z n0 R bytes ml ret own mn Ψ cells slots sf h pc L S := by
  subst hp; exact Go.pure _ (fun p e below T target m c A hx hby k => XS.aloadN A hx rfl (hb hby hd) hl hv k) G
theorem Go.iload {k : Nat} {v : Int32} (pc' : Nat) (hd : decode bytes pc = .ok (.iload k, 2)) (hp : pc + 2 = pc') (hl : L[k]? = some (.val (.int v))) (G : Go md l Z n0 R bytes ml ret own mn Ψ cells slots sf h pc' L (.int v :: S)) : Go md l Z n0 R bytes ml ret own mn Ψ cells slots sf h pc L S := by
  subst hp; exact Go.pure _ (fun p e below T target m c A hx hby k => XS.iload A hx rfl (hb hby hd) hl k) G
theorem Go.iloadN {k : Fin 4} {v : Int32} (pc' : Nat) (hd : decode bytes pc = .ok (.iload_n k, 1)) (hp : pc + 1 = pc') (hl : L[k.val]? = some (.val (.int v))) (G : Go md l Z n0 R bytes ml ret own mn Ψ cells slots sf h pc' L (.int v :: S)) : Go md l Z n0 R bytes ml ret own mn Ψ cells slots sf h pc L S := by
  subst hp; exact Go.pure _ (fun p e below T target m c A hx hby k => XS.iloadN A hx rfl (hb hby hd) hl k) G
theorem Go.lload {k : Nat} {v : Int64} (pc' : Nat) (hd : decode bytes pc = .ok (.lload k, 2)) (hp : pc + 2 = pc') (hl : L[k]? = some (.val (.long v))) (G : Go md l Z n0 R bytes ml ret own mn Ψ cells slots sf h pc' L (.long v :: S)) : Go md l Z n0 R bytes ml ret own mn Ψ cells slots sf h pc L S := by
  subst hp; exact Go.pure _ (fun p e below T target m c A hx hby k => XS.lload A hx rfl (hb hby hd) hl k) G
theorem Go.lloadN {k : Fin 4} {v : Int64} (pc' : Nat) (hd : decode bytes pc = .ok (.lload_n k, 1)) (hp : pc + 1 = pc') (hl : L[k.val]? = some (.val (.long v))) (G : Go md l Z n0 R bytes ml ret own mn Ψ cells slots sf h pc' L (.long v :: S)) : Go md l Z n0 R bytes ml ret own mn Ψ cells slots sf h pc L S := by
  subst hp; exact Go.pure _ (fun p e below T target m c A hx hby k => XS.lloadN A hx rfl (hb hby hd) hl k) G
theorem Go.astore {k : Nat} {v : Value} (pc' : Nat) (L' : Array Slot) (hd : decode bytes pc = .ok (.astore k, 2)) (hp : pc + 2 = pc') (hv : v.isRef = true) (hl : storeLocals L k v = some L') (G : Go md l Z n0 R bytes ml ret own mn Ψ cells slots sf h pc' L' S) : Go md l Z n0 R bytes ml ret own mn Ψ cells slots sf h pc L (v :: S) := by
  subst hp; exact Go.pure _ (fun p e below T target m c A hx hby k => XS.astore A hx rfl (hb hby hd) rfl hv hl k) G
theorem Go.astoreN {k : Fin 4} {v : Value} (pc' : Nat) (L' : Array Slot) (hd : decode bytes pc = .ok (.astore_n k, 1)) (hp : pc + 1 = pc') (hv : v.isRef = true) (hl : storeLocals L k.val v = some L') (G : Go md l Z n0 R bytes ml ret own mn Ψ cells slots sf h pc' L' S) : Go md l Z n0 R bytes ml ret own mn Ψ cells slots sf h pc L (v :: S) := by
  subst hp; exact Go.pure _ (fun p e below T target m c A hx hby k => XS.astoreN A hx rfl (hb hby hd) rfl hv hl k) G
theorem Go.istore {k : Nat} {x : Int32} (pc' : Nat) (L' : Array Slot) (hd : decode bytes pc = .ok (.istore k, 2)) (hp : pc + 2 = pc') (hl : storeLocals L k (.int x) = some L') (G : Go md l Z n0 R bytes ml ret own mn Ψ cells slots sf h pc' L' S) : Go md l Z n0 R bytes ml ret own mn Ψ cells slots sf h pc L (.int x :: S) := by
  subst hp; exact Go.pure _ (fun p e below T target m c A hx hby k => XS.istore A hx rfl (hb hby hd) rfl hl k) G
theorem Go.istoreN {k : Fin 4} {x : Int32} (pc' : Nat) (L' : Array Slot) (hd : decode bytes pc = .ok (.istore_n k, 1)) (hp : pc + 1 = pc') (hl : storeLocals L k.val (.int x) = some L') (G : Go md l Z n0 R bytes ml ret own mn Ψ cells slots sf h pc' L' S) : Go md l Z n0 R bytes ml ret own mn Ψ cells slots sf h pc L (.int x :: S) := by
  subst hp; exact Go.pure _ (fun p e below T target m c A hx hby k => XS.istoreN A hx rfl (hb hby hd) rfl hl k) G
theorem Go.lstore {k : Nat} {x : Int64} (pc' : Nat) (L' : Array Slot) (hd : decode bytes pc = .ok (.lstore k, 2)) (hp : pc + 2 = pc') (hl : storeLocals L k (.long x) = some L') (G : Go md l Z n0 R bytes ml ret own mn Ψ cells slots sf h pc' L' S) : Go md l Z n0 R bytes ml ret own mn Ψ cells slots sf h pc L (.long x :: S) := by
  subst hp; exact Go.pure _ (fun p e below T target m c A hx hby k => XS.lstore A hx rfl (hb hby hd) rfl hl k) G
theorem Go.lstoreN {k : Fin 4} {x : Int64} (pc' : Nat) (L' : Array Slot) (hd : decode bytes pc = .ok (.lstore_n k, 1)) (hp : pc + 1 = pc') (hl : storeLocals L k.val (.long x) = some L') (G : Go md l Z n0 R bytes ml ret own mn Ψ cells slots sf h pc' L' S) : Go md l Z n0 R bytes ml ret own mn Ψ cells slots sf h pc L (.long x :: S) := by
  subst hp; exact Go.pure _ (fun p e below T target m c A hx hby k => XS.lstoreN A hx rfl (hb hby hd) rfl hl k) G
theorem Go.iinc {k : Nat} {cst : Int} {x : Int32} (pc' : Nat) (L' : Array Slot) (v : Int32) (hd : decode bytes pc = .ok (.iinc k cst, 3)) (hp : pc + 3 = pc') (hl : L[k]? = some (.val (.int x))) (hv : Int32.ofInt cst = v) (hl' : storeLocals L k (.int (x + v)) = some L') (G : Go md l Z n0 R bytes ml ret own mn Ψ cells slots sf h pc' L' S) : Go md l Z n0 R bytes ml ret own mn Ψ cells slots sf h pc L S := by
  subst hp; subst hv; exact Go.pure _ (fun p e below T target m c A hx hby k => XS.iinc A hx rfl (hb hby hd) hl hl' k) G
theorem Go.iconst {i : Int} (pc' : Nat) (v : Int32) (hd : decode bytes pc = .ok (.iconst i, 1)) (hp : pc + 1 = pc') (hv : Int32.ofInt i = v) (G : Go md l Z n0 R bytes ml ret own mn Ψ cells slots sf h pc' L (.int v :: S)) : Go md l Z n0 R bytes ml ret own mn Ψ cells slots sf h pc L S := by
  subst hp; subst hv; exact Go.pure _ (fun p e below T target m c A hx hby k => XS.iconst A hx rfl (hb hby hd) k) G
theorem Go.bipush {i : Int} (pc' : Nat) (v : Int32) (hd : decode bytes pc = .ok (.bipush i, 2)) (hp : pc + 2 = pc') (hv : (Int8.ofInt i).toInt32 = v) (G : Go md l Z n0 R bytes ml ret own mn Ψ cells slots sf h pc' L (.int v :: S)) : Go md l Z n0 R bytes ml ret own mn Ψ cells slots sf h pc L S := by
  subst hp; subst hv; exact Go.pure _ (fun p e below T target m c A hx hby k => XS.bipush A hx rfl (hb hby hd) k) G
theorem Go.sipush {i : Int} (pc' : Nat) (v : Int32) (hd : decode bytes pc = .ok (.sipush i, 3)) (hp : pc + 3 = pc') (hv : (Int16.ofInt i).toInt32 = v) (G : Go md l Z n0 R bytes ml ret own mn Ψ cells slots sf h pc' L (.int v :: S)) : Go md l Z n0 R bytes ml ret own mn Ψ cells slots sf h pc L S := by
  subst hp; subst hv; exact Go.pure _ (fun p e below T target m c A hx hby k => XS.sipush A hx rfl (hb hby hd) k) G
theorem Go.lconst {i : Fin 2} (pc' : Nat) (v : Int64) (hd : decode bytes pc = .ok (.lconst i, 1)) (hp : pc + 1 = pc') (hv : Int64.ofNat i = v) (G : Go md l Z n0 R bytes ml ret own mn Ψ cells slots sf h pc' L (.long v :: S)) : Go md l Z n0 R bytes ml ret own mn Ψ cells slots sf h pc L S := by
  subst hp; subst hv; exact Go.pure _ (fun p e below T target m c A hx hby k => XS.lconst A hx rfl (hb hby hd) k) G
theorem Go.aconstNull (pc' : Nat) (hd : decode bytes pc = .ok (.aconst_null, 1)) (hp : pc + 1 = pc') (G : Go md l Z n0 R bytes ml ret own mn Ψ cells slots sf h pc' L (.null :: S)) : Go md l Z n0 R bytes ml ret own mn Ψ cells slots sf h pc L S := by
  subst hp; exact Go.pure _ (fun p e below T target m c A hx hby k => XS.aconstNull A hx rfl (hb hby hd) k) G
theorem Go.dup {v : Value} (pc' : Nat) (hd : decode bytes pc = .ok (.dup, 1)) (hp : pc + 1 = pc') (hv : v.category = 1) (G : Go md l Z n0 R bytes ml ret own mn Ψ cells slots sf h pc' L (v :: v :: S)) : Go md l Z n0 R bytes ml ret own mn Ψ cells slots sf h pc L (v :: S) := by
  subst hp; exact Go.pure _ (fun p e below T target m c A hx hby k => XS.dup A hx rfl (hb hby hd) rfl hv k) G
theorem Go.pop {v : Value} (pc' : Nat) (hd : decode bytes pc = .ok (.pop, 1)) (hp : pc + 1 = pc') (hv : v.category = 1) (G : Go md l Z n0 R bytes ml ret own mn Ψ cells slots sf h pc' L S) : Go md l Z n0 R bytes ml ret own mn Ψ cells slots sf h pc L (v :: S) := by
  subst hp; exact Go.pure _ (fun p e below T target m c A hx hby k => XS.pop A hx rfl (hb hby hd) rfl hv k) G
theorem Go.goto {o : Int} (pc' : Nat) (hd : decode bytes pc = .ok (.goto o, 3)) (ho' : 0 ≤ (pc : Int) + o) (hp : ((pc : Int) + o).toNat = pc') (G : Go md l Z n0 R bytes ml ret own mn Ψ cells slots sf h pc' L S) : Go md l Z n0 R bytes ml ret own mn Ψ cells slots sf h pc L S :=
  Go.pure pc' (fun p e below T target m c A hx hby k => XS.goto A hx rfl (pc0 := pc) (pc' := pc') rfl (hb hby hd) ho' hp k) G
theorem Go.ifY {cd : ClassFile.Cond} {x : Int32} {o : Int} (pc' : Nat) (hd : decode bytes pc = .ok (.ifCond cd o, 3)) (ho' : 0 ≤ (pc : Int) + o) (hp : ((pc : Int) + o).toNat = pc') (hc : if_icmp.holds cd x 0 = true) (G : Go md l Z n0 R bytes ml ret own mn Ψ cells slots sf h pc' L S) : Go md l Z n0 R bytes ml ret own mn Ψ cells slots sf h pc L (.int x :: S) :=
  Go.pure pc' (fun p e below T target m c A hx hby k => XS.ifYes A hx rfl (pc0 := pc) (pc' := pc') rfl (hb hby hd) rfl ((if0 _ _).trans hc) ho' hp k) G
theorem Go.ifN {cd : ClassFile.Cond} {x : Int32} {o : Int} (pc' : Nat) (hd : decode bytes pc = .ok (.ifCond cd o, 3)) (hp : pc + 3 = pc') (hc : if_icmp.holds cd x 0 = false) (G : Go md l Z n0 R bytes ml ret own mn Ψ cells slots sf h pc' L S) : Go md l Z n0 R bytes ml ret own mn Ψ cells slots sf h pc L (.int x :: S) := by
  subst hp; exact Go.pure _ (fun p e below T target m c A hx hby k => XS.ifNo A hx rfl (hb hby hd) rfl ((if0 _ _).trans hc) k) G
theorem Go.icmpY {cd : ClassFile.Cond} {x y : Int32} {o : Int} (pc' : Nat) (hd : decode bytes pc = .ok (.if_icmp cd o, 3)) (ho' : 0 ≤ (pc : Int) + o) (hp : ((pc : Int) + o).toNat = pc') (hc : if_icmp.holds cd x y = true) (G : Go md l Z n0 R bytes ml ret own mn Ψ cells slots sf h pc' L S) : Go md l Z n0 R bytes ml ret own mn Ψ cells slots sf h pc L (.int y :: .int x :: S) :=
  Go.pure pc' (fun p e below T target m c A hx hby k => XS.icmpYes A hx rfl (pc0 := pc) (pc' := pc') rfl (hb hby hd) rfl hc ho' hp k) G
theorem Go.icmpN {cd : ClassFile.Cond} {x y : Int32} {o : Int} (pc' : Nat) (hd : decode bytes pc = .ok (.if_icmp cd o, 3)) (hp : pc + 3 = pc') (hc : if_icmp.holds cd x y = false) (G : Go md l Z n0 R bytes ml ret own mn Ψ cells slots sf h pc' L S) : Go md l Z n0 R bytes ml ret own mn Ψ cells slots sf h pc L (.int y :: .int x :: S) := by
  subst hp; exact Go.pure _ (fun p e below T target m c A hx hby k => XS.icmpNo A hx rfl (hb hby hd) rfl hc k) G
theorem Go.acmpY {cd : ClassFile.ACond} {x y : Value} {o : Int} (pc' : Nat) (hd : decode bytes pc = .ok (.if_acmp cd o, 3)) (ho' : 0 ≤ (pc : Int) + o) (hp : ((pc : Int) + o).toNat = pc') (hx' : x.isRef = true) (hy' : y.isRef = true) (hc : acV cd (decide (x = y)) = true) (G : Go md l Z n0 R bytes ml ret own mn Ψ cells slots sf h pc' L S) : Go md l Z n0 R bytes ml ret own mn Ψ cells slots sf h pc L (y :: x :: S) :=
  Go.warm pc' (fun p e s m args below meth c T locs hx hby hml hZ hown X eT => ⟨T, X, eT, fun target k => Jvm.RoadKit.acmp (g := mkF m pc L (y :: x :: S)) X hx rfl hx' hy' (pc0 := pc) rfl (hb hby hd) rfl rfl ho' (by rw [if_pos hc]; exact hp.symm) k⟩) G
theorem Go.acmpN {cd : ClassFile.ACond} {x y : Value} {o : Int} (pc' : Nat) (hd : decode bytes pc = .ok (.if_acmp cd o, 3)) (ho' : 0 ≤ (pc : Int) + o) (hp : pc + 3 = pc') (hx' : x.isRef = true) (hy' : y.isRef = true) (hc : acV cd (decide (x = y)) = false) (G : Go md l Z n0 R bytes ml ret own mn Ψ cells slots sf h pc' L S) : Go md l Z n0 R bytes ml ret own mn Ψ cells slots sf h pc L (y :: x :: S) :=
  Go.warm pc' (fun p e s m args below meth c T locs hx hby hml hZ hown X eT => ⟨T, X, eT, fun target k => Jvm.RoadKit.acmp (g := mkF m pc L (y :: x :: S)) X hx rfl hx' hy' (pc0 := pc) rfl (hb hby hd) rfl rfl ho' (by rw [if_neg (by rw [hc]; exact Bool.false_ne_true)]; exact hp.symm) k⟩) G
theorem Go.nullY {o : Int} (pc' : Nat) (hd : decode bytes pc = .ok (.ifnull o, 3)) (ho' : 0 ≤ (pc : Int) + o) (hp : ((pc : Int) + o).toNat = pc') (G : Go md l Z n0 R bytes ml ret own mn Ψ cells slots sf h pc' L S) : Go md l Z n0 R bytes ml ret own mn Ψ cells slots sf h pc L (.null :: S) :=
  Go.pure pc' (fun p e below T target m c A hx hby k => XS.ifnullYes A hx rfl (pc0 := pc) (pc' := pc') rfl (hb hby hd) rfl ho' hp k) G
theorem Go.nullN {o : Int} {a : Addr} (pc' : Nat) (hd : decode bytes pc = .ok (.ifnull o, 3)) (hp : pc + 3 = pc') (G : Go md l Z n0 R bytes ml ret own mn Ψ cells slots sf h pc' L S) : Go md l Z n0 R bytes ml ret own mn Ψ cells slots sf h pc L (.ref a :: S) := by
  subst hp; exact Go.pure _ (fun p e below T target m c A hx hby k => XS.ifnullNo A hx rfl (hb hby hd) rfl k) G
theorem Go.nonnullY {o : Int} {a : Addr} (pc' : Nat) (hd : decode bytes pc = .ok (.ifnonnull o, 3)) (ho' : 0 ≤ (pc : Int) + o) (hp : ((pc : Int) + o).toNat = pc') (G : Go md l Z n0 R bytes ml ret own mn Ψ cells slots sf h pc' L S) : Go md l Z n0 R bytes ml ret own mn Ψ cells slots sf h pc L (.ref a :: S) :=
  Go.pure pc' (fun p e below T target m c A hx hby k => XS.ifnonnullYes A hx rfl (pc0 := pc) (pc' := pc') rfl (hb hby hd) rfl ho' hp k) G
theorem Go.nonnullN {o : Int} (pc' : Nat) (hd : decode bytes pc = .ok (.ifnonnull o, 3)) (hp : pc + 3 = pc') (G : Go md l Z n0 R bytes ml ret own mn Ψ cells slots sf h pc' L S) : Go md l Z n0 R bytes ml ret own mn Ψ cells slots sf h pc L (.null :: S) := by
  subst hp; exact Go.pure _ (fun p e below T target m c A hx hby k => XS.ifnonnullNo A hx rfl (hb hby hd) rfl k) G
theorem Go.iadd {x y : Int32} (pc' : Nat) (hd : decode bytes pc = .ok (.iadd, 1)) (hp : pc + 1 = pc') (G : Go md l Z n0 R bytes ml ret own mn Ψ cells slots sf h pc' L (.int (x + y) :: S)) : Go md l Z n0 R bytes ml ret own mn Ψ cells slots sf h pc L (.int y :: .int x :: S) := by
  subst hp; exact Go.pure _ (fun p e below T target m c A hx hby k => XS.iadd A hx rfl (hb hby hd) rfl k) G
theorem Go.isub {x y : Int32} (pc' : Nat) (hd : decode bytes pc = .ok (.isub, 1)) (hp : pc + 1 = pc') (G : Go md l Z n0 R bytes ml ret own mn Ψ cells slots sf h pc' L (.int (x - y) :: S)) : Go md l Z n0 R bytes ml ret own mn Ψ cells slots sf h pc L (.int y :: .int x :: S) := by
  subst hp; exact Go.pure _ (fun p e below T target m c A hx hby k => XS.isub A hx rfl (hb hby hd) rfl k) G
theorem Go.imul {x y : Int32} (pc' : Nat) (hd : decode bytes pc = .ok (.imul, 1)) (hp : pc + 1 = pc') (G : Go md l Z n0 R bytes ml ret own mn Ψ cells slots sf h pc' L (.int (x * y) :: S)) : Go md l Z n0 R bytes ml ret own mn Ψ cells slots sf h pc L (.int y :: .int x :: S) := by
  subst hp; exact Go.pure _ (fun p e below T target m c A hx hby k => XS.imul A hx rfl (hb hby hd) rfl k) G
theorem Go.iand {x y : Int32} (pc' : Nat) (hd : decode bytes pc = .ok (.iand, 1)) (hp : pc + 1 = pc') (G : Go md l Z n0 R bytes ml ret own mn Ψ cells slots sf h pc' L (.int (x &&& y) :: S)) : Go md l Z n0 R bytes ml ret own mn Ψ cells slots sf h pc L (.int y :: .int x :: S) := by
  subst hp; exact Go.pure _ (fun p e below T target m c A hx hby k => XS.iand A hx rfl (hb hby hd) rfl k) G
theorem Go.ior {x y : Int32} (pc' : Nat) (hd : decode bytes pc = .ok (.ior, 1)) (hp : pc + 1 = pc') (G : Go md l Z n0 R bytes ml ret own mn Ψ cells slots sf h pc' L (.int (x ||| y) :: S)) : Go md l Z n0 R bytes ml ret own mn Ψ cells slots sf h pc L (.int y :: .int x :: S) := by
  subst hp; exact Go.pure _ (fun p e below T target m c A hx hby k => XS.ior A hx rfl (hb hby hd) rfl k) G
theorem Go.ixor {x y : Int32} (pc' : Nat) (hd : decode bytes pc = .ok (.ixor, 1)) (hp : pc + 1 = pc') (G : Go md l Z n0 R bytes ml ret own mn Ψ cells slots sf h pc' L (.int (x ^^^ y) :: S)) : Go md l Z n0 R bytes ml ret own mn Ψ cells slots sf h pc L (.int y :: .int x :: S) := by
  subst hp; exact Go.pure _ (fun p e below T target m c A hx hby k => XS.ixor A hx rfl (hb hby hd) rfl k) G
theorem Go.ishl {x y : Int32} (pc' : Nat) (hd : decode bytes pc = .ok (.ishl, 1)) (hp : pc + 1 = pc') (G : Go md l Z n0 R bytes ml ret own mn Ψ cells slots sf h pc' L (.int (x <<< (y &&& 31)) :: S)) : Go md l Z n0 R bytes ml ret own mn Ψ cells slots sf h pc L (.int y :: .int x :: S) := by
  subst hp; exact Go.pure _ (fun p e below T target m c A hx hby k => XS.ishl A hx rfl (hb hby hd) rfl k) G
theorem Go.ishr {x y : Int32} (pc' : Nat) (hd : decode bytes pc = .ok (.ishr, 1)) (hp : pc + 1 = pc') (G : Go md l Z n0 R bytes ml ret own mn Ψ cells slots sf h pc' L (.int (x >>> (y &&& 31)) :: S)) : Go md l Z n0 R bytes ml ret own mn Ψ cells slots sf h pc L (.int y :: .int x :: S) := by
  subst hp; exact Go.pure _ (fun p e below T target m c A hx hby k => XS.ishr A hx rfl (hb hby hd) rfl k) G
theorem Go.iushr {x y : Int32} (pc' : Nat) (hd : decode bytes pc = .ok (.iushr, 1)) (hp : pc + 1 = pc') (G : Go md l Z n0 R bytes ml ret own mn Ψ cells slots sf h pc' L (.int (ushr x y) :: S)) : Go md l Z n0 R bytes ml ret own mn Ψ cells slots sf h pc L (.int y :: .int x :: S) := by
  subst hp; exact Go.pure _ (fun p e below T target m c A hx hby k => XS.iushr A hx rfl (hb hby hd) rfl k) G
theorem Go.idiv {x y : Int32} (pc' : Nat) (hd : decode bytes pc = .ok (.idiv, 1)) (hp : pc + 1 = pc') (hy : y ≠ 0) (G : Go md l Z n0 R bytes ml ret own mn Ψ cells slots sf h pc' L (.int (x / y) :: S)) : Go md l Z n0 R bytes ml ret own mn Ψ cells slots sf h pc L (.int y :: .int x :: S) := by
  subst hp; exact Go.pure _ (fun p e below T target m c A hx hby k => XS.idiv A hx rfl (hb hby hd) rfl hy k) G
theorem Go.ineg {x : Int32} (pc' : Nat) (hd : decode bytes pc = .ok (.ineg, 1)) (hp : pc + 1 = pc') (G : Go md l Z n0 R bytes ml ret own mn Ψ cells slots sf h pc' L (.int (-x) :: S)) : Go md l Z n0 R bytes ml ret own mn Ψ cells slots sf h pc L (.int x :: S) := by
  subst hp; exact Go.pure _ (fun p e below T target m c A hx hby k => XS.ineg A hx rfl (hb hby hd) rfl k) G
theorem Go.ladd {x y : Int64} (pc' : Nat) (hd : decode bytes pc = .ok (.ladd, 1)) (hp : pc + 1 = pc') (G : Go md l Z n0 R bytes ml ret own mn Ψ cells slots sf h pc' L (.long (x + y) :: S)) : Go md l Z n0 R bytes ml ret own mn Ψ cells slots sf h pc L (.long y :: .long x :: S) := by
  subst hp; exact Go.pure _ (fun p e below T target m c A hx hby k => XS.ladd A hx rfl (hb hby hd) rfl k) G
theorem Go.lsub {x y : Int64} (pc' : Nat) (hd : decode bytes pc = .ok (.lsub, 1)) (hp : pc + 1 = pc') (G : Go md l Z n0 R bytes ml ret own mn Ψ cells slots sf h pc' L (.long (x - y) :: S)) : Go md l Z n0 R bytes ml ret own mn Ψ cells slots sf h pc L (.long y :: .long x :: S) := by
  subst hp; exact Go.pure _ (fun p e below T target m c A hx hby k => XS.lsub A hx rfl (hb hby hd) rfl k) G
theorem Go.lmul {x y : Int64} (pc' : Nat) (hd : decode bytes pc = .ok (.lmul, 1)) (hp : pc + 1 = pc') (G : Go md l Z n0 R bytes ml ret own mn Ψ cells slots sf h pc' L (.long (x * y) :: S)) : Go md l Z n0 R bytes ml ret own mn Ψ cells slots sf h pc L (.long y :: .long x :: S) := by
  subst hp; exact Go.pure _ (fun p e below T target m c A hx hby k => XS.lmul A hx rfl (hb hby hd) rfl k) G
theorem Go.land {x y : Int64} (pc' : Nat) (hd : decode bytes pc = .ok (.land, 1)) (hp : pc + 1 = pc') (G : Go md l Z n0 R bytes ml ret own mn Ψ cells slots sf h pc' L (.long (x &&& y) :: S)) : Go md l Z n0 R bytes ml ret own mn Ψ cells slots sf h pc L (.long y :: .long x :: S) := by
  subst hp; exact Go.pure _ (fun p e below T target m c A hx hby k => XS.land A hx rfl (hb hby hd) rfl k) G
theorem Go.lor {x y : Int64} (pc' : Nat) (hd : decode bytes pc = .ok (.lor, 1)) (hp : pc + 1 = pc') (G : Go md l Z n0 R bytes ml ret own mn Ψ cells slots sf h pc' L (.long (x ||| y) :: S)) : Go md l Z n0 R bytes ml ret own mn Ψ cells slots sf h pc L (.long y :: .long x :: S) := by
  subst hp; exact Go.pure _ (fun p e below T target m c A hx hby k => XS.lor A hx rfl (hb hby hd) rfl k) G
theorem Go.lxor {x y : Int64} (pc' : Nat) (hd : decode bytes pc = .ok (.lxor, 1)) (hp : pc + 1 = pc') (G : Go md l Z n0 R bytes ml ret own mn Ψ cells slots sf h pc' L (.long (x ^^^ y) :: S)) : Go md l Z n0 R bytes ml ret own mn Ψ cells slots sf h pc L (.long y :: .long x :: S) := by
  subst hp; exact Go.pure _ (fun p e below T target m c A hx hby k => XS.lxor A hx rfl (hb hby hd) rfl k) G
theorem Go.lneg {x : Int64} (pc' : Nat) (hd : decode bytes pc = .ok (.lneg, 1)) (hp : pc + 1 = pc') (G : Go md l Z n0 R bytes ml ret own mn Ψ cells slots sf h pc' L (.long (-x) :: S)) : Go md l Z n0 R bytes ml ret own mn Ψ cells slots sf h pc L (.long x :: S) := by
  subst hp; exact Go.pure _ (fun p e below T target m c A hx hby k => XS.lneg A hx rfl (hb hby hd) rfl k) G
theorem Go.lcmp {x y : Int64} (pc' : Nat) (hd : decode bytes pc = .ok (.lcmp, 1)) (hp : pc + 1 = pc') (G : Go md l Z n0 R bytes ml ret own mn Ψ cells slots sf h pc' L (.int (lcmpW x y) :: S)) : Go md l Z n0 R bytes ml ret own mn Ψ cells slots sf h pc L (.long y :: .long x :: S) := by
  subst hp; exact Go.pure _ (fun p e below T target m c A hx hby k => XS.lcmp A hx rfl (hb hby hd) rfl k) G
theorem Go.lushr {x : Int64} {y : Int32} (pc' : Nat) (hd : decode bytes pc = .ok (.lushr, 1)) (hp : pc + 1 = pc') (G : Go md l Z n0 R bytes ml ret own mn Ψ cells slots sf h pc' L (.long (ushrL x y) :: S)) : Go md l Z n0 R bytes ml ret own mn Ψ cells slots sf h pc L (.int y :: .long x :: S) := by
  subst hp; exact Go.pure _ (fun p e below T target m c A hx hby k => XS.lushr A hx rfl (hb hby hd) rfl k) G
theorem Go.lshl {x : Int64} {y : Int32} (pc' : Nat) (hd : decode bytes pc = .ok (.lshl, 1)) (hp : pc + 1 = pc') (G : Go md l Z n0 R bytes ml ret own mn Ψ cells slots sf h pc' L (.long (x <<< (y &&& 0x3f).toInt64) :: S)) : Go md l Z n0 R bytes ml ret own mn Ψ cells slots sf h pc L (.int y :: .long x :: S) := by
  subst hp; exact Go.pure _ (fun p e below T target m c A hx hby k => XS.lshl A hx rfl (hb hby hd) rfl k) G
theorem Go.lrem {x y : Int64} (pc' : Nat) (hd : decode bytes pc = .ok (.lrem, 1)) (hp : pc + 1 = pc') (hy : y ≠ 0) (G : Go md l Z n0 R bytes ml ret own mn Ψ cells slots sf h pc' L (.long (x - (x / y) * y) :: S)) : Go md l Z n0 R bytes ml ret own mn Ψ cells slots sf h pc L (.long y :: .long x :: S) := by
  subst hp; exact Go.pure _ (fun p e below T target m c A hx hby k => XS.lrem A hx rfl (hb hby hd) rfl hy k) G
theorem Go.i2l {x : Int32} (pc' : Nat) (hd : decode bytes pc = .ok (.i2l, 1)) (hp : pc + 1 = pc') (G : Go md l Z n0 R bytes ml ret own mn Ψ cells slots sf h pc' L (.long x.toInt64 :: S)) : Go md l Z n0 R bytes ml ret own mn Ψ cells slots sf h pc L (.int x :: S) := by
  subst hp; exact Go.pure _ (fun p e below T target m c A hx hby k => XS.i2l A hx rfl (hb hby hd) rfl k) G
theorem Go.l2i {x : Int64} (pc' : Nat) (hd : decode bytes pc = .ok (.l2i, 1)) (hp : pc + 1 = pc') (G : Go md l Z n0 R bytes ml ret own mn Ψ cells slots sf h pc' L (.int x.toInt32 :: S)) : Go md l Z n0 R bytes ml ret own mn Ψ cells slots sf h pc L (.long x :: S) := by
  subst hp; exact Go.pure _ (fun p e below T target m c A hx hby k => XS.l2i A hx rfl (hb hby hd) rfl k) G
theorem Go.i2b {x : Int32} (pc' : Nat) (hd : decode bytes pc = .ok (.i2b, 1)) (hp : pc + 1 = pc') (G : Go md l Z n0 R bytes ml ret own mn Ψ cells slots sf h pc' L (.int x.toInt8.toInt32 :: S)) : Go md l Z n0 R bytes ml ret own mn Ψ cells slots sf h pc L (.int x :: S) := by
  subst hp; exact Go.pure _ (fun p e below T target m c A hx hby k => XS.i2b A hx rfl (hb hby hd) rfl k) G
theorem Go.i2c {x : Int32} (pc' : Nat) (hd : decode bytes pc = .ok (.i2c, 1)) (hp : pc + 1 = pc') (G : Go md l Z n0 R bytes ml ret own mn Ψ cells slots sf h pc' L (.int (chr x) :: S)) : Go md l Z n0 R bytes ml ret own mn Ψ cells slots sf h pc L (.int x :: S) := by
  subst hp; exact Go.pure _ (fun p e below T target m c A hx hby k => XS.i2c A hx rfl (hb hby hd) rfl k) G
theorem Go.dupX1 {v w : Value} (pc' : Nat) (hd : decode bytes pc = .ok (.dup_x1, 1)) (hp : pc + 1 = pc') (hv : v.category = 1) (hw : w.category = 1) (G : Go md l Z n0 R bytes ml ret own mn Ψ cells slots sf h pc' L (v :: w :: v :: S)) : Go md l Z n0 R bytes ml ret own mn Ψ cells slots sf h pc L (v :: w :: S) := by
  subst hp; exact Go.pure _ (fun p e below T target m c A hx hby k => XS.dupX1 A hx rfl (hb hby hd) rfl hv hw k) G
theorem sub1 {x : Addr} (q : x ∈ sf) : ∀ y ∈ [x], y ∈ sf := fun y hy => by cases List.mem_singleton.mp hy; exact q
/-- one field of an ordinary object known, each laid one holds something -/
theorem Fld.any {a : Addr} {C O n d O' n' d' : String} {v : Value} {k : Nat} (F : Fld Z h a O' n' d' v) (E : Exa Z h a C) (wi : (Jvm.Cond.instantiable C k).before a0 Z = true) (Lw : Laid Z a0 C O n d) : ∃ w, Fld Z h a O n d w := by
  obtain ⟨cell, cf, kk, i, f, h1, -, -, h4, h5, -, -⟩ := F
  obtain ⟨c2, k2, g1, g2, g3, g4, g5⟩ := E
  cases h1.symm.trans g1
  obtain ⟨c3, k3, i1, i2, i3, -⟩ := Cond.instantiable_spec wi
  cases g2.symm.trans i1
  cases g3.symm.trans i2
  obtain ⟨c, kc, cf', kf, j, f', a1, a2, a3, a4, a5, a6, -⟩ := Lw.spec
  cases g2.symm.trans a1
  cases g3.symm.trans a2
  have hs := g5 i3
  have hlt : f'.slot < cell.slots.size := by rw [hs]; exact (Array.getElem?_eq_some_iff.mp a6).1
  exact ⟨cell.slots[f'.slot], cell, cf', kf, j, f', h1, a3, a4, h4, h5, a5, Array.getElem?_eq_getElem hlt⟩
theorem Go.irem {x y : Int32} (pc' : Nat) (hd : decode bytes pc = .ok (.irem, 1)) (hp : pc + 1 = pc') (hy : y ≠ 0) (G : Go md l Z n0 R bytes ml ret own mn Ψ cells slots sf h pc' L (.int (x % y) :: S)) : Go md l Z n0 R bytes ml ret own mn Ψ cells slots sf h pc L (.int y :: .int x :: S) := by
  subst hp; exact Go.warm _ (fun p e s m args below meth c T locs hx hby hml hZ hown X eT => ⟨T, X, eT, fun target k => iremM (g := mkF m pc L (.int y :: .int x :: S)) X hx rfl (hb hby hd) rfl hy k⟩) G
theorem Go.ldcI {index : Nat} {v : Int32} (pc' : Nat) (hd : decode bytes pc = .ok (.ldc index, 2)) (hp : pc + 2 = pc') (w : (Jvm.Cond.constant own index v).before a0 Z = true) (G : Go md l Z n0 R bytes ml ret own mn Ψ cells slots sf h pc' L (.int v :: S)) : Go md l Z n0 R bytes ml ret own mn Ψ cells slots sf h pc L S := by
  subst hp; exact Go.warm _ (fun p e s m args below meth c T locs hx hby hml hZ hown X eT => ⟨T, X, eT, fun target k => X.ldcI (g := mkF m pc L S) hx hown (mvT hZ w) rfl (hb hby hd) k⟩) G
theorem Go.ldc2J {index : Nat} {v : Int64} (pc' : Nat) (hd : decode bytes pc = .ok (.ldc2_w index, 3)) (hp : pc + 3 = pc') (w : (Jvm.Cond.constantLong own index v).before a0 Z = true) (G : Go md l Z n0 R bytes ml ret own mn Ψ cells slots sf h pc' L (.long v :: S)) : Go md l Z n0 R bytes ml ret own mn Ψ cells slots sf h pc L S := by
  subst hp; exact Go.warm _ (fun p e s m args below meth c T locs hx hby hml hZ hown X eT => ⟨T, X, eT, fun target k => X.ldc2J (g := mkF m pc L S) hx hown (mvT hZ w) rfl (hb hby hd) k⟩) G
/-! fields -/
theorem Go.getF {R0 O n d : String} {index : Nat} {a : Addr} {v : Value} (pc' : Nat) (hd : decode bytes pc = .ok (.getfield index, 3)) (hp : pc + 3 = pc') (w : (Jvm.Cond.fieldLink own index R0 n d).before a0 Z = true) (via : Via Z R0 O n d) (F : Fld Z h a O n d v) (G : Go md l Z n0 R bytes ml ret own mn Ψ cells slots sf h pc' L (v :: S)) :
    Go md l Z n0 R bytes ml ret own mn Ψ cells slots sf h pc L (.ref a :: S) := by
  subst hp; exact Go.warm _ (fun p e s m args below meth c T locs hx hby hml hZ hown X eT => Jvm.RoadKit.getF X hx hZ hown (host := "") (Or.inl w) via eT F (g := mkF m pc L (.ref a :: S)) rfl rfl (hb hby hd)) G
theorem Go.getS {R0 O n d : String} {index : Nat} {v : Value} (pc' : Nat) (hd : decode bytes pc = .ok (.getstatic index, 3)) (hp : pc + 3 = pc') (w : (Jvm.Cond.fieldLink own index R0 n d).before a0 Z = true) (via : Via Z R0 O n d) (F : Sta Z Z.heap O n d v) (G : Go md l Z n0 R bytes ml ret own mn Ψ cells slots sf h pc' L (v :: S)) :
    Go md l Z n0 R bytes ml ret own mn Ψ cells slots sf h pc L S := by
  subst hp; exact Go.old fun o _ => Go.warm _ (fun p e s m args below meth c T locs hx hby hml hZ hown X eT => Jvm.RoadKit.getS (host := "") X hx hZ hown w via eT (F.ext o.2) (g := mkF m pc L S) rfl (hb hby hd)) G
theorem Go.putF {R0 O n d C : String} {index kk : Nat} {ty : FieldType} {a : Addr} {v old : Value} (pc' : Nat) (v' : Value) (hd : decode bytes pc = .ok (.putfield index, 3)) (hp : pc + 3 = pc') (w : (Jvm.Cond.fieldLink own index R0 n d).before a0 Z = true) (via : Via Z R0 O n d) (F : Fld Z h a O n d old) (E : Exa Z h a C)
    (Lw : (Jvm.Cond.lays C O n d).before a0 Z = true ∨ ((Jvm.Cond.laysFinal C O n d).before a0 Z = true ∧ own = O ∧ mn = "<init>")) (wi : (Jvm.Cond.instantiable C kk).before a0 Z = true) (hty : parseFieldDescriptor d = some ty) (hnw : narrow ty v = v') (hf : fits ty v' = true) (ha : a ∈ sf) (hn0 : n0 ≤ a)
    (G : ∀ h', Wr h h' a (Jvm.RoadKit.slotOf Z O n d) v' → Go md l Z n0 R bytes ml ret own mn Ψ cells slots sf h' pc' L S) : Go md l Z n0 R bytes ml ret own mn Ψ cells slots sf h pc L (v :: .ref a :: S) := by
  subst hp; exact Go.write _ ha hn0 (fun p e s m args below meth c T locs hx hby hml hnm hZ hown X eT => putFN X hx hZ hown w via eT F E (Lw.imp id fun q => ⟨q.1, q.2.1, hnm.trans q.2.2⟩) wi hty hnw hf (g := mkF m pc L (v :: .ref a :: S)) rfl rfl (hb hby hd)) G
/-! classes -/
theorem Go.castY {K : String} {index : Nat} {a : Addr} (pc' : Nat) (hd : decode bytes pc = .ok (.checkcast index, 3)) (hp : pc + 3 = pc') (w : (Jvm.Cond.classLink own index K).before a0 Z = true) (F : Ins Z h a K true) (G : Go md l Z n0 R bytes ml ret own mn Ψ cells slots sf h pc' L (.ref a :: S)) :
    Go md l Z n0 R bytes ml ret own mn Ψ cells slots sf h pc L (.ref a :: S) := by
  subst hp; exact Go.warm _ (fun p e s m args below meth c T locs hx hby hml hZ hown X eT => Jvm.RoadKit.castY X hx hZ hown w eT F (g := mkF m pc L (.ref a :: S)) rfl rfl (hb hby hd)) G
theorem Go.instY {K : String} {index : Nat} {a : Addr} (pc' : Nat) (hd : decode bytes pc = .ok (.instanceof index, 3)) (hp : pc + 3 = pc') (w : (Jvm.Cond.classLink own index K).before a0 Z = true) (F : Ins Z h a K true) (G : Go md l Z n0 R bytes ml ret own mn Ψ cells slots sf h pc' L (.int 1 :: S)) :
    Go md l Z n0 R bytes ml ret own mn Ψ cells slots sf h pc L (.ref a :: S) := by
  subst hp; exact Go.warm _ (fun p e s m args below meth c T locs hx hby hml hZ hown X eT => Jvm.RoadKit.instY X hx hZ hown w eT F (g := mkF m pc L (.ref a :: S)) rfl rfl (hb hby hd)) G
theorem Go.instNo {K C : String} {index : Nat} {a : Addr} (pc' : Nat) (hd : decode bytes pc = .ok (.instanceof index, 3)) (hp : pc + 3 = pc') (w : (Jvm.Cond.classLink own index K).before a0 Z = true) (E : Exa Z h a C) (F : ∃ c t, Z.vm.findClass C = some c ∧ Z.vm.findClass K = some t ∧ Z.vm.assignable c t = false) (G : Go md l Z n0 R bytes ml ret own mn Ψ cells slots sf h pc' L (.int 0 :: S)) :
    Go md l Z n0 R bytes ml ret own mn Ψ cells slots sf h pc L (.ref a :: S) := by
  subst hp; exact Go.warm _ (fun p e s m args below meth c T locs hx hby hml hZ hown X eT => Jvm.RoadKit.instNo X hx hZ hown w eT E F (g := mkF m pc L (.ref a :: S)) rfl rfl (hb hby hd)) G
theorem Go.instNull {index : Nat} (pc' : Nat) (hd : decode bytes pc = .ok (.instanceof index, 3)) (hp : pc + 3 = pc') (G : Go md l Z n0 R bytes ml ret own mn Ψ cells slots sf h pc' L (.int 0 :: S)) : Go md l Z n0 R bytes ml ret own mn Ψ cells slots sf h pc L (.null :: S) := by
  subst hp; exact Go.warm _ (fun p e s m args below meth c T locs hx hby hml hZ hown X eT => ⟨T, X, eT, fun target k => X.instanceofNull (g := mkF m pc L (.null :: S)) hx rfl rfl (hb hby hd) target k⟩) G
theorem Go.castNull {index : Nat} (pc' : Nat) (hd : decode bytes pc = .ok (.checkcast index, 3)) (hp : pc + 3 = pc') (G : Go md l Z n0 R bytes ml ret own mn Ψ cells slots sf h pc' L (.null :: S)) : Go md l Z n0 R bytes ml ret own mn Ψ cells slots sf h pc L (.null :: S) := by
  subst hp; exact Go.warm _ (fun p e s m args below meth c T locs hx hby hml hZ hown X eT => ⟨T, X, eT, fun target k => X.checkcastNull (g := mkF m pc L (.null :: S)) hx rfl rfl (hb hby hd) target k⟩) G
/-- Object's constructor -/
theorem Go.initO {idx : Nat} {a : Addr} {W : Nat} (pc' : Nat) (hd : decode bytes pc = .ok (.invokespecial idx, 3)) (hp : pc + 3 = pc') (w1 : (Jvm.Cond.methodLink own idx Lib.objectInit).before a0 Z = true) (w2 : (Jvm.Cond.instanceMethod Lib.objectInit).before a0 Z = true) (w3 : (Jvm.Cond.code Lib.objectInit ⟨#[0xb1]⟩ 1 none).before a0 Z = true)
    (hsz : L.size = ml) (hf : 1 ≤ R.frames) (hW : (S.map fun v => v.category).sum ≤ W) (hl : W + 12 ≤ R.locals) (G : Go md l Z n0 R bytes ml ret own mn Ψ cells slots sf h pc' L S) : Go md l Z n0 R bytes ml ret own mn Ψ cells slots sf h pc L (.ref a :: S) := by
  subst hp; exact Go.warm _ (fun p e s m args below meth c T locs hx hby hml hZ hown X eT => Jvm.RoadKit.initO X hx hZ hown w1 w2 w3 eT (g := mkF m pc L (.ref a :: S)) rfl (hsz.trans hml.symm) rfl (hb hby hd) hf (W := W) (by simpa using hW) hl) G
/-! what is made -/
theorem Go.new {C : String} {index n : Nat} (pc' : Nat) (hd : decode bytes pc = .ok (.new index, 3)) (hp : pc + 3 = pc') (w : (Jvm.Cond.classLink own index C).before a0 Z = true) (wi : (Jvm.Cond.instantiable C n).before a0 Z = true) (wz : (Jvm.Cond.initialized C).before a0 Z = true) (hc : cells + 1 ≤ R.cells) (hl : slots + n ≤ R.slots)
    (G : ∀ h' x, h.size = x → n0 ≤ x → Ext h h' → x < h'.size → Exa Z h' x C → (∀ {O nm d : String} {ty : FieldType}, Laid Z a0 C O nm d → parseFieldDescriptor d = some ty → Fld Z h' x O nm d (defaultValue ty)) → Go md l Z n0 R bytes ml ret own mn Ψ (cells + 1) (slots + n) (x :: sf) h' pc' L (.ref x :: S)) :
    Go md l Z n0 R bytes ml ret own mn Ψ cells slots sf h pc L S := by
  subst hp
  intro p e s m args below meth c vm0 T locs hx hby hml hr hlk hn ho X eT hZ B N
  obtain ⟨T', h', X', e', E, A, D, -, st⟩ := newO X hx hZ (by rw [show (s.setVm vm0).vm = vm0 from rfl, hZ.alike.findClass]; exact ho) w wi wz eT (g := mkF m pc L S) rfl (hb hby hd) hc hl
  obtain ⟨s₂, o, h1, r⟩ := G h' _ rfl B.n0le E A.lt A D p e s m args below meth c vm0 T' locs hx hby hml hr hlk hn ho X' e' hZ (B.new E A.lt (Nat.le_refl _)) N
  exact ⟨s₂, o, st _ h1, r⟩
/-- the array at a holds just these -/
def Ary (Z : State) (h : Heap) (a : Addr) (ty : FieldType) (vs : List Value) : Prop := ∃ c : Cell, Arr Z h a c ty ∧ c.slots.toList = vs ∧ vs.length < 2147483648 ∧ ∀ v ∈ vs, fits ty v = true
theorem Ary.lt {a : Addr} {ty : FieldType} {vs : List Value} (A : Ary Z h a ty vs) : a < h.size := by obtain ⟨c, A, -⟩ := A; exact A.lt
theorem Ary.ext {a : Addr} {ty : FieldType} {vs : List Value} (E : Ext h h') (A : Ary Z h a ty vs) : Ary Z h' a ty vs := by obtain ⟨c, A, r⟩ := A; exact ⟨c, A.ext E, r⟩
theorem Ary.other {a b : Addr} {ty : FieldType} {vs : List Value} {sl : Nat} {v : Value} (W : Wr h h' a sl v) (A : Ary Z h b ty vs) (q : b ≠ a) : Ary Z h' b ty vs := by obtain ⟨c, A, r⟩ := A; exact ⟨c, A.other W q, r⟩
theorem Ary.keep {a : Addr} {ty : FieldType} {vs : List Value} {ws : List Addr} (K : Keep h h' ws) (A : Ary Z h a ty vs) (q : a ∉ ws) : Ary Z h' a ty vs := by obtain ⟨c, A, r⟩ := A; exact ⟨c, ⟨K.2.1 a c A.1 q, A.2⟩, r⟩
theorem Ary.set {a : Addr} {ty : FieldType} {vs : List Value} {i : Nat} {v : Value} (W : Wr h h' a i v) (A : Ary Z h a ty vs) (hf : fits ty v = true) : Ary Z h' a ty (vs.set i v) := by
  obtain ⟨c, A, e1, e2, e3⟩ := A
  refine ⟨_, A.same W, by rw [← e1]; simp [Cell.setSlot, Array.toList_setIfInBounds], by simpa using e2, fun w hw => ?_⟩
  rcases List.mem_or_eq_of_mem_set hw with q | rfl
  · exact e3 w q
  · exact hf
theorem clamp_of {j : Int32} {i : Nat} (q : j.toInt = (i : Int)) : ¬ j < 0 ∧ j.toNatClampNeg = i := by
  refine ⟨fun z => ?_, ?_⟩
  · rw [Int32.lt_iff_toInt_lt] at z; rw [q] at z; have : (0 : Int32).toInt = 0 := rfl; omega
  · show j.toInt.toNat = i; rw [q]; rfl
theorem Ary.inb {a : Addr} {ty : FieldType} {vs : List Value} {c : Cell} {j : Int32} {i : Nat} (e1 : c.slots.toList = vs) (q : j.toInt = (i : Int)) (hi : i < vs.length) : ¬ (j < 0 ∨ c.slots.size ≤ j.toNatClampNeg) := by
  obtain ⟨q1, q2⟩ := clamp_of q
  rintro (z | z)
  · exact q1 z
  · rw [q2] at z; subst e1; simp at hi; omega
theorem Ary.at {c : Cell} {vs : List Value} {j : Int32} {i : Nat} {v : Value} (e1 : c.slots.toList = vs) (q : j.toInt = (i : Int)) (hv : vs[i]? = some v) : c.slots[j.toNatClampNeg]? = some v := by
  rw [(clamp_of q).2]; subst e1; rw [← hv]; simp
theorem Go.newA {aty : ArrayType} {n : Int32} {ty : FieldType} (k : Nat) (pc' : Nat) (hd : decode bytes pc = .ok (.newarray aty, 2)) (hp : pc + 2 = pc') (hty : newarray.typeOf aty = ty) (w : (Jvm.Cond.arrayClass ty).before a0 Z = true) (hk : n.toInt = (k : Int)) (cap : Nat) (hcap : k ≤ cap) (hb8 : cap * 8 ≤ 536870912) (hc : cells + 1 ≤ R.cells) (hl : slots + cap ≤ R.slots)
    (G : ∀ h' x, h.size = x → n0 ≤ x → Ext h h' → x < h'.size → Ary Z h' x ty (List.replicate k (defaultValue ty)) → Go md l Z n0 R bytes ml ret own mn Ψ (cells + 1) (slots + cap) (x :: sf) h' pc' L (.ref x :: S)) :
    Go md l Z n0 R bytes ml ret own mn Ψ cells slots sf h pc L (.int n :: S) := by
  subst hp; subst hty
  obtain ⟨q1, q2⟩ := clamp_of hk
  intro p e s m args below meth c vm0 T locs hx hby hml hr hlk hn ho X eT hZ B N
  obtain ⟨T', h', cA, X', e', E, A, st⟩ := newP X hx hZ w eT (g := mkF m pc L (.int n :: S)) rfl (hb hby hd) rfl q1 (cap := cap) (by rw [q2]; exact hcap) hb8 hc hl
  have A' : Ary Z h' h.size (newarray.typeOf aty) (List.replicate k (defaultValue (newarray.typeOf aty))) := ⟨_, A, by simp [Jvm.RoadKit.newA, q2], by simp; omega, fun v hv => by
    rw [(List.mem_replicate.mp hv).2]; cases aty <;> rfl⟩
  obtain ⟨s₂, o, h1, r⟩ := G h' _ rfl B.n0le E A'.lt A' p e s m args below meth c vm0 T' locs hx hby hml hr hlk hn ho X' e' hZ (B.new E A'.lt (Nat.le_refl _)) N
  exact ⟨s₂, o, st _ h1, r⟩
theorem Go.alen {a : Addr} {ty : FieldType} {vs : List Value} (pc' : Nat) (n : Int32) (hd : decode bytes pc = .ok (.arraylength, 1)) (hp : pc + 1 = pc') (A : Ary Z h a ty vs) (hn : Int32.ofNat vs.length = n) (G : Go md l Z n0 R bytes ml ret own mn Ψ cells slots sf h pc' L (.int n :: S)) :
    Go md l Z n0 R bytes ml ret own mn Ψ cells slots sf h pc L (.ref a :: S) := by
  subst hp; subst hn
  obtain ⟨c0, A, e1, e2, e3⟩ := A
  refine Go.warm _ (fun p e s m args below meth c T locs hx hby hml hZ hown X eT => ⟨T, X, eT, fun target k => X.arraylength hx (by rw [eT]; exact A.1) (State.isArrayOf_alike hZ.alike A.2.1) (g := mkF m pc L (.ref a :: S)) rfl rfl (hb hby hd) target ?_⟩) G
  subst e1; simpa using k
theorem Go.caload {a : Addr} {vs : List Value} {j : Int32} (i : Nat) {v : Value} (pc' : Nat) (hd : decode bytes pc = .ok (.caload, 1)) (hp : pc + 1 = pc') (A : Ary Z h a .char vs) (hj : j.toInt = (i : Int)) (hv : vs[i]? = some v) (G : Go md l Z n0 R bytes ml ret own mn Ψ cells slots sf h pc' L (v :: S)) :
    Go md l Z n0 R bytes ml ret own mn Ψ cells slots sf h pc L (.int j :: .ref a :: S) := by
  subst hp
  obtain ⟨c0, A, e1, e2, e3⟩ := A
  have hi := (List.getElem?_eq_some_iff.mp hv).1
  exact Go.warm _ (fun p e s m args below meth c T locs hx hby hml hZ hown X eT => ⟨T, X, eT, fun target k => X.caload hx (by rw [eT]; exact A.1) (State.isArrayOf_alike hZ.alike A.2.1) A.2.2 (Ary.inb (a := a) (ty := .char) e1 hj hi) (Ary.at e1 hj hv) (g := mkF m pc L (.int j :: .ref a :: S)) rfl rfl (hb hby hd) target k⟩) G
theorem Go.baload {a : Addr} {vs : List Value} {j : Int32} (i : Nat) {v : Value} (pc' : Nat) (hd : decode bytes pc = .ok (.baload, 1)) (hp : pc + 1 = pc') (A : Ary Z h a .byte vs) (hj : j.toInt = (i : Int)) (hv : vs[i]? = some v) (G : Go md l Z n0 R bytes ml ret own mn Ψ cells slots sf h pc' L (v :: S)) :
    Go md l Z n0 R bytes ml ret own mn Ψ cells slots sf h pc L (.int j :: .ref a :: S) := by
  subst hp
  obtain ⟨c0, A, e1, e2, e3⟩ := A
  have hi := (List.getElem?_eq_some_iff.mp hv).1
  exact Go.warm _ (fun p e s m args below meth c T locs hx hby hml hZ hown X eT => ⟨T, X, eT, fun target k => X.baloadBytes hx (by rw [eT]; exact A.1) (State.isArrayOf_alike hZ.alike A.2.1) A.2.2 (Ary.inb (a := a) (ty := .byte) e1 hj hi) (Ary.at e1 hj hv) (g := mkF m pc L (.int j :: .ref a :: S)) rfl rfl (hb hby hd) target k⟩) G
theorem Go.laload {a : Addr} {vs : List Value} {j : Int32} (i : Nat) {v : Value} (pc' : Nat) (hd : decode bytes pc = .ok (.laload, 1)) (hp : pc + 1 = pc') (A : Ary Z h a .long vs) (hj : j.toInt = (i : Int)) (hv : vs[i]? = some v) (G : Go md l Z n0 R bytes ml ret own mn Ψ cells slots sf h pc' L (v :: S)) :
    Go md l Z n0 R bytes ml ret own mn Ψ cells slots sf h pc L (.int j :: .ref a :: S) := by
  subst hp
  obtain ⟨c0, A, e1, e2, e3⟩ := A
  have hi := (List.getElem?_eq_some_iff.mp hv).1
  exact Go.warm _ (fun p e s m args below meth c T locs hx hby hml hZ hown X eT => ⟨T, X, eT, fun target k => X.laload hx (by rw [eT]; exact A.1) (State.isArrayOf_alike hZ.alike A.2.1) A.2.2 (Ary.inb (a := a) (ty := .long) e1 hj hi) (Ary.at e1 hj hv) (g := mkF m pc L (.int j :: .ref a :: S)) rfl rfl (hb hby hd) target k⟩) G
theorem Go.aaload {a : Addr} {vs : List Value} {j : Int32} {ty : FieldType} (i : Nat) {v : Value} (pc' : Nat) (hd : decode bytes pc = .ok (.aaload, 1)) (hp : pc + 1 = pc') (hty : ty.isReference = true) (A : Ary Z h a ty vs) (hj : j.toInt = (i : Int)) (hv : vs[i]? = some v) (G : Go md l Z n0 R bytes ml ret own mn Ψ cells slots sf h pc' L (v :: S)) :
    Go md l Z n0 R bytes ml ret own mn Ψ cells slots sf h pc L (.int j :: .ref a :: S) := by
  subst hp
  obtain ⟨c0, A, e1, e2, e3⟩ := A
  have hi := (List.getElem?_eq_some_iff.mp hv).1
  exact Go.warm _ (fun p e s m args below meth c T locs hx hby hml hZ hown X eT => ⟨T, X, eT, fun target k => X.aaload hx (by rw [eT]; exact A.1) (State.isArrayOf_alike hZ.alike A.2.1) hty A.2.2 (Ary.inb (a := a) (ty := ty) e1 hj hi) (Ary.at e1 hj hv) (g := mkF m pc L (.int j :: .ref a :: S)) rfl rfl (hb hby hd) target k⟩) G
theorem Go.castore {a : Addr} {vs : List Value} {j x : Int32} (i : Nat) (pc' : Nat) (hd : decode bytes pc = .ok (.castore, 1)) (hp : pc + 1 = pc') (A : Ary Z h a .char vs) (hj : j.toInt = (i : Int)) (hi : i < vs.length) (ha : a ∈ sf) (hn0 : n0 ≤ a)
    (G : ∀ h', Wr h h' a i (.int (nar .char x)) → Ary Z h' a .char (vs.set i (.int (nar .char x))) → Go md l Z n0 R bytes ml ret own mn Ψ cells slots sf h' pc' L S) : Go md l Z n0 R bytes ml ret own mn Ψ cells slots sf h pc L (.int x :: .int j :: .ref a :: S) := by
  subst hp
  obtain ⟨c0, A0, e1, e2, e3⟩ := A
  obtain ⟨-, q2⟩ := clamp_of hj
  exact Go.write _ ha hn0 (sl := i) (fun p e s m args below meth c T locs hx hby hml hnm hZ hown X eT => by rw [← q2]; exact stC X hx hZ eT A0 (Ary.inb (a := a) (ty := .char) e1 hj hi) (g := mkF m pc L (.int x :: .int j :: .ref a :: S)) rfl rfl (hb hby hd)) (fun h' W => G h' W (Ary.set W ⟨c0, A0, e1, e2, e3⟩ (fits_nar_char _)))
theorem Go.bastore {a : Addr} {vs : List Value} {j x : Int32} (i : Nat) (pc' : Nat) (hd : decode bytes pc = .ok (.bastore, 1)) (hp : pc + 1 = pc') (A : Ary Z h a .byte vs) (hj : j.toInt = (i : Int)) (hi : i < vs.length) (ha : a ∈ sf) (hn0 : n0 ≤ a)
    (G : ∀ h', Wr h h' a i (.int x.toInt8.toInt32) → Ary Z h' a .byte (vs.set i (.int x.toInt8.toInt32)) → Go md l Z n0 R bytes ml ret own mn Ψ cells slots sf h' pc' L S) : Go md l Z n0 R bytes ml ret own mn Ψ cells slots sf h pc L (.int x :: .int j :: .ref a :: S) := by
  subst hp
  obtain ⟨c0, A0, e1, e2, e3⟩ := A
  obtain ⟨-, q2⟩ := clamp_of hj
  exact Go.write _ ha hn0 (sl := i) (fun p e s m args below meth c T locs hx hby hml hnm hZ hown X eT => by rw [← q2]; exact stB X hx hZ eT A0 (Ary.inb (a := a) (ty := .byte) e1 hj hi) (g := mkF m pc L (.int x :: .int j :: .ref a :: S)) rfl rfl (hb hby hd)) (fun h' W => G h' W (Ary.set W ⟨c0, A0, e1, e2, e3⟩ (fits_nar_byte _)))
/-! calls -/
abbrev CPre (R : Room) (as : Array Value) (h : Heap) (kc ks : Nat) : Pt → Array Value → Prop := fun A a => a = as ∧ A.U.heap = h ∧ A.cells + kc ≤ R.cells ∧ A.slots + ks ≤ R.slots
abbrev CPost (Z : State) (n0 : Nat) (Q : Option Value → Heap → List Addr → Prop) (kc ks : Nat) : Pt → Array Value → Option Value → Pt → Prop := fun A _ v B => ∃ (L : List Loc) (sf' : List Addr), Q v B.U.heap sf' ∧ Old Z n0 B.U.heap ∧ Fr n0 L ∧ B.locs = A.locs ++ L ∧ B.cells = A.cells + kc ∧ B.slots = A.slots + ks
abbrev CPostW (Z : State) (EL : List (String × Nat)) (vm0 : Vm) (h : Heap) (n0 : Nat) (Q : Option Value → Heap → List Addr → Prop) (kc ks : Nat) : Pt → Array Value → Option Value → Pt → Prop := fun A _ v B => ∃ (L : List Loc) (sf' : List Addr), Q v B.U.heap sf' ∧ Old Z n0 B.U.heap ∧ Fr n0 L ∧ B.locs = A.locs ++ L ∧ B.cells = A.cells + kc ∧ B.slots = A.slots + ks ∧ CHr Z EL vm0 h B.U.vm B.U.heap ∧ ∀ x ∈ sf', x < B.U.heap.size ∧ Safe Z EL B.U.vm B.U.heap x
def Call (md : Md) (l : Launch) (Z : State) (n0 : Nat) (R : Room) (y : MethodName) (len W : Nat) (as : Array Value) (h : Heap) (sf : List Addr) (kc ks : Nat) (Q : Option Value → Heap → List Addr → Prop) : Prop :=
  ∀ (p : Program) (e : Env) (below : List Frame) (s : State) (vm0 : Vm) (sargs : Array Value), Z.Warmed39 vm0 → Bok md Z n0 s sf vm0 h →
    match md with
    | none => Back l R p e below (s.setVm vm0) sargs y len W (CPre R as h kc ks) (CPost Z n0 Q kc ks)
    | some EL => BackS l R p e below (s.setVm vm0) sargs y len W (CPre R as h kc ks) (CPostW Z EL vm0 h n0 Q kc ks)
theorem Bok.called {s U : State} {vm0 : Vm} {sf' : List Addr} (B : Bok (some EL) Z n0 s sf vm0 h) (h2 : (s.setVm vm0).Since U.vm U.heap.size) (o : Old Z n0 U.heap) (C : CHr Z EL vm0 h U.vm U.heap) (q : ∀ x ∈ sf', x < U.heap.size ∧ Safe Z EL U.vm U.heap x) : Bok (some EL) Z n0 s (sf' ++ sf) U.vm U.heap := by
  obtain ⟨-, ⟨k, b1, b2⟩, b3, b4, b5⟩ := B
  refine ⟨o, ⟨_, b1.trans h2 (Nat.le_trans b2 C.2.1), Nat.le_refl _⟩, b3, b4.trans C, fun x hx => ?_⟩
  rcases List.mem_append.mp hx with hx | hx
  · exact q x hx
  · exact ⟨Nat.lt_of_lt_of_le (b5 x hx).1 C.2.1, C.safe (b5 x hx).1 (b5 x hx).2⟩
theorem Go.callS {y : MethodName} {index maxY kc ks W : Nat} {bytesY : ByteArray} {retY : Option FieldType} {sfc : List Addr} {Q : Option Value → Heap → List Addr → Prop} {St : List Value} (pc' : Nat) (argsL : List Value) (hd : decode bytes pc = .ok (.invokestatic index, 3)) (hp : pc + 3 = pc') (hst : St = argsL.reverse ++ S)
    (wl : (Jvm.Cond.methodLink own index y).before a0 Z = true) (ws : (Jvm.Cond.static y).before a0 Z = true) (wi : (Jvm.Cond.initialized y.cls).before a0 Z = true) (wc : (Jvm.Cond.code y bytesY maxY retY).before a0 Z = true) (hy : y.cls ≠ "java/lang/invoke/MethodHandle" ∧ y.cls ≠ "java/lang/invoke/VarHandle")
    (hC : Call md l Z n0 R y 3 W argsL.toArray h sfc kc ks Q) (hlen : ∀ sig, parseMethodDescriptor y.desc = some sig → argsL.length = sig.parameters.length) (hW : (S.map fun v => v.category).sum ≤ W) (hsz : L.size = ml) (hc : cells + kc ≤ R.cells) (hs : slots + ks ≤ R.slots) (hsf : ∀ x ∈ sfc, x ∈ sf)
    (G : ∀ v h' sf', Q v h' sf' → Go md l Z n0 R bytes ml ret own mn Ψ (cells + kc) (slots + ks) (sf' ++ sf) h' pc' L (v.toList ++ S)) : Go md l Z n0 R bytes ml ret own mn Ψ cells slots sf h pc L St := by
  subst hp; subst hst
  intro p e s m args below meth c vm0 T locs hx hby hml hr hlk hn ho X eT hZ B N
  have hown : (s.setVm vm0).vm.findClass own = some m.cls := by rw [show (s.setVm vm0).vm = vm0 from rfl, hZ.alike.findClass]; exact ho
  have K := hC p e below s vm0 args hZ (B.sub hsf)
  cases md with
  | none =>
    obtain ⟨v, vm₁, ⟨U, L1, c1, n1⟩, -, X', ⟨L', sf', q1, q0, q2, q3, q4, q5⟩, st⟩ := Jvm.LawKit.callS X hx hown (mvT hZ wl) (mvT hZ ws) (mvT hZ wi) (mvT hZ wc) hy K (g := mkF m pc L (argsL.reverse ++ S)) rfl (hsz.trans hml.symm) hlen rfl (by simpa using hW) (hb hby hd) (fun _ _ => ⟨rfl, eT, hc, hs⟩)
    dsimp only [Pt.U, Pt.locs, Pt.cells, Pt.slots] at q1 q0 q3 q4 q5 X' st
    subst q3 q4 q5
    obtain ⟨s₂, o, h1, r⟩ := G v U.heap sf' q1 p e s m args below meth c vm0 U _ hx hby hml hr hlk hn ho X' rfl hZ ⟨q0, B.2⟩ (N.app q2)
    exact ⟨s₂, o, st _ h1, r⟩
  | some EL =>
    obtain ⟨v, vm₁, ⟨U, L1, c1, n1⟩, -, X', hS, hgr, ⟨L', sf', q1, q0, q2, q3, q4, q5, q6, q7⟩, st⟩ := callSS X hx hown (mvT hZ wl) (mvT hZ ws) (mvT hZ wi) (mvT hZ wc) hy K (g := mkF m pc L (argsL.reverse ++ S)) rfl (hsz.trans hml.symm) hlen rfl (by simpa using hW) (hb hby hd) (fun _ _ => ⟨rfl, eT, hc, hs⟩)
    dsimp only [Pt.U, Pt.locs, Pt.cells, Pt.slots] at q1 q0 q3 q4 q5 q6 q7 X' st hS hgr
    subst q3 q4 q5
    obtain ⟨s₂, o, h1, r⟩ := G v U.heap sf' q1 p e s m args below meth c U.vm U _ hx hby hml hr hlk hn ho X' rfl (State.Warmed39.trans (t := s.setVm vm0) hZ hS.1) (B.called hS q0 q6 q7) (N.app q2)
    exact ⟨s₂, o, st.trans h1, r⟩
theorem Go.callC {y : MethodName} {index maxY kc ks W : Nat} {bytesY : ByteArray} {sfc : List Addr} {Q : Option Value → Heap → List Addr → Prop} {St : List Value} {a : Addr} (pc' : Nat) (argsL : List Value) (hd : decode bytes pc = .ok (.invokespecial index, 3)) (hp : pc + 3 = pc') (hst : St = argsL.reverse ++ .ref a :: S) (hy1 : y.name = "<init>")
    (wl : (Jvm.Cond.methodLink own index y).before a0 Z = true) (ws : (Jvm.Cond.instanceMethod y).before a0 Z = true) (wc : (Jvm.Cond.code y bytesY maxY none).before a0 Z = true) (hy : y.cls ≠ "java/lang/invoke/MethodHandle" ∧ y.cls ≠ "java/lang/invoke/VarHandle")
    (hC : Call md l Z n0 R y 3 W (.ref a :: argsL).toArray h sfc kc ks Q) (hlen : ∀ sig, parseMethodDescriptor y.desc = some sig → argsL.length = sig.parameters.length) (hW : (S.map fun v => v.category).sum ≤ W) (hsz : L.size = ml) (hc : cells + kc ≤ R.cells) (hs : slots + ks ≤ R.slots) (hsf : ∀ x ∈ sfc, x ∈ sf)
    (G : ∀ v h' sf', Q v h' sf' → Go md l Z n0 R bytes ml ret own mn Ψ (cells + kc) (slots + ks) (sf' ++ sf) h' pc' L (v.toList ++ S)) : Go md l Z n0 R bytes ml ret own mn Ψ cells slots sf h pc L St := by
  subst hp; subst hst
  intro p e s m args below meth c vm0 T locs hx hby hml hr hlk hn ho X eT hZ B N
  have hown : (s.setVm vm0).vm.findClass own = some m.cls := by rw [show (s.setVm vm0).vm = vm0 from rfl, hZ.alike.findClass]; exact ho
  have K := hC p e below s vm0 args hZ (B.sub hsf)
  cases md with
  | none =>
    obtain ⟨v, vm₁, ⟨U, L1, c1, n1⟩, -, X', ⟨L', sf', q1, q0, q2, q3, q4, q5⟩, st⟩ := X.specialBack hx hy1 hown (mvT hZ wl) (mvT hZ ws) (mvT hZ wc) hy K (g := mkF m pc L (argsL.reverse ++ .ref a :: S)) rfl (hsz.trans hml.symm) (Steps.refl _) hlen rfl (by simpa using hW) (hb hby hd) (fun _ _ => ⟨rfl, eT, hc, hs⟩)
    dsimp only [Pt.U, Pt.locs, Pt.cells, Pt.slots] at q1 q0 q3 q4 q5 X' st
    subst q3 q4 q5
    obtain ⟨s₂, o, h1, r⟩ := G v U.heap sf' q1 p e s m args below meth c vm0 U _ hx hby hml hr hlk hn ho X' rfl hZ ⟨q0, B.2⟩ (N.app q2)
    exact ⟨s₂, o, st.trans h1, r⟩
  | some EL =>
    obtain ⟨v, vm₁, ⟨U, L1, c1, n1⟩, -, X', hS, hgr, ⟨L', sf', q1, q0, q2, q3, q4, q5, q6, q7⟩, st⟩ := X.specialBackS hx hy1 hown (mvT hZ wl) (mvT hZ ws) (mvT hZ wc) hy K (g := mkF m pc L (argsL.reverse ++ .ref a :: S)) rfl (hsz.trans hml.symm) (Steps.refl _) hlen rfl (by simpa using hW) (hb hby hd) (fun _ _ => ⟨rfl, eT, hc, hs⟩)
    dsimp only [Pt.U, Pt.locs, Pt.cells, Pt.slots] at q1 q0 q3 q4 q5 q6 q7 X' st hS hgr
    subst q3 q4 q5
    obtain ⟨s₂, o, h1, r⟩ := G v U.heap sf' q1 p e s m args below meth c U.vm U _ hx hby hml hr hlk hn ho X' rfl (State.Warmed39.trans (t := s.setVm vm0) hZ hS.1) (B.called hS q0 q6 q7) (N.app q2)
    exact ⟨s₂, o, st.trans h1, r⟩
theorem Go.callV {y z : MethodName} {index kc ks W : Nat} {C : String} {sfc : List Addr} {Q : Option Value → Heap → List Addr → Prop} {St : List Value} {a : Addr} (pc' : Nat) (argsL : List Value) (hd : decode bytes pc = .ok (.invokevirtual index, 3)) (hp : pc + 3 = pc') (hst : St = argsL.reverse ++ .ref a :: S)
    (wl : (Jvm.Cond.methodLink own index y).before a0 Z = true) (wd : (Jvm.Cond.declares y).before a0 Z = true) (wse : (Jvm.Cond.selects C y z).before a0 Z = true) (ws : (Jvm.Cond.instanceMethod z).before a0 Z = true) (hnf : ∀ (s : State), Z.Warmed39 s.vm → NotFace s y) (hy : y.cls ≠ "java/lang/invoke/MethodHandle" ∧ y.cls ≠ "java/lang/invoke/VarHandle")
    (E : Exa Z h a C) (hC : Call md l Z n0 R z 3 W (.ref a :: argsL).toArray h sfc kc ks Q) (hlen : ∀ sig, parseMethodDescriptor y.desc = some sig → argsL.length = sig.parameters.length) (hW : (S.map fun v => v.category).sum ≤ W) (hsz : L.size = ml) (hc : cells + kc ≤ R.cells) (hs : slots + ks ≤ R.slots) (hsf : ∀ x ∈ sfc, x ∈ sf)
    (G : ∀ v h' sf', Q v h' sf' → Go md l Z n0 R bytes ml ret own mn Ψ (cells + kc) (slots + ks) (sf' ++ sf) h' pc' L (v.toList ++ S)) : Go md l Z n0 R bytes ml ret own mn Ψ cells slots sf h pc L St := by
  subst hp; subst hst
  intro p e s m args below meth c vm0 T locs hx hby hml hr hlk hn ho X eT hZ B N
  have hown : (s.setVm vm0).vm.findClass own = some m.cls := by rw [show (s.setVm vm0).vm = vm0 from rfl, hZ.alike.findClass]; exact ho
  have K := hC p e below s vm0 args hZ (B.sub hsf)
  obtain ⟨cB, kB, i1, -, i3⟩ := isOf (s := s.setVm vm0) hZ eT E
  cases md with
  | none =>
    obtain ⟨v, vm₁, ⟨U, L1, c1, n1⟩, -, X', ⟨L', sf', q1, q0, q2, q3, q4, q5⟩, st⟩ := X.virtualBack hx hown (mvT hZ wl) (mvT hZ wd) (hnf _ hZ) (mvT hZ wse) (mvT hZ ws) hy K i1 i3 (g := mkF m pc L (argsL.reverse ++ .ref a :: S)) rfl (hsz.trans hml.symm) (Steps.refl _) hlen rfl (by simpa using hW) (hb hby hd) (fun _ _ => ⟨rfl, eT, hc, hs⟩)
    dsimp only [Pt.U, Pt.locs, Pt.cells, Pt.slots] at q1 q0 q3 q4 q5 X' st
    subst q3 q4 q5
    obtain ⟨s₂, o, h1, r⟩ := G v U.heap sf' q1 p e s m args below meth c vm0 U _ hx hby hml hr hlk hn ho X' rfl hZ ⟨q0, B.2⟩ (N.app q2)
    exact ⟨s₂, o, st.trans h1, r⟩
  | some EL =>
    obtain ⟨v, vm₁, ⟨U, L1, c1, n1⟩, -, X', hS, hgr, ⟨L', sf', q1, q0, q2, q3, q4, q5, q6, q7⟩, st⟩ := X.virtualBackS hx hown (mvT hZ wl) (mvT hZ wd) (hnf _ hZ) (mvT hZ wse) (mvT hZ ws) hy K i1 i3 (g := mkF m pc L (argsL.reverse ++ .ref a :: S)) rfl (hsz.trans hml.symm) (Steps.refl _) hlen rfl (by simpa using hW) (hb hby hd) (fun _ _ => ⟨rfl, eT, hc, hs⟩)
    dsimp only [Pt.U, Pt.locs, Pt.cells, Pt.slots] at q1 q0 q3 q4 q5 q6 q7 X' st hS hgr
    subst q3 q4 q5
    obtain ⟨s₂, o, h1, r⟩ := G v U.heap sf' q1 p e s m args below meth c U.vm U _ hx hby hml hr hlk hn ho X' rfl (State.Warmed39.trans (t := s.setVm vm0) hZ hS.1) (B.called hS q0 q6 q7) (N.app q2)
    exact ⟨s₂, o, st.trans h1, r⟩
/-! from a body to a call -/
theorem met_of_go {cls name desc : String} {as : Array Value} {L0 : Array Slot} {Q : Option Value → Heap → List Addr → Prop} {ws : List Jvm.Cond} (hpn : plainFor ⟨cls, name, desc⟩ = true) (hef : ∀ m, entryFrame m as ml = mkF m 0 L0 []) (G : Go md l Z n0 R bytes ml ret cls name Q 0 0 sf h 0 L0 []) :
    MetFree l ⟨cls, name, desc⟩ (head1 (Jvm.Cond.code ⟨cls, name, desc⟩ bytes ml ret :: ws) R) (fun a U => a = as ∧ Z.Warmed39 U.vm ∧ U.heap = h ∧ Bok md Z n0 U sf U.vm h) (fun _ _ _ _ _ => True)
      (fun _ U o U' => ∃ (v : Option Value) (L' : List Loc) (sf' : List Addr), o = .returned v ∧ Q v U'.heap sf' ∧ Old Z n0 U'.heap ∧ Fr n0 L' ∧ SafeAll md Z sf' U'.vm U'.heap ∧ FinE md Z U o U' L' R.cells R.slots) := by
  refine MetFree.of_bodySF hpn hisR ?_
  intro p e s m args below meth c s₁ Bd hml0 hP hK
  obtain ⟨rfl, hZ, hh, hB⟩ := hP
  have X0 : Stand p l e R s m args below meth c s₁ [] 0 0 := Stand.of_body Bd
  have e0 : s₁.heap = h := by rw [← hh, Bd.state]; rfl
  have q := G p e s m args below meth c s.vm s₁ [] Bd.exec Bd.bytes hml0 Bd.returns (BodyLoose.notSynchronized Bd) (name_of_methodNamed Bd.named Bd.method).1 (by rw [← hZ.alike.findClass]; exact findClass_of_methodNamed Bd.named) X0 e0 hZ hB (Fr.nil n0)
  rw [hef]; exact q
theorem call_of_go {cls name desc : String} {as : Array Value} {L0 : Array Slot} {Q : Option Value → Heap → List Addr → Prop} {rm : Room} {len W : Nat} (hpn : plainFor ⟨cls, name, desc⟩ = true) (hef : ∀ m, entryFrame m as ml = mkF m 0 L0 []) (G : Go md l Z n0 rm bytes ml ret cls name Q 0 0 sf h 0 L0 [])
    (wc : (Jvm.Cond.code ⟨cls, name, desc⟩ bytes ml ret).before a0 Z = true) (wz : (Jvm.Cond.initialized cls).before a0 Z = true) (hf : rm.frames + 1 ≤ R.frames) (hl : W + (ml + 11) + rm.locals ≤ R.locals) :
    Call md l Z n0 R ⟨cls, name, desc⟩ len W as h sf rm.cells rm.slots Q := by
  have hM := met_of_go (desc := desc) (ws := []) hpn hef G
  intro p e below s vm0 sargs hZ B
  cases md with
  | none =>
    have hM' : MetFree l ⟨cls, name, desc⟩ (head1 [Jvm.Cond.code ⟨cls, name, desc⟩ bytes ml ret] rm) (fun a U => a = as ∧ Z.Warmed39 U.vm ∧ U.heap = h) (fun _ _ _ _ _ => True) (fun _ U o U' => ∃ v L, o = .returned v ∧ (fun v h' L => ∃ sf', Q v h' sf' ∧ Old Z n0 h' ∧ Fr n0 L) v U'.heap L ∧ FrameEnd U o U' L rm.cells rm.slots) :=
      fun p e ha hc hk s m args below hfr happ hP hK => by
        obtain ⟨n, o, h1, h2, h3, v, L', sf', e1, q1, q0, q2, -, q4⟩ := hM p e ha hc hk s m args below hfr happ ⟨hP.1, hP.2.1, hP.2.2, B.1, rfl⟩ hK
        exact ⟨n, o, h1, h2, h3, v, L', e1, ⟨sf', q1, q0, q2⟩, q4⟩
    have K := backOf (Q := fun v h' L => ∃ sf', Q v h' sf' ∧ Old Z n0 h' ∧ Fr n0 L) (R := R) (p := p) (e := e) (below := below) (s := s.setVm vm0) (args := sargs) (len := len) (W := W) hM' hZ wc wz hf hl
    intro m meth c A g ig mk a X hg hsize hdg hW hn hp
    obtain ⟨v, P, X', ⟨L', ⟨sf', q1, q0, q2⟩, q3, q4, q5⟩, st⟩ := K m meth c A g ig mk a X hg hsize hdg hW hn hp
    exact ⟨v, P, X', ⟨L', sf', q1, q0, q2, q3, q4, q5⟩, st⟩
  | some EL =>
    obtain ⟨b0, ⟨k, b1, b2⟩, ⟨a1, b3⟩, b4, b5⟩ := B
    exact BackS.of_freeW (bytes := bytes) (maxL := ml) (ret := ret) (E := fun _ first o t L k n => k = rm.cells ∧ n = rm.slots ∧ (∃ v sf', o = .returned v ∧ Q v t.heap sf' ∧ Old Z n0 t.heap ∧ Fr n0 L ∧ ∀ x ∈ sf', x < t.heap.size ∧ Safe Z EL t.vm t.heap x) ∧ CHr Z EL first.vm first.heap t.vm t.heap) hM hf hl
      (fun m meth c A a Y hp => have hU : Z.Warmed39 A.U.vm := wtrans (s := s.setVm vm0) hZ Y.warmed
        ⟨by show (Jvm.Cond.and _ .tt).before a A.U = true; rw [Cond.before_and, mv hU wc]; rfl, mv hU wc, mv hU wz, hp.2.2.1, hp.2.2.2⟩)
      (fun m meth c A a g mk Y hp => by
        have C := CHv.at Y hZ b3 b4.1
        exact ⟨hp.1, wtrans (s := s.setVm vm0) hZ Y.warmed, hp.2.1, b0, ⟨_, (State.WarmedH.refl _).since _, Nat.le_refl _⟩, ⟨a1, b3⟩, by show CHr Z EL A.U.vm A.U.heap A.U.vm h; rw [hp.2.1]; exact CHr.refl C.1, fun x hx => ⟨(b5 x hx).1, C.safe (b5 x hx).1 (b5 x hx).2⟩⟩)
      (fun _ _ _ _ _ _ _ _ _ => trivial)
      (fun _ _ _ _ ⟨v, L', sf', e1, q1, q0, q2, q3, q4, q5⟩ => ⟨L', _, _, q5, rfl, rfl, ⟨v, sf', e1, q1, q0, q2, q3⟩, q4⟩)
      (fun m meth c A a g mk v t L' k n Y hp _ _ ⟨e1, e2, ⟨v', sf', e3, q1, q0, q2, q3⟩, q4⟩ => by
        cases e3; subst e1 e2
        refine ⟨L', sf', q1, q0, q2, rfl, rfl, rfl, (CHv.at Y hZ b3 b4.1).trans ?_, q3⟩
        rw [← hp.2.1]; exact q4)
/-- a law of the library or of a pasted text, in backOf's shape -/
theorem call_of_back {y : MethodName} {as : Array Value} {len W kc ks : Nat} {QB : Option Value → Heap → List Loc → Prop} {Q : Option Value → Heap → List Addr → Prop} (ws : List Addr)
    (hB : ∀ (p : Program) (e : Env) (below : List Frame) (s : State) (sargs : Array Value), Z.Warmed39 s.vm → Back l R p e below s sargs y len W (fun A a => a = as ∧ A.U.heap = h ∧ A.cells + kc ≤ R.cells ∧ A.slots + ks ≤ R.slots) (fun A _ v B => ∃ L, QB v B.U.heap L ∧ B.locs = A.locs ++ L ∧ B.cells = A.cells + kc ∧ B.slots = A.slots + ks))
    (hQ : ∀ v h' L, QB v h' L → Fr n0 L ∧ Keep h h' ws ∧ Q v h' []) (hws : ∀ x ∈ ws, x ∈ sf) (hw0 : ∀ x ∈ ws, n0 ≤ x) : Call md l Z n0 R y len W as h sf kc ks Q := by
  intro p e below s vm0 sargs hZ B
  have K := hB p e below (s.setVm vm0) sargs hZ
  cases md with
  | none =>
    intro m meth c A g ig mk a X hg hsize hdg hW hn hp
    obtain ⟨v, P, X', ⟨L', q1, q3, q4, q5⟩, st⟩ := K m meth c A g ig mk a X hg hsize hdg hW hn hp
    obtain ⟨r1, r2, r3⟩ := hQ _ _ _ q1
    exact ⟨v, P, X', ⟨L', [], r3, B.1.keep r2 hw0, r1, q3, q4, q5⟩, st⟩
  | some EL =>
    obtain ⟨b0, ⟨k, b1, b2⟩, ⟨a1, b3⟩, b4, b5⟩ := B
    intro m meth c A g ig mk a X hg hsize hdg hW hn hp
    obtain ⟨v, P, X', ⟨L', q1, q3, q4, q5⟩, st⟩ := K m meth c A g ig mk a X hg hsize hdg hW hn hp
    obtain ⟨r1, r2, r3⟩ := hQ _ _ _ q1
    have C1 : CHr Z EL vm0 h vm0 P.U.heap := CHr.keep r2 (fun x hx => (b5 x (hws x hx)).2) b4.1
    have C2 : CHr Z EL vm0 P.U.heap P.U.vm P.U.heap := CHv.at X' hZ b3 C1.1
    exact ⟨v, P, X'.retabled X'.warmed.wide, X'.warmed.since _, by rw [hp.2.1]; exact r2.1, ⟨L', [], r3, b0.keep r2 hw0, r1, q3, q4, q5, C1.trans C2, fun x hx => nomatch hx⟩, st⟩
/-! String constants -/
theorem Go.ldcL {index : Nat} {text : String} {vs : List Value} {z : Int32} (n : Nat) (pc' : Nat) (hd : decode bytes pc = .ok (.ldc index, 2)) (hp : pc + 2 = pc') (w : (Jvm.Cond.stringLink own index text).before a0 Z = true) (wS : ∀ a ∈ Bundle.stringAtoms, a.before a0 Z = true) (hmem : (own, index) ∈ EL)
    (ht : (∀ c ∈ text.toList, c.toNat < 256) ∧ text.toList.map (fun c => Value.int (Jvm.Lit.byteI c.toNat.toUInt16)) = vs) (hz : ¬ z < 0) (hl : z.toNatClampNeg = vs.length) (hn : 4 * text.toList.length ≤ n) (hbig : n ≤ 536870912) (hc : cells + 2 ≤ R.cells) (hl' : slots + (n + 4) ≤ R.slots)
    (G : ∀ h' a b k, Ext h h' → Exa Z h' a "java/lang/String" → Fld Z h' a "java/lang/String" "coder" "B" (.int 0) → Fld Z h' a "java/lang/String" "value" "[B" (.ref b) → Arv Z h' b k .byte z vs (.int 0) → (∀ x ∈ sf, x ≠ a ∧ x ≠ b) → Go (some EL) l Z n0 R bytes ml ret own mn Ψ (cells + 2) (slots + (n + 4)) sf h' pc' L (.ref a :: S)) :
    Go (some EL) l Z n0 R bytes ml ret own mn Ψ cells slots sf h pc L S := by
  subst hp
  intro p e s m args below meth c vm0 T locs hx hby hml hr hlk hnm ho X eT hZ B N
  obtain ⟨b0, ⟨k0, b1, b2⟩, ⟨a1, b3⟩, b4, b5⟩ := B
  have hown : vm0.findClass own = some m.cls := by rw [hZ.alike.findClass]; exact ho
  obtain ⟨a, T', h', k1, b, k, X', e', E, hS, hk1, hZ', hown', x1, x2, x3, x4, x5, x6, C, -, hsf, st⟩ := ldcCH X hx hZ hown w wS eT b1 b2 b3 hmem b4.1 ht hz hl (g := mkF m pc L S) rfl (hb hby hd) hn hbig hc hl'
  obtain ⟨s₂, o, h1, r⟩ := G h' a b k E x1 x2 x3 x4 (fun x hx => hsf x (C.safe (b5 x hx).1 (b5 x hx).2)) p e s m args below meth c T'.vm T' locs hx hby hml hr hlk hnm ho X' e' hZ' ⟨b0.ext E, ⟨k1, hS, hk1⟩, ⟨a1, b3⟩, b4.trans C, fun x hx => ⟨Nat.lt_of_lt_of_le (b5 x hx).1 C.2.1, C.safe (b5 x hx).1 (b5 x hx).2⟩⟩ N
  exact ⟨s₂, o, st _ h1, r⟩
theorem ofNat_toInt {n : Nat} (q : n < 2147483648) : (Int32.ofNat n).toInt = (n : Int) := Int32.toInt_ofNat_of_lt (by omega)
theorem Ary.arv {a : Addr} {ty : FieldType} {vs : List Value} (A : Ary Z h a ty vs) (d : Value) : ∃ k, Arv Z h a k ty (Int32.ofNat vs.length) vs d := by
  obtain ⟨c, A, e1, e2, e3⟩ := A
  obtain ⟨q1, q2⟩ := clamp_of (ofNat_toInt e2)
  subst e1
  refine ⟨c.cls, c, A, rfl, by rw [q2]; simp, q1, fun k hk => ?_, fun i hi => ?_⟩
  · simp [List.getD, hk]
  · have : c.slots.toList.getD i d = c.slots[i] := by simp [List.getD, hi]
    rw [this]; exact e3 _ (by simp)
theorem Ary.ofArv {a : Addr} {ty : FieldType} {vs : List Value} {k : ClassId} {z : Int32} {d : Value} (A : Arv Z h a k ty z vs d) (hl : z.toNatClampNeg = vs.length) (hb31 : vs.length < 2147483648) : Ary Z h a ty vs := by
  obtain ⟨c, A, -, e2, -, e4, e5⟩ := A
  have hs : c.slots.size = vs.length := e2.trans hl
  have e1 : c.slots.toList = vs := by
    refine List.ext_getElem? fun i => ?_
    by_cases hi : i < vs.length
    · have := e4 i (by omega)
      simp only [List.getD, List.getElem?_eq_getElem hi, Option.getD_some] at this
      rw [List.getElem?_eq_getElem hi, ← this]; simp
    · rw [List.getElem?_eq_none (by simpa using by omega), List.getElem?_eq_none (by omega)]
  refine ⟨c, A, e1, hb31, fun v hv => ?_⟩
  obtain ⟨i, hi, rfl⟩ := List.mem_iff_getElem.mp hv
  have := e5 i (by omega)
  simpa [List.getD, List.getElem?_eq_getElem hi] using this
theorem fld_int {args : Array Value} {s : State} {t : Term} {O n d : String} {v : Int32} {a : Addr} (hv : (Jvm.Cond.eq (Term.field t O n d) (Term.int v)).value args s none s [] = some true) (ev : t.eval args s none [] s = some (.ref a)) : Fld s s.heap a O n d (.int v) := by
  obtain ⟨x, y, e1, e2, k1, k2⟩ := cmp_v (Or.inl hv)
  cases (Term.int_eval v).symm.trans e2
  obtain ⟨z, rfl⟩ := k2
  have := gotT (Cond.eq_ints e1 (Term.int_eval v)) hv
  subst this
  exact Fld.start ((fld_at ev).symm.trans e1)
theorem no_sub {C O K : String} {k : Nat} (w : (Jvm.Cond.superclass C O).before a0 Z = true) (w0 : (Jvm.Cond.noSuperclass O).before a0 Z = true) (wi : (Jvm.Cond.instantiable K k).before a0 Z = true) (hn : C ≠ K) (hn2 : O ≠ K) : ∃ c t, Z.vm.findClass C = some c ∧ Z.vm.findClass K = some t ∧ Z.vm.assignable c t = false := by
  obtain ⟨c, h0⟩ := found_sup w
  obtain ⟨p, kc, kp, h1, h2, h3, h4, h5, -, h7⟩ := Cond.superclass_spec h0 w
  obtain ⟨c', k', g1, g2, g3, -, -⟩ := Cond.noSuperclass_spec w0
  cases h1.symm.trans g1
  obtain ⟨t, kt, i1, i2, i3, i4, -⟩ := Cond.instantiable_spec wi
  have ne1 := ids_ne h0 i1 hn
  have ne2 := ids_ne g1 i1 hn2
  have i5 : kt.isInterface = false := by simp only [Bool.or_eq_false_iff] at i4; exact i4.1
  refine ⟨c, t, h0, i1, ?_⟩
  show Z.vm.assignableAux (255 + 1) c t = false
  have j1 : ∀ f, Z.vm.isSubclassAux f p t = false := fun f => by cases f <;> simp [Vm.isSubclassAux, ne2, g2, g3]
  have j2 : ∀ f, Z.vm.isSubclassAux f c t = false := fun f => by cases f <;> simp [Vm.isSubclassAux, ne1, h2, h4, j1]
  simp [Vm.assignableAux, ne1, h2, i2, h5, i3, i5, Vm.isSubclass, j2]
theorem range_take {vs : List Value} {i n : Nat} {dv : Value} (q : i + n ≤ vs.length) : (List.range n).map (fun k => vs.getD (i + k) dv) = (vs.drop i).take n := by
  refine List.ext_getElem (by simp; omega) fun k h1 h2 => ?_
  have hk : i + k < vs.length := by simp at h1; omega
  simp [List.getD, List.getElem?_eq_getElem hk]
/-- System.arraycopy between two arrays of one primitive kind -/
theorem Go.acopy {index : Nat} {a b : Addr} {ty : FieldType} {vs vd : List Value} {sp dp nn : Int32} {W : Nat} (i j n : Nat) (pc' : Nat) (hd : decode bytes pc = .ok (.invokestatic index, 3)) (hp : pc + 3 = pc') (w1 : (Jvm.Cond.methodLink own index Jvm.Stand.acN).before a0 Z = true) (w2 : (Jvm.Cond.native Jvm.Stand.acN).before a0 Z = true) (w3 : (Jvm.Cond.static Jvm.Stand.acN).before a0 Z = true) (w4 : (Jvm.Cond.initialized "java/lang/System").before a0 Z = true)
    (A : Ary Z h a ty vs) (B : Ary Z h b ty vd) (hty : refKind ty = false) (hi : sp.toInt = (i : Int)) (hj : dp.toInt = (j : Int)) (hn : nn.toInt = (n : Int)) (h4 : i + n ≤ vs.length) (h5 : j + n ≤ vd.length) (hb' : b ∈ sf) (hn0 : n0 ≤ b) (hsz : L.size = ml) (hf : 1 ≤ R.frames) (hW : (S.map fun v => v.category).sum ≤ W) (hlo : W + (nativeFrameWords "java/lang/System" "arraycopy" 5 + 11) ≤ R.locals)
    (G : ∀ h', Keep h h' [b] → Ary Z h' b ty (vd.take j ++ (vs.drop i).take n ++ vd.drop (j + n)) → Go md l Z n0 R bytes ml ret own mn Ψ cells slots sf h' pc' L S) : Go md l Z n0 R bytes ml ret own mn Ψ cells slots sf h pc L (.int nn :: .int dp :: .ref b :: .int sp :: .ref a :: S) := by
  subst hp
  intro p e s m args below meth c vm0 T locs hx hby hml hr hlk hnm ho X eT hZ B0 N
  obtain ⟨i1, i2⟩ := clamp_of hi
  obtain ⟨j1, j2⟩ := clamp_of hj
  obtain ⟨n1, n2⟩ := clamp_of hn
  have la : vs.length < 2147483648 := by obtain ⟨_, _, _, q, _⟩ := A; exact q
  have lb : vd.length < 2147483648 := by obtain ⟨_, _, _, q, _⟩ := B; exact q
  obtain ⟨ka, KA⟩ := A.arv (.int 0)
  obtain ⟨kb, KB⟩ := B.arv (.int 0)
  have za := (clamp_of (ofNat_toInt la)).2
  have zb := (clamp_of (ofNat_toInt lb)).2
  obtain ⟨T', h', L', X', e', N', K, B', st⟩ := cpA X hx hZ (by rw [show (s.setVm vm0).vm = vm0 from rfl, hZ.alike.findClass]; exact ho) w1 w2 w3 w4 eT (us := (vs.drop i).take n) KA KB (Or.inl ⟨rfl, hty⟩) i1 j1 n1 (by rw [i2, n2, za]; exact h4) (by rw [j2, n2, zb]; exact h5) (by rw [i2, n2]; exact (range_take h4).symm) (by rw [j2, n2]; exact h5) N hn0 (g := mkF m pc L (.int nn :: .int dp :: .ref b :: .int sp :: .ref a :: S)) rfl (hsz.trans hml.symm) rfl (hb hby hd) hf (W := W) (by simpa using hW) hlo
  rw [j2, n2] at B'
  have lz : (vd.take j ++ (vs.drop i).take n ++ vd.drop (j + n)).length = vd.length := by simp; omega
  obtain ⟨s₂, o, h1, r⟩ := G h' K (Ary.ofArv B' (by rw [zb, lz]) (by rw [lz]; exact lb)) p e s m args below meth c vm0 T' L' hx hby hml hr hlk hnm ho X' e' hZ (B0.keep K (sub1 hb') (fun y hy => by cases List.mem_singleton.mp hy; exact hn0)) N'
  exact ⟨s₂, o, st _ h1, r⟩
/-- one place of an array known -/
def At1 (Z : State) (h : Heap) (a : Addr) (ty : FieldType) (i : Nat) (v : Value) : Prop := ∃ c : Cell, Arr Z h a c ty ∧ c.slots[i]? = some v
theorem At1.ext {a : Addr} {ty : FieldType} {i : Nat} {v : Value} (A : At1 Z h a ty i v) (E : Ext h h') : At1 Z h' a ty i v := by obtain ⟨c, A, r⟩ := A; exact ⟨c, A.ext E, r⟩
theorem Go.laload1 {a : Addr} {j : Int32} (i : Nat) {v : Value} (pc' : Nat) (hd : decode bytes pc = .ok (.laload, 1)) (hp : pc + 1 = pc') (A : At1 Z h a .long i v) (hj : j.toInt = (i : Int)) (G : Go md l Z n0 R bytes ml ret own mn Ψ cells slots sf h pc' L (v :: S)) :
    Go md l Z n0 R bytes ml ret own mn Ψ cells slots sf h pc L (.int j :: .ref a :: S) := by
  subst hp
  obtain ⟨c0, A, e1⟩ := A
  obtain ⟨q1, q2⟩ := clamp_of hj
  have hi := (Array.getElem?_eq_some_iff.mp e1).1
  exact Go.warm _ (fun p e s m args below meth c T locs hx hby hml hZ hown X eT => ⟨T, X, eT, fun target k => X.laload hx (by rw [eT]; exact A.1) (State.isArrayOf_alike hZ.alike A.2.1) A.2.2 (by rw [q2]; rintro (z | z); exact q1 z; omega) (by rw [q2]; exact e1) (g := mkF m pc L (.int j :: .ref a :: S)) rfl rfl (hb hby hd) target k⟩) G
/-! arrays of references, longs stored, switches -/
/-- the array at a is one over the class C -/
def Ova (Z : State) (h : Heap) (a : Addr) (C : String) : Prop := ∃ c : Cell, h[a]? = some c ∧ Ovr Z c.cls C
theorem Ova.ext {a : Addr} {C : String} (O : Ova Z h a C) (E : Ext h h') : Ova Z h' a C := by obtain ⟨c, q, r⟩ := O; exact ⟨c, E.2 _ _ q, r⟩
theorem Ova.wr {a b : Addr} {C : String} {sl : Nat} {v : Value} (O : Ova Z h a C) (W : Wr h h' b sl v) : Ova Z h' a C := by
  obtain ⟨c, q, r⟩ := O
  obtain ⟨c', e1, e2, -⟩ := wr_at W q
  exact ⟨c', e1, by rw [e2]; exact r⟩
theorem Ova.keep {a : Addr} {C : String} {ws : List Addr} (O : Ova Z h a C) (K : Keep h h' ws) : Ova Z h' a C := by
  obtain ⟨c, q, r⟩ := O
  obtain ⟨c', e1, e2, -⟩ := K.2.2 a c q
  exact ⟨c', e1, by rw [e2]; exact r⟩
theorem sto_of {a y : Addr} {ty : FieldType} {C : String} {vs : List Value} (A : Ary Z h a ty vs) (O : Ova Z h a C) (I : Ins Z h y C true) : Sto Z h a (.ref y) := by
  obtain ⟨c, A, -⟩ := A
  obtain ⟨c', q, r⟩ := O
  cases A.1.symm.trans q
  exact Sto.of A r I
theorem Go.newR {C : String} {index : Nat} {n : Int32} (k : Nat) (pc' : Nat) (hd : decode bytes pc = .ok (.anewarray index, 3)) (hp : pc + 3 = pc') (w1 : (Jvm.Cond.classLink own index C).before a0 Z = true) (w2 : (Jvm.Cond.arrayOver (.object C)).before a0 Z = true) (hk : n.toInt = (k : Int)) (cap : Nat) (hcap : k ≤ cap) (hb8 : cap * 8 ≤ 536870912) (hc : cells + 1 ≤ R.cells) (hl : slots + cap ≤ R.slots)
    (G : ∀ h' x, h.size = x → n0 ≤ x → Ext h h' → x < h'.size → Ary Z h' x (.object C) (List.replicate k .null) → Ova Z h' x C → Go md l Z n0 R bytes ml ret own mn Ψ (cells + 1) (slots + cap) (x :: sf) h' pc' L (.ref x :: S)) :
    Go md l Z n0 R bytes ml ret own mn Ψ cells slots sf h pc L (.int n :: S) := by
  subst hp
  obtain ⟨q1, q2⟩ := clamp_of hk
  intro p e s m args below meth c vm0 T locs hx hby hml hr hlk hn ho X eT hZ B N
  obtain ⟨T', h', cA, X', e', E, A, O, st⟩ := Jvm.RoadKit.newR X hx hZ (by rw [show (s.setVm vm0).vm = vm0 from rfl, hZ.alike.findClass]; exact ho) w1 w2 eT (g := mkF m pc L (.int n :: S)) rfl (hb hby hd) rfl q1 (cap := cap) (by rw [q2]; exact hcap) hb8 hc hl
  have A' : Ary Z h' h.size (.object C) (List.replicate k .null) := ⟨_, A, by simp [Jvm.RoadKit.newA, q2, defaultValue], by simp; omega, fun v hv => by
    rw [(List.mem_replicate.mp hv).2]; rfl⟩
  obtain ⟨s₂, o, h1, r⟩ := G h' _ rfl B.n0le E A'.lt A' ⟨_, A.1, O⟩ p e s m args below meth c vm0 T' locs hx hby hml hr hlk hn ho X' e' hZ (B.new E A'.lt (Nat.le_refl _)) N
  exact ⟨s₂, o, st _ h1, r⟩
theorem Go.aastore {a : Addr} {C : String} {vs : List Value} {j : Int32} {v : Value} (i : Nat) (pc' : Nat) (hd : decode bytes pc = .ok (.aastore, 1)) (hp : pc + 1 = pc') (A : Ary Z h a (.object C) vs) (hj : j.toInt = (i : Int)) (hi : i < vs.length) (F : Sto Z h a v) (hf : fits (.object C) v = true) (ha : a ∈ sf) (hn0 : n0 ≤ a)
    (G : ∀ h', Wr h h' a i v → Ary Z h' a (.object C) (vs.set i v) → Go md l Z n0 R bytes ml ret own mn Ψ cells slots sf h' pc' L S) : Go md l Z n0 R bytes ml ret own mn Ψ cells slots sf h pc L (v :: .int j :: .ref a :: S) := by
  subst hp
  obtain ⟨c0, A0, e1, e2, e3⟩ := A
  obtain ⟨-, q2⟩ := clamp_of hj
  exact Go.write _ ha hn0 (sl := i) (fun p e s m args below meth c T locs hx hby hml hnm hZ hown X eT => by rw [← q2]; exact stR X hx hZ eT A0 (Ary.inb (a := a) (ty := .object C) e1 hj hi) rfl F (g := mkF m pc L (v :: .int j :: .ref a :: S)) rfl rfl (hb hby hd)) (fun h' W => G h' W (Ary.set W ⟨c0, A0, e1, e2, e3⟩ hf))
theorem Go.lastore {a : Addr} {vs : List Value} {j : Int32} {x : Int64} (i : Nat) (pc' : Nat) (hd : decode bytes pc = .ok (.lastore, 1)) (hp : pc + 1 = pc') (A : Ary Z h a .long vs) (hj : j.toInt = (i : Int)) (hi : i < vs.length) (ha : a ∈ sf) (hn0 : n0 ≤ a)
    (G : ∀ h', Wr h h' a i (.long x) → Ary Z h' a .long (vs.set i (.long x)) → Go md l Z n0 R bytes ml ret own mn Ψ cells slots sf h' pc' L S) : Go md l Z n0 R bytes ml ret own mn Ψ cells slots sf h pc L (.long x :: .int j :: .ref a :: S) := by
  subst hp
  obtain ⟨c0, A0, e1, e2, e3⟩ := A
  obtain ⟨-, q2⟩ := clamp_of hj
  exact Go.write _ ha hn0 (sl := i) (fun p e s m args below meth c T locs hx hby hml hnm hZ hown X eT => by rw [← q2]; exact stJ X hx hZ eT A0 (Ary.inb (a := a) (ty := .long) e1 hj hi) (g := mkF m pc L (.long x :: .int j :: .ref a :: S)) rfl rfl (hb hby hd)) (fun h' W => G h' W (Ary.set W ⟨c0, A0, e1, e2, e3⟩ rfl))
theorem Go.dup2 {v w : Value} (pc' : Nat) (hd : decode bytes pc = .ok (.dup2, 1)) (hp : pc + 1 = pc') (hv : v.category = 1) (hw : w.category = 1) (G : Go md l Z n0 R bytes ml ret own mn Ψ cells slots sf h pc' L (v :: w :: v :: w :: S)) : Go md l Z n0 R bytes ml ret own mn Ψ cells slots sf h pc L (v :: w :: S) := by
  subst hp; exact Go.pure _ (fun p e below T target m c A hx hby k => Jvm.Free.XT.dup2 A hx rfl (hb hby hd) rfl hv hw k) G
theorem Go.lswY {k : Int32} {default : Int} {pairs : Array (Int × Int)} {len : Nat} {b off : Int} (pc' : Nat) (hd : decode bytes pc = .ok (.lookupswitch default pairs, len)) (hs : (pairs.toList.zip (pairs.toList.drop 1)).all (fun (a, next) => a.1 < next.1) = true) (hf : pairs.find? (·.1 == k.toInt) = some (b, off)) (h0 : 0 ≤ (pc : Int) + off) (hp : ((pc : Int) + off).toNat = pc')
    (G : Go md l Z n0 R bytes ml ret own mn Ψ cells slots sf h pc' L S) : Go md l Z n0 R bytes ml ret own mn Ψ cells slots sf h pc L (.int k :: S) := by
  subst hp
  exact Go.warm _ (fun p e s m args below meth c T locs hx hby hml hZ hown X eT => ⟨T, X, eT, fun target q => X.lookupswitchHit hx (g := mkF m pc L (.int k :: S)) rfl rfl (hb hby hd) hs hf h0 target q⟩) G
theorem Go.lswN {k : Int32} {default : Int} {pairs : Array (Int × Int)} {len : Nat} (pc' : Nat) (hd : decode bytes pc = .ok (.lookupswitch default pairs, len)) (hs : (pairs.toList.zip (pairs.toList.drop 1)).all (fun (a, next) => a.1 < next.1) = true) (hf : pairs.find? (·.1 == k.toInt) = none) (h0 : 0 ≤ (pc : Int) + default) (hp : ((pc : Int) + default).toNat = pc')
    (G : Go md l Z n0 R bytes ml ret own mn Ψ cells slots sf h pc' L S) : Go md l Z n0 R bytes ml ret own mn Ψ cells slots sf h pc L (.int k :: S) := by
  subst hp
  exact Go.warm _ (fun p e s m args below meth c T locs hx hby hml hZ hown X eT => ⟨T, X, eT, fun target q => X.lookupswitchMiss hx (g := mkF m pc L (.int k :: S)) rfl rfl (hb hby hd) hs hf h0 target q⟩) G
theorem Go.tswY {k : Int32} {default low high : Int} {offs : Array Int} {len : Nat} {off : Int} (pc' : Nat) (hd : decode bytes pc = .ok (.tableswitch default low high offs, len)) (hi : ¬ (k.toInt < low ∨ k.toInt > high)) (hf : offs[(k.toInt - low).toNat]? = some off) (h0 : 0 ≤ (pc : Int) + off) (hp : ((pc : Int) + off).toNat = pc')
    (G : Go md l Z n0 R bytes ml ret own mn Ψ cells slots sf h pc' L S) : Go md l Z n0 R bytes ml ret own mn Ψ cells slots sf h pc L (.int k :: S) := by
  subst hp
  exact Go.warm _ (fun p e s m args below meth c T locs hx hby hml hZ hown X eT => ⟨T, X, eT, fun target q => X.tableswitchIn hx (g := mkF m pc L (.int k :: S)) rfl rfl (hb hby hd) hi hf h0 target q⟩) G
theorem Go.getFN {R0 O n d host : String} {index : Nat} {a : Addr} {v : Value} (pc' : Nat) (hd : decode bytes pc = .ok (.getfield index, 3)) (hp : pc + 3 = pc') (w : (Jvm.Cond.fieldLinkNest own index R0 n d host).before a0 Z = true) (via : Via Z R0 O n d) (F : Fld Z h a O n d v) (G : Go md l Z n0 R bytes ml ret own mn Ψ cells slots sf h pc' L (v :: S)) :
    Go md l Z n0 R bytes ml ret own mn Ψ cells slots sf h pc L (.ref a :: S) := by
  subst hp; exact Go.warm _ (fun p e s m args below meth c T locs hx hby hml hZ hown X eT => Jvm.RoadKit.getF X hx hZ hown (Or.inr w) via eT F (g := mkF m pc L (.ref a :: S)) rfl rfl (hb hby hd)) G
/-- without String constants every address may be written that is new -/
theorem Go.sfN (sf' : List Addr) (G : Go none l Z n0 R bytes ml ret own mn Ψ cells slots sf' h pc L S) : Go none l Z n0 R bytes ml ret own mn Ψ cells slots sf h pc L S := by
  intro p e s m args below meth c vm0 T locs hx hby hml hr hlk hn ho X eT hZ B N
  exact G p e s m args below meth c vm0 T locs hx hby hml hr hlk hn ho X eT hZ B N
theorem Go.callP {y : MethodName} {index maxY kc ks W : Nat} {bytesY : ByteArray} {retY : Option FieldType} {C : String} {sfc : List Addr} {Q : Option Value → Heap → List Addr → Prop} {St : List Value} {a : Addr} (pc' : Nat) (argsL : List Value) (hd : decode bytes pc = .ok (.invokevirtual index, 3)) (hp : pc + 3 = pc') (hst : St = argsL.reverse ++ .ref a :: S)
    (wl : (Jvm.Cond.methodLink own index y).before a0 Z = true) (ws : (Jvm.Cond.instanceMethod y).before a0 Z = true) (wse : (Jvm.Cond.selects y.cls y y).before a0 Z = true) (wp : (Jvm.Cond.privateMethod y).before a0 Z = true) (wc : (Jvm.Cond.code y bytesY maxY retY).before a0 Z = true) (hy : y.cls ≠ "java/lang/invoke/MethodHandle" ∧ y.cls ≠ "java/lang/invoke/VarHandle")
    (E : Exa Z h a C) (hC : Call md l Z n0 R y 3 W (.ref a :: argsL).toArray h sfc kc ks Q) (hlen : ∀ sig, parseMethodDescriptor y.desc = some sig → argsL.length = sig.parameters.length) (hW : (S.map fun v => v.category).sum ≤ W) (hsz : L.size = ml) (hc : cells + kc ≤ R.cells) (hs : slots + ks ≤ R.slots) (hsf : ∀ x ∈ sfc, x ∈ sf)
    (G : ∀ v h' sf', Q v h' sf' → Go md l Z n0 R bytes ml ret own mn Ψ (cells + kc) (slots + ks) (sf' ++ sf) h' pc' L (v.toList ++ S)) : Go md l Z n0 R bytes ml ret own mn Ψ cells slots sf h pc L St := by
  subst hp; subst hst
  intro p e s m args below meth c vm0 T locs hx hby hml hr hlk hn ho X eT hZ B N
  have hown : (s.setVm vm0).vm.findClass own = some m.cls := by rw [show (s.setVm vm0).vm = vm0 from rfl, hZ.alike.findClass]; exact ho
  have K := hC p e below s vm0 args hZ (B.sub hsf)
  obtain ⟨cell, g1, g2⟩ := E.cell
  have g1' : T.heap[a]? = some cell := by rw [eT]; exact g1
  cases md with
  | none =>
    obtain ⟨v, vm₁, ⟨U, L1, c1, n1⟩, -, X', ⟨L', sf', q1, q0, q2, q3, q4, q5⟩, st⟩ := X.privateBack hx hown (mvT hZ wl) (mvT hZ ws) (mvT hZ wse) (Cond.privateMethod_at (mvP (args := args) (s := s.setVm vm0) hZ wp)) (mvT hZ wc) hy K (g := mkF m pc L (argsL.reverse ++ .ref a :: S)) rfl (hsz.trans hml.symm) (Steps.refl _) g1' g2 hlen rfl (by simpa using hW) (hb hby hd) (fun _ _ => ⟨rfl, eT, hc, hs⟩)
    dsimp only [Pt.U, Pt.locs, Pt.cells, Pt.slots] at q1 q0 q3 q4 q5 X' st
    subst q3 q4 q5
    obtain ⟨s₂, o, h1, r⟩ := G v U.heap sf' q1 p e s m args below meth c vm0 U _ hx hby hml hr hlk hn ho X' rfl hZ ⟨q0, B.2⟩ (N.app q2)
    exact ⟨s₂, o, st.trans h1, r⟩
  | some EL =>
    obtain ⟨v, vm₁, ⟨U, L1, c1, n1⟩, -, X', hS, hgr, ⟨L', sf', q1, q0, q2, q3, q4, q5, q6, q7⟩, st⟩ := X.privateBackS hx hown (mvT hZ wl) (mvT hZ ws) (mvT hZ wse) (Cond.privateMethod_at (mvP (args := args) (s := s.setVm vm0) hZ wp)) (mvT hZ wc) hy K (g := mkF m pc L (argsL.reverse ++ .ref a :: S)) rfl (hsz.trans hml.symm) (Steps.refl _) g1' g2 hlen rfl (by simpa using hW) (hb hby hd) (fun _ _ => ⟨rfl, eT, hc, hs⟩)
    dsimp only [Pt.U, Pt.locs, Pt.cells, Pt.slots] at q1 q0 q3 q4 q5 q6 q7 X' st hS hgr
    subst q3 q4 q5
    obtain ⟨s₂, o, h1, r⟩ := G v U.heap sf' q1 p e s m args below meth c U.vm U _ hx hby hml hr hlk hn ho X' rfl (State.Warmed39.trans (t := s.setVm vm0) hZ hS.1) (B.called hS q0 q6 q7) (N.app q2)
    exact ⟨s₂, o, st.trans h1, r⟩
theorem Go.ldcWI {index : Nat} {v : Int32} (pc' : Nat) (hd : decode bytes pc = .ok (.ldc_w index, 3)) (hp : pc + 3 = pc') (w : (Jvm.Cond.constant own index v).before a0 Z = true) (G : Go md l Z n0 R bytes ml ret own mn Ψ cells slots sf h pc' L (.int v :: S)) : Go md l Z n0 R bytes ml ret own mn Ψ cells slots sf h pc L S := by
  subst hp; exact Go.warm _ (fun p e s m args below meth c T locs hx hby hml hZ hown X eT => ⟨T, X, eT, fun target k => X.ldcWI (g := mkF m pc L S) hx hown (mvT hZ w) rfl (hb hby hd) k⟩) G
/-- ldc of a String constant of which nothing is asked -/
theorem Go.ldcO {EL : List (String × Nat)} {index : Nat} {text : String} (n : Nat) (pc' : Nat) (hd : decode bytes pc = .ok (.ldc index, 2)) (hp : pc + 2 = pc') (w : (Jvm.Cond.stringLink own index text).before a0 Z = true) (wS : ∀ a ∈ Bundle.stringAtoms, a.before a0 Z = true) (hn : 4 * text.toList.length ≤ n) (hbig : n ≤ 536870912) (hc : cells + 2 ≤ R.cells) (hl' : slots + (n + 4) ≤ R.slots)
    (G : ∀ h' a, Ext h h' → Go (some EL) l Z n0 R bytes ml ret own mn Ψ (cells + 2) (slots + (n + 4)) sf h' pc' L (.ref a :: S)) : Go (some EL) l Z n0 R bytes ml ret own mn Ψ cells slots sf h pc L S := by
  subst hp
  intro p e s m args below meth c vm0 T locs hx hby hml hr hlk hnm ho X eT hZ B N
  obtain ⟨b0, ⟨k0, b1, b2⟩, ⟨a1, b3⟩, b4, b5⟩ := B
  have hown : vm0.findClass own = some m.cls := by rw [hZ.alike.findClass]; exact ho
  obtain ⟨a, T', h', k1, X', e', E, hS, hk1, hZ', hown', C, -, st⟩ := ldcOH X hx hZ hown w wS eT b1 b2 b3 b4.1 (g := mkF m pc L S) rfl (hb hby hd) hn hbig hc hl'
  obtain ⟨s₂, o, h1, r⟩ := G h' a E p e s m args below meth c T'.vm T' locs hx hby hml hr hlk hnm ho X' e' hZ' ⟨b0.ext E, ⟨k1, hS, hk1⟩, ⟨a1, b3⟩, b4.trans C, fun x hx => ⟨Nat.lt_of_lt_of_le (b5 x hx).1 C.2.1, C.safe (b5 x hx).1 (b5 x hx).2⟩⟩ N
  exact ⟨s₂, o, st _ h1, r⟩
/-- newarray: the array's class by its name too -/
theorem Go.newE {aty : ArrayType} {n : Int32} {ty : FieldType} {C : String} (k : Nat) (pc' : Nat) (hd : decode bytes pc = .ok (.newarray aty, 2)) (hp : pc + 2 = pc') (hty : newarray.typeOf aty = ty) (hC : "[" ++ ty.toString = C) (w : (Jvm.Cond.arrayClass ty).before a0 Z = true) (hk : n.toInt = (k : Int)) (cap : Nat) (hcap : k ≤ cap) (hb8 : cap * 8 ≤ 536870912) (hc : cells + 1 ≤ R.cells) (hl : slots + cap ≤ R.slots)
    (G : ∀ h' x, h.size = x → n0 ≤ x → Ext h h' → x < h'.size → Ary Z h' x ty (List.replicate k (defaultValue ty)) → Exa Z h' x C → Go md l Z n0 R bytes ml ret own mn Ψ (cells + 1) (slots + cap) (x :: sf) h' pc' L (.ref x :: S)) :
    Go md l Z n0 R bytes ml ret own mn Ψ cells slots sf h pc L (.int n :: S) := by
  subst hp; subst hty; subst hC
  obtain ⟨q1, q2⟩ := clamp_of hk
  intro p e s m args below meth c vm0 T locs hx hby hml hr hlk hn ho X eT hZ B N
  obtain ⟨T', h', cA, X', e', E, A, EX, st⟩ := newPE X hx hZ w eT (g := mkF m pc L (.int n :: S)) rfl (hb hby hd) rfl q1 (cap := cap) (by rw [q2]; exact hcap) hb8 hc hl rfl
  have A' : Ary Z h' h.size (newarray.typeOf aty) (List.replicate k (defaultValue (newarray.typeOf aty))) := ⟨_, A, by simp [Jvm.RoadKit.newA, q2], by simp; omega, fun v hv => by
    rw [(List.mem_replicate.mp hv).2]; cases aty <;> rfl⟩
  obtain ⟨s₂, o, h1, r⟩ := G h' _ rfl B.n0le E A'.lt A' EX p e s m args below meth c vm0 T' locs hx hby hml hr hlk hn ho X' e' hZ (B.new E A'.lt (Nat.le_refl _)) N
  exact ⟨s₂, o, st _ h1, r⟩
/-- a virtual call whose name stands under the entry's class by inheritance (W-mode) -/
theorem Go.callU {EL : List (String × Nat)} {y z : MethodName} {index kc ks W : Nat} {C owner : String} {sfc : List Addr} {Q : Option Value → Heap → List Addr → Prop} {St : List Value} {a : Addr} (pc' : Nat) (argsL : List Value) (hd : decode bytes pc = .ok (.invokevirtual index, 3)) (hp : pc + 3 = pc') (hst : St = argsL.reverse ++ .ref a :: S)
    (wl : (Jvm.Cond.methodLink own index y).before a0 Z = true) (wsm : (Jvm.Cond.sameMethod y.cls owner y.name y.desc).before a0 Z = true) (wd : (Jvm.Cond.declares ⟨owner, y.name, y.desc⟩).before a0 Z = true) (wse : (Jvm.Cond.selects C y z).before a0 Z = true) (ws : (Jvm.Cond.instanceMethod z).before a0 Z = true) (hy : owner ≠ "java/lang/invoke/MethodHandle" ∧ owner ≠ "java/lang/invoke/VarHandle")
    (E : Exa Z h a C) (hC : Call (some EL) l Z n0 R z 3 W (.ref a :: argsL).toArray h sfc kc ks Q) (hlen : ∀ sig, parseMethodDescriptor y.desc = some sig → argsL.length = sig.parameters.length) (hW : (S.map fun v => v.category).sum ≤ W) (hsz : L.size = ml) (hc : cells + kc ≤ R.cells) (hs : slots + ks ≤ R.slots) (hsf : ∀ x ∈ sfc, x ∈ sf)
    (G : ∀ v h' sf', Q v h' sf' → Go (some EL) l Z n0 R bytes ml ret own mn Ψ (cells + kc) (slots + ks) (sf' ++ sf) h' pc' L (v.toList ++ S)) : Go (some EL) l Z n0 R bytes ml ret own mn Ψ cells slots sf h pc L St := by
  subst hp; subst hst
  intro p e s m args below meth c vm0 T locs hx hby hml hr hlk hn ho X eT hZ B N
  have hown : (s.setVm vm0).vm.findClass own = some m.cls := by rw [show (s.setVm vm0).vm = vm0 from rfl, hZ.alike.findClass]; exact ho
  have K := hC p e below s vm0 args hZ (B.sub hsf)
  obtain ⟨cB, kB, i1, -, i3⟩ := isOf (s := s.setVm vm0) hZ eT E
  obtain ⟨v, vm₁, ⟨U, L1, c1, n1⟩, -, X', hS, hgr, ⟨L', sf', q1, q0, q2, q3, q4, q5, q6, q7⟩, st⟩ := X.virtualBackUpS hx hown (mvT hZ wl) (mvT hZ wsm) (mvT hZ wd) hy (mvT hZ wse) (mvT hZ ws) K i1 i3 (g := mkF m pc L (argsL.reverse ++ .ref a :: S)) rfl (hsz.trans hml.symm) (Steps.refl _) hlen rfl (by simpa using hW) (hb hby hd) (fun _ _ => ⟨rfl, eT, hc, hs⟩)
  dsimp only [Pt.U, Pt.locs, Pt.cells, Pt.slots] at q1 q0 q3 q4 q5 q6 q7 X' st hS hgr
  subst q3 q4 q5
  obtain ⟨s₂, o, h1, r⟩ := G v U.heap sf' q1 p e s m args below meth c U.vm U _ hx hby hml hr hlk hn ho X' rfl (State.Warmed39.trans (t := s.setVm vm0) hZ hS.1) (B.called hS q0 q6 q7) (N.app q2)
  exact ⟨s₂, o, st.trans h1, r⟩
theorem Go.aaload1 {a : Addr} {j : Int32} {ty : FieldType} (i : Nat) {v : Value} (pc' : Nat) (hd : decode bytes pc = .ok (.aaload, 1)) (hp : pc + 1 = pc') (hty : ty.isReference = true) (A : At1 Z h a ty i v) (hj : j.toInt = (i : Int)) (G : Go md l Z n0 R bytes ml ret own mn Ψ cells slots sf h pc' L (v :: S)) :
    Go md l Z n0 R bytes ml ret own mn Ψ cells slots sf h pc L (.int j :: .ref a :: S) := by
  subst hp
  obtain ⟨c0, A, e1⟩ := A
  obtain ⟨q1, q2⟩ := clamp_of hj
  have hi := (Array.getElem?_eq_some_iff.mp e1).1
  exact Go.warm _ (fun p e s m args below meth c T locs hx hby hml hZ hown X eT => ⟨T, X, eT, fun target k => X.aaload hx (by rw [eT]; exact A.1) (State.isArrayOf_alike hZ.alike A.2.1) hty A.2.2 (by rw [q2]; rintro (z | z); exact q1 z; omega) (by rw [q2]; exact e1) (g := mkF m pc L (.int j :: .ref a :: S)) rfl rfl (hb hby hd) target k⟩) G
theorem cls_of_selects {C : String} {y : MethodName} (w : (Jvm.Cond.selects C y y).before a0 Z = true) : ∃ (c : ClassId) (k : Class), Z.vm.findClass y.cls = some c ∧ Z.vm.classes[c]? = some k ∧ k.isInterface = false := by
  obtain ⟨c2, r2, m2, q1, q2, q3, q4, kP, hkP, hkPi⟩ := Cond.selects_spec w
  exact ⟨_, kP, findClass_of_methodNamed q3, hkP, hkPi⟩
theorem same_self {y : MethodName} {c : ClassId} {k : Class} {mk : MethodId} (hc : Z.vm.findClass y.cls = some c) (hk : Z.vm.classes[c]? = some k) (hni : k.isInterface = false) (hn : Z.methodNamed? y = some mk) (hy : y.cls ≠ "java/lang/invoke/MethodHandle" ∧ y.cls ≠ "java/lang/invoke/VarHandle") : (Jvm.Cond.sameMethod y.cls y.cls y.name y.desc).before a0 Z = true := by
  have hf := State.methodFound?_of_named hn hy
  simp only [Cond.before, Cond.holds, Cond.value, hc, hf, hk]
  simp [hn, hni, hk]
/-- a private method by invokevirtual, the object of a subclass (W-mode) -/
theorem Go.callQ {EL : List (String × Nat)} {y : MethodName} {index maxY kc ks W : Nat} {bytesY : ByteArray} {retY : Option FieldType} {C D : String} {sfc : List Addr} {Q : Option Value → Heap → List Addr → Prop} {St : List Value} {a : Addr} (pc' : Nat) (argsL : List Value) (hd : decode bytes pc = .ok (.invokevirtual index, 3)) (hp : pc + 3 = pc') (hst : St = argsL.reverse ++ .ref a :: S)
    (wl : (Jvm.Cond.methodLink own index y).before a0 Z = true) (ws : (Jvm.Cond.instanceMethod y).before a0 Z = true) (wse : (Jvm.Cond.selects D y y).before a0 Z = true) (wp : (Jvm.Cond.privateMethod y).before a0 Z = true) (wc : (Jvm.Cond.code y bytesY maxY retY).before a0 Z = true) (hy : y.cls ≠ "java/lang/invoke/MethodHandle" ∧ y.cls ≠ "java/lang/invoke/VarHandle")
    (E : Exa Z h a C) (hC : Call (some EL) l Z n0 R y 3 W (.ref a :: argsL).toArray h sfc kc ks Q) (hlen : ∀ sig, parseMethodDescriptor y.desc = some sig → argsL.length = sig.parameters.length) (hW : (S.map fun v => v.category).sum ≤ W) (hsz : L.size = ml) (hc : cells + kc ≤ R.cells) (hs : slots + ks ≤ R.slots) (hsf : ∀ x ∈ sfc, x ∈ sf)
    (G : ∀ v h' sf', Q v h' sf' → Go (some EL) l Z n0 R bytes ml ret own mn Ψ (cells + kc) (slots + ks) (sf' ++ sf) h' pc' L (v.toList ++ S)) : Go (some EL) l Z n0 R bytes ml ret own mn Ψ cells slots sf h pc L St := by
  subst hp; subst hst
  intro p e s m args below meth c vm0 T locs hx hby hml hr hlk hn ho X eT hZ B N
  have hown : (s.setVm vm0).vm.findClass own = some m.cls := by rw [show (s.setVm vm0).vm = vm0 from rfl, hZ.alike.findClass]; exact ho
  have K := hC p e below s vm0 args hZ (B.sub hsf)
  obtain ⟨cell, g1, g2⟩ := E.cell
  have g1' : T.heap[a]? = some cell := by rw [eT]; exact g1
  obtain ⟨cc, kk, u1, u2, u3⟩ := cls_of_selects (Z := s.setVm vm0) (a0 := args) (mvT hZ wse)
  have hp' := Cond.privateMethod_at (mvP (args := args) (s := s.setVm vm0) hZ wp)
  obtain ⟨v, vm₁, ⟨U, L1, c1, n1⟩, -, X', hS, hgr, ⟨L', sf', q1, q0, q2, q3, q4, q5, q6, q7⟩, st⟩ := X.privateBackS hx hown (mvT hZ wl) (mvT hZ ws) (selects_self_of_private u1 u2 u3 hp' (mvT hZ ws) hy) hp' (mvT hZ wc) hy K (g := mkF m pc L (argsL.reverse ++ .ref a :: S)) rfl (hsz.trans hml.symm) (Steps.refl _) g1' g2 hlen rfl (by simpa using hW) (hb hby hd) (fun _ _ => ⟨rfl, eT, hc, hs⟩)
  dsimp only [Pt.U, Pt.locs, Pt.cells, Pt.slots] at q1 q0 q3 q4 q5 q6 q7 X' st hS hgr
  subst q3 q4 q5
  obtain ⟨s₂, o, h1, r⟩ := G v U.heap sf' q1 p e s m args below meth c U.vm U _ hx hby hml hr hlk hn ho X' rfl (State.Warmed39.trans (t := s.setVm vm0) hZ hS.1) (B.called hS q0 q6 q7) (N.app q2)
  exact ⟨s₂, o, st.trans h1, r⟩
/-- a super call (W-mode) -/
theorem Go.callSup {EL : List (String × Nat)} {y z : MethodName} {index maxY kc ks W : Nat} {bytesY : ByteArray} {retY : Option FieldType} {C D : String} {sfc : List Addr} {Q : Option Value → Heap → List Addr → Prop} {St : List Value} {a : Addr} (pc' : Nat) (argsL : List Value) (hd : decode bytes pc = .ok (.invokespecial index, 3)) (hp : pc + 3 = pc') (hst : St = argsL.reverse ++ .ref a :: S)
    (wl : (Jvm.Cond.methodLink own index y).before a0 Z = true) (ws : (Jvm.Cond.instanceMethod y).before a0 Z = true) (wse : (Jvm.Cond.selects D z z).before a0 Z = true) (hzy : z.cls = y.cls) (wsu : (Jvm.Cond.superclass own y.cls).before a0 Z = true) (hni : y.name ≠ "<init>") (wc : (Jvm.Cond.code y bytesY maxY retY).before a0 Z = true) (hy : y.cls ≠ "java/lang/invoke/MethodHandle" ∧ y.cls ≠ "java/lang/invoke/VarHandle")
    (E : Exa Z h a C) (hC : Call (some EL) l Z n0 R y 3 W (.ref a :: argsL).toArray h sfc kc ks Q) (hlen : ∀ sig, parseMethodDescriptor y.desc = some sig → argsL.length = sig.parameters.length) (hW : (S.map fun v => v.category).sum ≤ W) (hsz : L.size = ml) (hc : cells + kc ≤ R.cells) (hs : slots + ks ≤ R.slots) (hsf : ∀ x ∈ sfc, x ∈ sf)
    (G : ∀ v h' sf', Q v h' sf' → Go (some EL) l Z n0 R bytes ml ret own mn Ψ (cells + kc) (slots + ks) (sf' ++ sf) h' pc' L (v.toList ++ S)) : Go (some EL) l Z n0 R bytes ml ret own mn Ψ cells slots sf h pc L St := by
  subst hp; subst hst
  intro p e s m args below meth c vm0 T locs hx hby hml hr hlk hn ho X eT hZ B N
  have hown : (s.setVm vm0).vm.findClass own = some m.cls := by rw [show (s.setVm vm0).vm = vm0 from rfl, hZ.alike.findClass]; exact ho
  have K := hC p e below s vm0 args hZ (B.sub hsf)
  obtain ⟨cc, kk, u1, u2, u3⟩ := cls_of_selects wse
  rw [hzy] at u1
  obtain ⟨mk, methM, hnamed, hmethM, hstM, habM⟩ := Cond.instanceMethod_spec ws
  obtain ⟨v, vm₁, ⟨U, L1, c1, n1⟩, -, X', hS, hgr, ⟨L', sf', q1, q0, q2, q3, q4, q5, q6, q7⟩, st⟩ := superBackS X hx hZ hown wl (same_self u1 u2 u3 hnamed hy) ws wsu hni K eT (Ins.self E) (g := mkF m pc L (argsL.reverse ++ .ref a :: S)) rfl (hsz.trans hml.symm) wc hlen rfl (by simpa using hW) (hb hby hd) (fun _ _ => ⟨rfl, eT, hc, hs⟩)
  dsimp only [Pt.U, Pt.locs, Pt.cells, Pt.slots] at q1 q0 q3 q4 q5 q6 q7 X' st hS hgr
  subst q3 q4 q5
  obtain ⟨s₂, o, h1, r⟩ := G v U.heap sf' q1 p e s m args below meth c U.vm U _ hx hby hml hr hlk hn ho X' rfl (State.Warmed39.trans (t := s.setVm vm0) hZ hS.1) (B.called hS q0 q6 q7) (N.app q2)
  exact ⟨s₂, o, st.trans h1, r⟩
/-- an interface call (W-mode) -/
theorem Go.callI {EL : List (String × Nat)} {y z : MethodName} {index count kc ks W : Nat} {C : String} {sfc : List Addr} {Q : Option Value → Heap → List Addr → Prop} {St : List Value} {a : Addr} (pc' : Nat) (argsL : List Value) (hd : decode bytes pc = .ok (.invokeinterface index count, 5)) (hp : pc + 5 = pc') (hst : St = argsL.reverse ++ .ref a :: S)
    (wl : (Jvm.Cond.methodLink own index y).before a0 Z = true) (wd : (Jvm.Cond.declares y).before a0 Z = true) (wf : (Jvm.Cond.interfaceMethod y.cls y.cls y.name y.desc).before a0 Z = true) (wse : (Jvm.Cond.selects C y z).before a0 Z = true) (ws : (Jvm.Cond.instanceMethod z).before a0 Z = true) (wpb : (Jvm.Cond.publicMethod z).before a0 Z = true) (wu : (Jvm.Cond.unhidden C y.name y.desc).before a0 Z = true) (wca : (Jvm.Cond.castable C y.cls).before a0 Z = true) (hy : y.cls ≠ "java/lang/invoke/MethodHandle" ∧ y.cls ≠ "java/lang/invoke/VarHandle")
    (E : Exa Z h a C) (hC : Call (some EL) l Z n0 R z 5 W (.ref a :: argsL).toArray h sfc kc ks Q) (hlen : ∀ sig, parseMethodDescriptor y.desc = some sig → argsL.length = sig.parameters.length) (hW : (S.map fun v => v.category).sum ≤ W) (hsz : L.size = ml) (hc : cells + kc ≤ R.cells) (hs : slots + ks ≤ R.slots) (hsf : ∀ x ∈ sfc, x ∈ sf)
    (G : ∀ v h' sf', Q v h' sf' → Go (some EL) l Z n0 R bytes ml ret own mn Ψ (cells + kc) (slots + ks) (sf' ++ sf) h' pc' L (v.toList ++ S)) : Go (some EL) l Z n0 R bytes ml ret own mn Ψ cells slots sf h pc L St := by
  subst hp; subst hst
  intro p e s m args below meth c vm0 T locs hx hby hml hr hlk hn ho X eT hZ B N
  have hown : (s.setVm vm0).vm.findClass own = some m.cls := by rw [show (s.setVm vm0).vm = vm0 from rfl, hZ.alike.findClass]; exact ho
  have K := hC p e below s vm0 args hZ (B.sub hsf)
  obtain ⟨cB, kB, i1, i2, i3⟩ := isOf (s := s.setVm vm0) hZ eT E
  obtain ⟨v, vm₁, ⟨U, L1, c1, n1⟩, -, X', hS, hgr, ⟨L', sf', q1, q0, q2, q3, q4, q5, q6, q7⟩, st⟩ := X.interfaceBackS hx hown (mvT hZ wl) (mvT hZ wd) (mvT hZ wf (by simp [Cond.onTables, Cond.keepsFace, Cond.keeps, Cond.steady, Cond.faceAtom, hy.1, hy.2])) (mvT hZ wse) (mvT hZ ws) (mvT hZ wpb) (mvT hZ wu) (mvT hZ wca) hy K i1 i2 i3 (g := mkF m pc L (argsL.reverse ++ .ref a :: S)) rfl (hsz.trans hml.symm) (Steps.refl _) hlen rfl (by simpa using hW) (hb hby hd) (fun _ _ => ⟨rfl, eT, hc, hs⟩)
  dsimp only [Pt.U, Pt.locs, Pt.cells, Pt.slots] at q1 q0 q3 q4 q5 q6 q7 X' st hS hgr
  subst q3 q4 q5
  obtain ⟨s₂, o, h1, r⟩ := G v U.heap sf' q1 p e s m args below meth c U.vm U _ hx hby hml hr hlk hn ho X' rfl (State.Warmed39.trans (t := s.setVm vm0) hZ hS.1) (B.called hS q0 q6 q7) (N.app q2)
  exact ⟨s₂, o, st.trans h1, r⟩
/-- clone of an array -/
theorem Go.clone {index : Nat} {a : Addr} {ad : String} {ty : FieldType} {vs : List Value} {W : Nat} (pc' : Nat) (hd : decode bytes pc = .ok (.invokevirtual index, 3)) (hp : pc + 3 = pc') (w1 : (Jvm.Cond.methodLink own index ⟨ad, "clone", "()Ljava/lang/Object;"⟩).before a0 Z = true) (w2 : (Jvm.Cond.sameMethod ad "java/lang/Object" "clone" "()Ljava/lang/Object;").before a0 Z = true) (w3 : (Jvm.Cond.native ⟨"java/lang/Object", "clone", "()Ljava/lang/Object;"⟩).before a0 Z = true)
    (w4 : (Jvm.Cond.instanceMethod ⟨"java/lang/Object", "clone", "()Ljava/lang/Object;"⟩).before a0 Z = true) (w5 : (Jvm.Cond.selects ad ⟨ad, "clone", "()Ljava/lang/Object;"⟩ ⟨"java/lang/Object", "clone", "()Ljava/lang/Object;"⟩).before a0 Z = true) (w6 : (Jvm.Cond.castable ad "java/lang/Cloneable").before a0 Z = true)
    (A : Ary Z h a ty vs) (EX : Exa Z h a ad) (cap : Nat) (hcap : vs.length ≤ cap) (hsz : L.size = ml) (hf : 1 ≤ R.frames) (hW : (S.map fun v => v.category).sum ≤ W) (hlo : W + 14 ≤ R.locals) (hc : cells + 1 ≤ R.cells) (hl : slots + cap ≤ R.slots)
    (G : ∀ h' x, h.size = x → n0 ≤ x → Ext h h' → x < h'.size → Ary Z h' x ty vs → Exa Z h' x ad → Go md l Z n0 R bytes ml ret own mn Ψ (cells + 1) (slots + cap) (x :: sf) h' pc' L (.ref x :: S)) :
    Go md l Z n0 R bytes ml ret own mn Ψ cells slots sf h pc L (.ref a :: S) := by
  subst hp
  intro p e s m args below meth c vm0 T locs hx hby hml hr hlk hn ho X eT hZ B N
  have hown : (s.setVm vm0).vm.findClass own = some m.cls := by rw [show (s.setVm vm0).vm = vm0 from rfl, hZ.alike.findClass]; exact ho
  obtain ⟨c0, A0, e1, e2, e3⟩ := A
  have FC : FitC Z c0 := fitC_of A0 fun i hi v hv => e3 v (by rw [← e1]; exact Array.mem_toList_iff.mpr (Array.mem_of_getElem? hv))
  obtain ⟨T', h', X', e', E, A', EX', st⟩ := cloneA X hx hZ hown w1 w2 w3 w4 w5 w6 eT A0 EX FC (g := mkF m pc L (.ref a :: S)) rfl (hsz.trans hml.symm) rfl (hb hby hd) hf (W := W) (cap := cap) (by simpa using hW) hlo (by rw [← Array.length_toList, e1]; exact hcap) hc hl
  have A'' : Ary Z h' h.size ty vs := ⟨_, A', e1, e2, e3⟩
  obtain ⟨s₂, o, h1, r⟩ := G h' _ rfl B.n0le E A''.lt A'' EX' p e s m args below meth c vm0 T' locs hx hby hml hr hlk hn ho X' e' hZ (B.new E A''.lt (Nat.le_refl _)) N
  exact ⟨s₂, o, st _ h1, r⟩
theorem notFace_obj {args : Array Value} {s : State} {y : MethodName} (w : (Jvm.Cond.noSuperclass y.cls).before args s = true) : NotFace s y := fun r0 h0 => by
  obtain ⟨c, k, g1, g2, -, -, g5⟩ := Cond.noSuperclass_spec w
  cases g1.symm.trans (findClass_of_methodNamed h0)
  exact ⟨k, g2, g5⟩
theorem notFace_cls {args : Array Value} {s : State} {D : String} {y z : MethodName} (w : (Jvm.Cond.selects D z z).before args s = true) (e : z.cls = y.cls) : NotFace s y := fun r0 h0 => by
  obtain ⟨c, k, u1, u2, u3⟩ := cls_of_selects w
  rw [e] at u1
  cases u1.symm.trans (findClass_of_methodNamed h0)
  exact ⟨k, u2, u3⟩
end G
end GK
end Jvm.Pilot.@@N@@
/- laws to paste: Road.backV, Road.lenW, Road.chN, Road.eqW, Road.codOf (cut by pick.py; bodies as the Statement names them) -/
namespace Jvm.Pilot.@@N@@
namespace StrChars
open Jvm Sem ClassFile Op Lib Jvm.Stand Jvm.Free.XT Jvm.Free.ALB Jvm.Free.JM Jvm.Free
open Jvm.Lib.Cold (StaticIs)
/-- a char array whose places are chars -/
def Ch (a : Addr) (A : Cell) (U : State) : Prop := Arr .char a A U ∧ Typed .char A
theorem Ch.mv {a : Addr} {A : Cell} {U U' : State} (h : Ch a A U) (hal : U.vm.Alike U'.vm) (hh : U'.heap = U.heap) : Ch a A U' := ⟨h.1.mv hal hh, h.2⟩
theorem Ch.keep {a : Addr} {A : Cell} {U U' : State} (h : Ch a A U) (hal : U.vm.Alike U'.vm) (hk : U'.heap[a]? = some A) : Ch a A U' := ⟨h.1.keep hal hk, h.2⟩
/-- what place i of a char[]'s cell holds -/
def cv (A : Cell) (i : Nat) : Int32 := match A.slots[i]? with | some (.int x) => x | _ => 0
theorem Ch.get {a : Addr} {A : Cell} {U : State} (h : Ch a A U) {i : Nat} (hi : i < A.slots.size) : A.slots[i]? = some (.int (cv A i)) := by
  have e := Array.getElem?_eq_getElem hi
  have f := h.2 i _ e
  unfold cv; rw [e]
  generalize A.slots[i] = v at f
  cases v <;> simp [fits] at f ⊢
/-- the byte that i2b leaves of a char -/
def lo8 (x : Int32) : Int32 := x.toInt8.toInt32
theorem fits_lo8 (y : Int32) : fits .byte (.int (lo8 y)) = true := by
  have h1 := y.toInt8.le_toInt
  have h2 := y.toInt8.toInt_lt
  simp only [lo8, fits, Bool.and_eq_true, decide_eq_true_eq, Int32.le_iff_toInt_le, Int8.toInt_toInt32, show (-128 : Int32).toInt = -128 from by decide, show (127 : Int32).toInt = 127 from by decide]
  omega
/-- A' is A but that each place j of lo .. hi - 1 holds f j -/
def Laid (A A' : Cell) (lo hi : Nat) (f : Nat → Value) : Prop := A'.cls = A.cls ∧ A'.vm = A.vm ∧ A'.slots.size = A.slots.size ∧ ∀ i, A'.slots[i]? = if lo ≤ i ∧ i < hi then some (f i) else A.slots[i]?
theorem Laid.zero (A : Cell) (lo : Nat) (f : Nat → Value) : Laid A A lo (lo + 0) f := ⟨rfl, rfl, rfl, fun i => by rw [if_neg (by omega)]⟩
theorem Laid.step {A Ak : Cell} {lo k : Nat} {f : Nat → Value} {v : Value} (h : Laid A Ak lo k f) (hlo : lo ≤ k) (hk : k < Ak.slots.size) (hv : v = f k) : Laid A (Ak.setSlot k v) lo (k + 1) f := by
  refine ⟨h.1, h.2.1, by simpa [Cell.setSlot] using h.2.2.1, fun i => ?_⟩
  by_cases e : k = i
  · subst e; rw [Cell.slots_setSlot_self v hk, if_pos (by omega), hv]
  · rw [Cell.slots_setSlot_ne v e, h.2.2.2 i]
    by_cases q : lo ≤ i ∧ i < k
    · rw [if_pos q, if_pos (by omega)]
    · rw [if_neg q, if_neg (by omega)]
def U16 : String := "java/lang/StringUTF16"
namespace Cmp5
def yN : MethodName := ⟨"java/lang/StringUTF16", "compress", "([CI[BII)I"⟩
abbrev yB : ByteArray := jdk_52_method_21_code
theorem d0 : decode yB 0 = .ok (.iconst 0, 1) := by decide +kernel
theorem d1 : decode yB 1 = .ok (.istore 5, 2) := by decide +kernel
theorem d3 : decode yB 3 = .ok (.iload 5, 2) := by decide +kernel
theorem d5 : decode yB 5 = .ok (.iload 4, 2) := by decide +kernel
theorem d7 : decode yB 7 = .ok (.if_icmp (.ge) 37, 3) := by decide +kernel
theorem d10 : decode yB 10 = .ok (.aload_n 0, 1) := by decide +kernel
theorem d11 : decode yB 11 = .ok (.iload_n 1, 1) := by decide +kernel
theorem d12 : decode yB 12 = .ok (.caload, 1) := by decide +kernel
theorem d13 : decode yB 13 = .ok (.istore 6, 2) := by decide +kernel
theorem d15 : decode yB 15 = .ok (.iload 6, 2) := by decide +kernel
theorem d17 : decode yB 17 = .ok (.sipush 255, 3) := by decide +kernel
theorem d20 : decode yB 20 = .ok (.if_icmp (.le) 6, 3) := by decide +kernel
theorem d26 : decode yB 26 = .ok (.aload_n 2, 1) := by decide +kernel
theorem d27 : decode yB 27 = .ok (.iload_n 3, 1) := by decide +kernel
theorem d28 : decode yB 28 = .ok (.iload 6, 2) := by decide +kernel
theorem d30 : decode yB 30 = .ok (.i2b, 1) := by decide +kernel
theorem d31 : decode yB 31 = .ok (.bastore, 1) := by decide +kernel
theorem d32 : decode yB 32 = .ok (.iinc 1 1, 3) := by decide +kernel
theorem d35 : decode yB 35 = .ok (.iinc 3 1, 3) := by decide +kernel
theorem d38 : decode yB 38 = .ok (.iinc 5 1, 3) := by decide +kernel
theorem d41 : decode yB 41 = .ok (.goto (-38), 3) := by decide +kernel
theorem d44 : decode yB 44 = .ok (.iload 4, 2) := by decide +kernel
theorem d46 : decode yB 46 = .ok (.ireturn, 1) := by decide +kernel
def site : List Cond := []
def tab : Cond := tabOf yN yB 7 (some .int) site
def P (b : Addr) (A : Cell) (d : Addr) (B : Cell) (o q len : Nat) (args : Array Value) (s : State) : Prop := args = #[.ref b, .int (Int32.ofNat o), .ref d, .int (Int32.ofNat q), .int (Int32.ofNat len)] ∧ Ch b A s ∧ Arr .byte d B s ∧ b ≠ d ∧ o + len ≤ A.slots.size ∧ q + len ≤ B.slots.size ∧ ∀ i, i < len → ¬ 255 < cv A (o + i)
def E (b : Addr) (A : Cell) (d : Addr) (B : Cell) (o q len : Nat) (r : Option Value) (s u : State) : Prop := r = some (.int (Int32.ofNat len)) ∧ ∃ B', Put d B' s u ∧ Laid B B' q (q + len) (fun j => Value.int (lo8 (cv A (o + (j - q)))))
/-- no char of the range above 255: len; the places written hold each char's low byte -/
theorem law (l : Launch) (b : Addr) (A : Cell) (d : Addr) (B : Cell) (o q len : Nat) : Law l yN 5 5 0 0 yB 7 (some .int) site (P b A d B o q len) (E b A d B o q len) (copyLocs d q len) 0 0 := by
  refine Law.of_walk (plainFor_of_name (by decide +kernel)) (by decide +kernel) (by decide +kernel) (by decide) (fun _ _ h => by rw [h.1]; rfl) (fun _ U U' hal hh h => ⟨h.1, h.2.1.mv hal hh, h.2.2.1.mv hal hh, h.2.2.2⟩) (fun r U U' V V' h1 hal h2 h => ⟨h.1, h.2.elim fun B' q => ⟨B', q.1.mv h1 h2, q.2⟩⟩) ?_
  intro p e s m args below meth c s₁ X0 hexec hbytes hml hret hlk hnm hown hh0 W hP
  obtain ⟨rfl, hA, hB, hne, l1, l2, hp⟩ := hP
  have c1 : Steps p.tables e below (s₁.setTop (entryFrame m #[.ref b, .int (Int32.ofNat o), .ref d, .int (Int32.ofNat q), .int (Int32.ofNat len)] 7)) (s₁.setTop (mkF m 0 #[.val (.ref b), .val (.int (Int32.ofNat o)), .val (.ref d), .val (.int (Int32.ofNat q)), .val (.int (Int32.ofNat len)), .unset, .unset] [])) := entry rfl
  have hA0 := hA.1.mv X0.warmed.alike hh0
  have hB0 := hB.mv X0.warmed.alike hh0
  have a31 := hA.1.2.2.2
  have c2 : Steps p.tables e below (s₁.setTop (entryFrame m #[.ref b, .int (Int32.ofNat o), .ref d, .int (Int32.ofNat q), .int (Int32.ofNat len)] 7)) (s₁.setTop (mkF m 3 #[.val (.ref b), .val (.int (Int32.ofNat o)), .val (.ref d), .val (.int (Int32.ofNat q)), .val (.int (Int32.ofNat len)), .val (.int 0), .unset] [])) := c1.trans (by
    refine iconstV X0.here hexec rfl 0 (hb hbytes d0) (by decide) ?_
    refine XS.istore X0.here hexec rfl (hb hbytes d1) rfl rfl ?_
    exact Steps.refl _)
  have loop : ∀ (r i : Nat), i + r = len → ∀ (z : Slot), (z = .unset ∨ ∃ w, z = .val w ∧ w.category = 1) → ∀ (Tl : State) (Bk : Cell), Stand p l e { frames := 0, locals := 0, cells := 0, slots := 0 } s m #[.ref b, .int (Int32.ofNat o), .ref d, .int (Int32.ofNat q), .int (Int32.ofNat len)] below meth c Tl ([] ++ copyLocs d q i) 0 0 → Put d Bk s₁ Tl → Laid B Bk q (q + i) (fun j => Value.int (lo8 (cv A (o + (j - q))))) →
      Steps p.tables e below (s₁.setTop (entryFrame m #[.ref b, .int (Int32.ofNat o), .ref d, .int (Int32.ofNat q), .int (Int32.ofNat len)] 7)) (Tl.setTop (mkF m 3 #[.val (.ref b), .val (.int (Int32.ofNat (o + i))), .val (.ref d), .val (.int (Int32.ofNat (q + i))), .val (.int (Int32.ofNat len)), .val (.int (Int32.ofNat i)), z] [])) → ∃ (T' : State) (B' : Cell) (z' : Slot), Stand p l e { frames := 0, locals := 0, cells := 0, slots := 0 } s m #[.ref b, .int (Int32.ofNat o), .ref d, .int (Int32.ofNat q), .int (Int32.ofNat len)] below meth c T' ([] ++ copyLocs d q len) 0 0 ∧ Put d B' s₁ T' ∧ Laid B B' q (q + len) (fun j => Value.int (lo8 (cv A (o + (j - q))))) ∧
      Steps p.tables e below (s₁.setTop (entryFrame m #[.ref b, .int (Int32.ofNat o), .ref d, .int (Int32.ofNat q), .int (Int32.ofNat len)] 7)) (T'.setTop (mkF m 3 #[.val (.ref b), .val (.int (Int32.ofNat (o + len))), .val (.ref d), .val (.int (Int32.ofNat (q + len))), .val (.int (Int32.ofNat len)), .val (.int (Int32.ofNat len)), z'] [])) := by
    intro r
    induction r with
    | zero =>
      intro i hi z hz Tl Bk Xl pl fl cl
      have hil : i = len := by omega
      rw [hil] at Xl fl cl
      exact ⟨Tl, Bk, z, Xl, pl, fl, cl⟩
    | succ r ih =>
      intro i hi z hz Tl Bk Xl pl fl cl
      have all := X0.warmed.alike.symm.trans Xl.warmed.alike
      have hAl := hA0.keep all (pl.other hne hA0.1)
      have hBk := hB0.like all pl.1 fl.1 fl.2.1 fl.2.2.1
      have hlt : q + i < Bk.slots.size := by rw [fl.2.2.1]; omega
      have c3 : Steps p.tables e below (s₁.setTop (entryFrame m #[.ref b, .int (Int32.ofNat o), .ref d, .int (Int32.ofNat q), .int (Int32.ofNat len)] 7)) (Tl.setTop (mkF m 12 #[.val (.ref b), .val (.int (Int32.ofNat (o + i))), .val (.ref d), .val (.int (Int32.ofNat (q + i))), .val (.int (Int32.ofNat len)), .val (.int (Int32.ofNat i)), z] [.int (Int32.ofNat (o + i)), .ref b])) := cl.trans (by
        refine XS.iload Xl.here hexec rfl (hb hbytes d3) rfl ?_
        refine XS.iload Xl.here hexec rfl (hb hbytes d5) rfl ?_
        refine XS.icmpNo Xl.here hexec rfl (hb hbytes d7) rfl (ii_ge_f (lt32 (by omega) (by omega))) ?_
        refine XS.aloadN Xl.here hexec rfl (hb hbytes d10) rfl rfl ?_
        refine XS.iloadN Xl.here hexec rfl (hb hbytes d11) rfl ?_
        exact Steps.refl _)
      have c4 : Steps p.tables e below (s₁.setTop (entryFrame m #[.ref b, .int (Int32.ofNat o), .ref d, .int (Int32.ofNat q), .int (Int32.ofNat len)] 7)) (Tl.setTop (mkF m 13 #[.val (.ref b), .val (.int (Int32.ofNat (o + i))), .val (.ref d), .val (.int (Int32.ofNat (q + i))), .val (.int (Int32.ofNat len)), .val (.int (Int32.ofNat i)), z] [.int (cv A (o + i))])) := c3.trans (by
        refine Xl.aget hexec hAl rfl (hA.get (i := o + i) (by omega)) rfl rfl (hb hbytes d12) ?_
        exact Steps.refl _)
      have c5 : Steps p.tables e below (s₁.setTop (entryFrame m #[.ref b, .int (Int32.ofNat o), .ref d, .int (Int32.ofNat q), .int (Int32.ofNat len)] 7)) (Tl.setTop (mkF m 15 #[.val (.ref b), .val (.int (Int32.ofNat (o + i))), .val (.ref d), .val (.int (Int32.ofNat (q + i))), .val (.int (Int32.ofNat len)), .val (.int (Int32.ofNat i)), .val (.int (cv A (o + i)))] [])) := c4.trans (by
        refine XS.istoreS Xl.here hexec rfl (hb hbytes d13) rfl rfl hz ?_
        exact Steps.refl _)
      have c6 : Steps p.tables e below (s₁.setTop (entryFrame m #[.ref b, .int (Int32.ofNat o), .ref d, .int (Int32.ofNat q), .int (Int32.ofNat len)] 7)) (Tl.setTop (mkF m 31 #[.val (.ref b), .val (.int (Int32.ofNat (o + i))), .val (.ref d), .val (.int (Int32.ofNat (q + i))), .val (.int (Int32.ofNat len)), .val (.int (Int32.ofNat i)), .val (.int (cv A (o + i)))] [.int (lo8 (cv A (o + i))), .int (Int32.ofNat (q + i)), .ref d])) := c5.trans (by
        refine XS.iload Xl.here hexec rfl (hb hbytes d15) rfl ?_
        refine sipushV Xl.here hexec rfl 255 (hb hbytes d17) (by decide) ?_
        refine XS.icmpYes Xl.here hexec rfl (pc0 := 20) rfl (hb hbytes d20) rfl (ii_le_t (hp i (by omega))) (by decide) rfl ?_
        refine XS.aloadN Xl.here hexec rfl (hb hbytes d26) rfl rfl ?_
        refine XS.iloadN Xl.here hexec rfl (hb hbytes d27) rfl ?_
        refine XS.iload Xl.here hexec rfl (hb hbytes d28) rfl ?_
        refine i2b Xl.here hexec rfl (hb hbytes d30) rfl ?_
        exact Steps.refl _)
      obtain ⟨T7, X7, p7, st7⟩ := Xl.aput hexec hBk rfl hlt rfl (fits_lo8 (cv A (o + i))) (g := (mkF m 31 #[.val (.ref b), .val (.int (Int32.ofNat (o + i))), .val (.ref d), .val (.int (Int32.ofNat (q + i))), .val (.int (Int32.ofNat len)), .val (.int (Int32.ofNat i)), .val (.int (cv A (o + i)))] [.int (lo8 (cv A (o + i))), .int (Int32.ofNat (q + i)), .ref d])) rfl (rest := []) rfl (hb hbytes d31)
      have c8 : Steps p.tables e below (s₁.setTop (entryFrame m #[.ref b, .int (Int32.ofNat o), .ref d, .int (Int32.ofNat q), .int (Int32.ofNat len)] 7)) (T7.setTop (mkF m 32 #[.val (.ref b), .val (.int (Int32.ofNat (o + i))), .val (.ref d), .val (.int (Int32.ofNat (q + i))), .val (.int (Int32.ofNat len)), .val (.int (Int32.ofNat i)), .val (.int (cv A (o + i)))] [])) := c6.trans (st7 _ (Steps.refl _))
      have c9 : Steps p.tables e below (s₁.setTop (entryFrame m #[.ref b, .int (Int32.ofNat o), .ref d, .int (Int32.ofNat q), .int (Int32.ofNat len)] 7)) (T7.setTop (mkF m 3 #[.val (.ref b), .val (.int (Int32.ofNat (o + i) + 1)), .val (.ref d), .val (.int (Int32.ofNat (q + i) + 1)), .val (.int (Int32.ofNat len)), .val (.int (Int32.ofNat i + 1)), .val (.int (cv A (o + i)))] [])) := c8.trans (by
        refine iincV X7.here hexec rfl 1 (hb hbytes d32) (by decide) rfl rfl ?_
        refine iincV X7.here hexec rfl 1 (hb hbytes d35) (by decide) rfl rfl ?_
        refine iincV X7.here hexec rfl 1 (hb hbytes d38) (by decide) rfl rfl ?_
        refine XS.goto X7.here hexec rfl (pc0 := 41) rfl (hb hbytes d41) (by decide) rfl ?_
        exact Steps.refl _)
      have c10 : Steps p.tables e below (s₁.setTop (entryFrame m #[.ref b, .int (Int32.ofNat o), .ref d, .int (Int32.ofNat q), .int (Int32.ofNat len)] 7)) (T7.setTop (mkF m 3 #[.val (.ref b), .val (.int (Int32.ofNat (o + (i + 1)))), .val (.ref d), .val (.int (Int32.ofNat (q + (i + 1)))), .val (.int (Int32.ofNat len)), .val (.int (Int32.ofNat (i + 1))), .val (.int (cv A (o + i)))] [])) := by
        have := c9
        rw [succ32, succ32, succ32] at this
        exact this
      exact ih (i + 1) (by omega) _ (Or.inr ⟨_, rfl, rfl⟩) T7 _ (by rw [copyLocs_step, ← List.append_assoc]; exact X7) (pl.trans p7) (fl.step (by omega) hlt (by simp)) c10
  obtain ⟨T9, B9, z9, X9, p9, f9, g9⟩ := loop len 0 (by omega) .unset (Or.inl rfl) s₁ B (by simpa [copyLocs] using X0) ⟨hB0.1, fun _ _ => rfl, rfl⟩ (Laid.zero _ _ _) c2
  have c11 : Steps p.tables e below (s₁.setTop (entryFrame m #[.ref b, .int (Int32.ofNat o), .ref d, .int (Int32.ofNat q), .int (Int32.ofNat len)] 7)) (T9.setTop (mkF m 46 #[.val (.ref b), .val (.int (Int32.ofNat (o + len))), .val (.ref d), .val (.int (Int32.ofNat (q + len))), .val (.int (Int32.ofNat len)), .val (.int (Int32.ofNat len)), z9] [.int (Int32.ofNat len)])) := g9.trans (by
    refine XS.iload X9.here hexec rfl (hb hbytes d3) rfl ?_
    refine XS.iload X9.here hexec rfl (hb hbytes d5) rfl ?_
    refine XS.icmpYes X9.here hexec rfl (pc0 := 7) rfl (hb hbytes d7) rfl (ii_ge_t (nlt32 (by omega) (Nat.le_refl _))) (by decide) rfl ?_
    refine XS.iload X9.here hexec rfl (hb hbytes d44) rfl ?_
    exact Steps.refl _)
  exact ⟨T9, some (.int (Int32.ofNat len)), _, _, _, X9, by simp, rfl, rfl, (fun h => by cases h), ⟨rfl, B9, p9.from hh0, f9⟩, fun fs hl => c11.trans (X9.ireturnOut hexec hret rfl (Or.inl rfl) (hb hbytes d46) hl)⟩
end Cmp5
namespace Cmp3
def yN : MethodName := ⟨"java/lang/StringUTF16", "compress", "([CII)[B"⟩
abbrev yB : ByteArray := jdk_52_method_16_code
theorem d0 : decode yB 0 = .ok (.iload_n 2, 1) := by decide +kernel
theorem d1 : decode yB 1 = .ok (.newarray .byte, 2) := by decide +kernel
theorem d3 : decode yB 3 = .ok (.astore_n 3, 1) := by decide +kernel
theorem d4 : decode yB 4 = .ok (.aload_n 0, 1) := by decide +kernel
theorem d5 : decode yB 5 = .ok (.iload_n 1, 1) := by decide +kernel
theorem d6 : decode yB 6 = .ok (.aload_n 3, 1) := by decide +kernel
theorem d7 : decode yB 7 = .ok (.iconst 0, 1) := by decide +kernel
theorem d8 : decode yB 8 = .ok (.iload_n 2, 1) := by decide +kernel
theorem d9 : decode yB 9 = .ok (.invokestatic 115, 3) := by decide +kernel
theorem d12 : decode yB 12 = .ok (.istore 4, 2) := by decide +kernel
theorem d14 : decode yB 14 = .ok (.iload 4, 2) := by decide +kernel
theorem d16 : decode yB 16 = .ok (.iload_n 2, 1) := by decide +kernel
theorem d17 : decode yB 17 = .ok (.if_icmp (.eq) 40, 3) := by decide +kernel
theorem d57 : decode yB 57 = .ok (.aload_n 3, 1) := by decide +kernel
theorem d58 : decode yB 58 = .ok (.areturn, 1) := by decide +kernel
def site : List Cond := [.arrayClass .byte, Cmp5.tab] ++ staticW U16 115 Cmp5.yN
def tab : Cond := tabOf yN yB 6 (some (.array .byte)) site
def P (b : Addr) (A : Cell) (o len : Nat) (args : Array Value) (s : State) : Prop := args = #[.ref b, .int (Int32.ofNat o), .int (Int32.ofNat len)] ∧ Ch b A s ∧ o + len ≤ A.slots.size ∧ len ≤ 536870912 ∧ ∀ i, i < len → ¬ 255 < cv A (o + i)
def E (b : Addr) (A : Cell) (o len : Nat) (r : Option Value) (s u : State) : Prop := NewArr .byte "[B" len (fun j => .int (lo8 (cv A (o + j)))) r s u ∧ u.heap.size = s.heap.size + 1
/-- no char of the range above 255: a new byte[] of their low bytes -/
theorem law (l : Launch) (b : Addr) (A : Cell) (o len : Nat) : Law l yN 3 3 1 18 yB 6 (some (.array .byte)) site (P b A o len) (E b A o len) [] 1 len := by
  refine Law.of_walk (plainFor_of_name (by decide +kernel)) (by decide +kernel) (by decide +kernel) (by decide) (fun _ _ h => by rw [h.1]; rfl) (fun _ U U' hal hh h => ⟨h.1, h.2.1.mv hal hh, h.2.2⟩) (fun r U U' V V' h1 hal h2 h => ⟨NewArr.mv r U U' V V' h1 hal h2 h.1, by rw [h1, h2]; exact h.2⟩) ?_
  intro p e s m args below meth c s₁ X0 hexec hbytes hml hret hlk hnm hown hh0 W hP
  obtain ⟨rfl, hA, l1, l2, hp⟩ := hP
  have a31 := hA.1.2.2.2
  have c1 : Steps p.tables e below (s₁.setTop (entryFrame m #[.ref b, .int (Int32.ofNat o), .int (Int32.ofNat len)] 6)) (s₁.setTop (mkF m 0 #[.val (.ref b), .val (.int (Int32.ofNat o)), .val (.int (Int32.ofNat len)), .unset, .unset, .unset] [])) := entry rfl
  have c2 : Steps p.tables e below (s₁.setTop (entryFrame m #[.ref b, .int (Int32.ofNat o), .int (Int32.ofNat len)] 6)) (s₁.setTop (mkF m 1 #[.val (.ref b), .val (.int (Int32.ofNat o)), .val (.int (Int32.ofNat len)), .unset, .unset, .unset] [.int (Int32.ofNat len)])) := c1.trans (by
    refine XS.iloadN X0.here hexec rfl (hb hbytes d0) rfl ?_
    exact Steps.refl _)
  obtain ⟨T3, B3, X3, ba3, bs3, bv3, bh3, bf3, st3⟩ := X0.anew hexec (atype := .byte) (wk W (.arrayClass .byte)) rfl (by show len * 1 ≤ _; omega) (by omega) (g := (mkF m 1 #[.val (.ref b), .val (.int (Int32.ofNat o)), .val (.int (Int32.ofNat len)), .unset, .unset, .unset] [.int (Int32.ofNat len)])) rfl (hb hbytes d1) (rest := []) rfl (Nat.le_refl _) (by show 0 + len ≤ len; omega)
  rw [hh0] at ba3 st3
  have kp3 : XT.Kept s T3 := (XT.Kept.of_eq hh0).push bh3
  have hA3 := hA.keep X3.warmed.alike (kp3 _ _ hA.1.1)
  have hne : b ≠ s.heap.size := hA.1.ne
  have c4 : Steps p.tables e below (s₁.setTop (entryFrame m #[.ref b, .int (Int32.ofNat o), .int (Int32.ofNat len)] 6)) (T3.setTop (mkF m 3 #[.val (.ref b), .val (.int (Int32.ofNat o)), .val (.int (Int32.ofNat len)), .unset, .unset, .unset] [.ref s.heap.size])) := c2.trans (st3 _ (Steps.refl _))
  have c5 : Steps p.tables e below (s₁.setTop (entryFrame m #[.ref b, .int (Int32.ofNat o), .int (Int32.ofNat len)] 6)) (T3.setTop (mkF m 9 #[.val (.ref b), .val (.int (Int32.ofNat o)), .val (.int (Int32.ofNat len)), .val (.ref s.heap.size), .unset, .unset] [.int (Int32.ofNat len), .int 0, .ref s.heap.size, .int (Int32.ofNat o), .ref b])) := c4.trans (by
    refine XS.astoreN X3.here hexec rfl (hb hbytes d3) rfl rfl rfl ?_
    refine XS.aloadN X3.here hexec rfl (hb hbytes d4) rfl rfl ?_
    refine XS.iloadN X3.here hexec rfl (hb hbytes d5) rfl ?_
    refine XS.aloadN X3.here hexec rfl (hb hbytes d6) rfl rfl ?_
    refine iconstV X3.here hexec rfl 0 (hb hbytes d7) (by decide) ?_
    refine XS.iloadN X3.here hexec rfl (hb hbytes d8) rfl ?_
    exact Steps.refl _)
  obtain ⟨v6, T6, X6, E6, g6⟩ := X3.callS hexec (Cmp5.law l b A s.heap.size B3 o 0 len) hown (wks W (staticW U16 115 Cmp5.yN)) (wk W Cmp5.tab) (W := 0) (Nat.le_of_ble_eq_true rfl) (Nat.le_of_ble_eq_true rfl) (Nat.le_refl _) (by show 0 + len + 0 ≤ len; omega) (g := (mkF m 9 #[.val (.ref b), .val (.int (Int32.ofNat o)), .val (.int (Int32.ofNat len)), .val (.ref s.heap.size), .unset, .unset] [.int (Int32.ofNat len), .int (Int32.ofNat 0), .ref s.heap.size, .int (Int32.ofNat o), .ref b])) rfl (by rw [hml]; rfl) c5 (argsL := [.ref b, .int (Int32.ofNat o), .ref s.heap.size, .int (Int32.ofNat 0), .int (Int32.ofNat len)]) (rest := []) rfl rfl (by show 2 * 0 + 0 ≤ _; decide) (hb hbytes d9) (⟨rfl, hA3, ba3, hne, l1, by rw [bs3]; simp, hp⟩)
  obtain ⟨rfl, B6, p6, f6⟩ := E6
  have c7 : Steps p.tables e below (s₁.setTop (entryFrame m #[.ref b, .int (Int32.ofNat o), .int (Int32.ofNat len)] 6)) (T6.setTop (mkF m 12 #[.val (.ref b), .val (.int (Int32.ofNat o)), .val (.int (Int32.ofNat len)), .val (.ref s.heap.size), .unset, .unset] [.int (Int32.ofNat len)])) := g6
  have c8 : Steps p.tables e below (s₁.setTop (entryFrame m #[.ref b, .int (Int32.ofNat o), .int (Int32.ofNat len)] 6)) (T6.setTop (mkF m 58 #[.val (.ref b), .val (.int (Int32.ofNat o)), .val (.int (Int32.ofNat len)), .val (.ref s.heap.size), .val (.int (Int32.ofNat len)), .unset] [.ref s.heap.size])) := c7.trans (by
    refine XS.istore X6.here hexec rfl (hb hbytes d12) rfl rfl ?_
    refine XS.iload X6.here hexec rfl (hb hbytes d14) rfl ?_
    refine XS.iloadN X6.here hexec rfl (hb hbytes d16) rfl ?_
    refine XS.icmpYes X6.here hexec rfl (pc0 := 17) rfl (hb hbytes d17) rfl (ii_eq_t rfl) (by decide) rfl ?_
    refine XS.aloadN X6.here hexec rfl (hb hbytes d57) rfl rfl ?_
    exact Steps.refl _)
  have X8 := X6.wide (L' := []) (cells' := 1) (slots' := len) (fun x hx hlt => by
    simp only [List.nil_append, copyLocs, List.mem_map, List.mem_range] at hx
    obtain ⟨i, -, rfl⟩ := hx
    exact absurd hlt (Nat.lt_irrefl _)) (Nat.le_refl _) (by omega)
  exact ⟨T6, some (.ref s.heap.size), _, _, _, X8, rfl, rfl, rfl, (fun h => by cases h), ⟨⟨rfl, B6, ba3.like (X3.warmed.alike.symm.trans X6.warmed.alike) p6.1 f6.1 f6.2.1 f6.2.2.1, f6.2.1.trans bv3, by rw [X6.warmed.alike.findClass, f6.1]; exact bf3, by rw [f6.2.2.1, bs3]; simp, fun j hj => by rw [f6.2.2.2 j, if_pos (by omega)]; rfl, kp3.put p6 (Nat.le_refl _)⟩, by rw [p6.2.2, bh3, hh0]; simp⟩, fun fs hl => c8.trans (X8.areturnOut hexec rfl hret rfl (hb hbytes d58) hl)⟩
end Cmp3
namespace CodL
def yN : MethodName := ⟨"java/lang/StringUTF16", "coderFromArrayLen", "([BI)B"⟩
abbrev yB : ByteArray := jdk_52_method_15_code
theorem d0 : decode yB 0 = .ok (.iload_n 1, 1) := by decide +kernel
theorem d1 : decode yB 1 = .ok (.aload_n 0, 1) := by decide +kernel
theorem d2 : decode yB 2 = .ok (.arraylength, 1) := by decide +kernel
theorem d3 : decode yB 3 = .ok (.isub, 1) := by decide +kernel
theorem d4 : decode yB 4 = .ok (.bipush 31, 2) := by decide +kernel
theorem d6 : decode yB 6 = .ok (.iushr, 1) := by decide +kernel
theorem d7 : decode yB 7 = .ok (.i2b, 1) := by decide +kernel
theorem d8 : decode yB 8 = .ok (.ireturn, 1) := by decide +kernel
def site : List Cond := []
def tab : Cond := tabOf yN yB 2 (some .byte) site
def P (d : Addr) (B : Cell) (args : Array Value) (s : State) : Prop := args = #[.ref d, .int (Int32.ofNat B.slots.size)] ∧ Arr .byte d B s
def E (r : Option Value) (s u : State) : Prop := XT.PureE (some (.int 0)) r s u
/-- an array as long as the number of chars: LATIN1 -/
theorem law (l : Launch) (d : Addr) (B : Cell) : Law l yN 2 2 0 0 yB 2 (some .byte) site (P d B) E [] 0 0 := by
  refine Law.of_walk (plainFor_of_name (by decide +kernel)) (by decide +kernel) (by decide +kernel) (by decide) (fun _ _ h => by rw [h.1]; rfl) (fun _ U U' hal hh h => ⟨h.1, h.2.mv hal hh⟩) (fun r U U' V V' h1 hal h2 h => XT.PureE.mv r U U' V V' h1 hal h2 h) ?_
  intro p e s m args below meth c s₁ X0 hexec hbytes hml hret hlk hnm hown hh0 W hP
  obtain ⟨rfl, hB⟩ := hP
  have hB0 := hB.mv X0.warmed.alike hh0
  have c1 : Steps p.tables e below (s₁.setTop (entryFrame m #[.ref d, .int (Int32.ofNat B.slots.size)] 2)) (s₁.setTop (mkF m 0 #[.val (.ref d), .val (.int (Int32.ofNat B.slots.size))] [])) := entry rfl
  have c2 : Steps p.tables e below (s₁.setTop (entryFrame m #[.ref d, .int (Int32.ofNat B.slots.size)] 2)) (s₁.setTop (mkF m 2 #[.val (.ref d), .val (.int (Int32.ofNat B.slots.size))] [.ref d, .int (Int32.ofNat B.slots.size)])) := c1.trans (by
    refine XS.iloadN X0.here hexec rfl (hb hbytes d0) rfl ?_
    refine XS.aloadN X0.here hexec rfl (hb hbytes d1) rfl rfl ?_
    exact Steps.refl _)
  have c3 : Steps p.tables e below (s₁.setTop (entryFrame m #[.ref d, .int (Int32.ofNat B.slots.size)] 2)) (s₁.setTop (mkF m 8 #[.val (.ref d), .val (.int (Int32.ofNat B.slots.size))] [.int (lo8 (ushr (Int32.ofNat B.slots.size - Int32.ofNat B.slots.size) 31))])) := c2.trans (by
    refine X0.alen hexec hB0 rfl rfl (hb hbytes d2) ?_
    refine XS.isub X0.here hexec rfl (hb hbytes d3) rfl ?_
    refine bipushV X0.here hexec rfl 31 (hb hbytes d4) (by decide) ?_
    refine iushr X0.here hexec rfl (hb hbytes d6) rfl ?_
    refine i2b X0.here hexec rfl (hb hbytes d7) rfl ?_
    exact Steps.refl _)
  have e0 : lo8 (ushr (Int32.ofNat B.slots.size - Int32.ofNat B.slots.size) 31) = 0 := by rw [Int32.sub_self]; decide
  rw [e0] at c3
  exact ⟨s₁, some (.int 0), _, _, _, X0, rfl, rfl, rfl, (fun h => by cases h), ⟨rfl, hh0⟩, fun fs hl => c3.trans (X0.ireturnOut hexec hret rfl (Or.inr (Or.inr (Or.inl rfl))) (hb hbytes d8) hl)⟩
end CodL
/-- the String at a is Latin-1 over a new byte[] (the heap's one new cell): the low bytes of the len chars of A from o on; every cell but a is kept -/
def Got (a : Addr) (D : Cell) (fV fC : Field) (A : Cell) (o len : Nat) (r : Option Value) (s u : State) : Prop := r = none ∧ ∃ D' V : Cell, Blank "java/lang/String" a D' u ∧ Same D D' [fV.slot, fC.slot] ∧ D'.slots[fV.slot]? = some (.ref s.heap.size) ∧ D'.slots[fC.slot]? = some (.int 0) ∧ Arr .byte s.heap.size V u ∧ V.vm = .none ∧ u.vm.findClass "[B" = some V.cls ∧ V.slots.size = len ∧ (∀ j, j < len → V.slots[j]? = some (.int (lo8 (cv A (o + j))))) ∧ (∀ (y : Addr) (c : Cell), y ≠ a → s.heap[y]? = some c → u.heap[y]? = some c) ∧ u.heap.size = s.heap.size + 1
theorem Got.mv {a : Addr} {D A : Cell} {fV fC : Field} {o len : Nat} : ∀ r (U U' V V' : State), U'.heap = U.heap → V.vm.Alike V'.vm → V'.heap = V.heap → Got a D fV fC A o len r U V → Got a D fV fC A o len r U' V' :=
  fun r U U' V V' h1 hal h2 ⟨e0, D', X, a1, a2, a3, a4, a5, a6, a7, a8, a9, a10, a11⟩ => ⟨e0, D', X, a1.mv hal h2, a2, by rw [h1]; exact a3, a4, by rw [h1]; exact a5.mv hal h2, a6, by rw [hal.findClass]; exact a7, a8, a9, by rw [h1, h2]; exact a10, by rw [h1, h2]; exact a11⟩
namespace New4
def yN : MethodName := ⟨"java/lang/String", "<init>", "([CIILjava/lang/Void;)V"⟩
abbrev yB : ByteArray := jdk_42_method_149_code
theorem d0 : decode yB 0 = .ok (.aload_n 0, 1) := by decide +kernel
theorem d1 : decode yB 1 = .ok (.invokespecial 1, 3) := by decide +kernel
theorem d4 : decode yB 4 = .ok (.iload_n 3, 1) := by decide +kernel
theorem d5 : decode yB 5 = .ok (.ifCond (.ne) 22, 3) := by decide +kernel
theorem d27 : decode yB 27 = .ok (.getstatic 38, 3) := by decide +kernel
theorem d30 : decode yB 30 = .ok (.ifCond (.eq) 28, 3) := by decide +kernel
theorem d33 : decode yB 33 = .ok (.aload_n 1, 1) := by decide +kernel
theorem d34 : decode yB 34 = .ok (.iload_n 2, 1) := by decide +kernel
theorem d35 : decode yB 35 = .ok (.iload_n 3, 1) := by decide +kernel
theorem d36 : decode yB 36 = .ok (.invokestatic 177, 3) := by decide +kernel
theorem d39 : decode yB 39 = .ok (.astore 5, 2) := by decide +kernel
theorem d41 : decode yB 41 = .ok (.aload_n 0, 1) := by decide +kernel
theorem d42 : decode yB 42 = .ok (.aload 5, 2) := by decide +kernel
theorem d44 : decode yB 44 = .ok (.iload_n 3, 1) := by decide +kernel
theorem d45 : decode yB 45 = .ok (.invokestatic 47, 3) := by decide +kernel
theorem d48 : decode yB 48 = .ok (.putfield 15, 3) := by decide +kernel
theorem d51 : decode yB 51 = .ok (.aload_n 0, 1) := by decide +kernel
theorem d52 : decode yB 52 = .ok (.aload 5, 2) := by decide +kernel
theorem d54 : decode yB 54 = .ok (.putfield 9, 3) := by decide +kernel
theorem d57 : decode yB 57 = .ok (.return_, 1) := by decide +kernel
def site : List Cond := [.fieldLink "java/lang/String" 38 "java/lang/String" "COMPACT_STRINGS" "Z", Cmp3.tab, CodL.tab, .laysFinal "java/lang/String" "java/lang/String" "value" "[B", .fieldLink "java/lang/String" 9 "java/lang/String" "value" "[B", .laysFinal "java/lang/String" "java/lang/String" "coder" "B", .fieldLink "java/lang/String" 15 "java/lang/String" "coder" "B"] ++ objW "java/lang/String" 1 ++ staticW "java/lang/String" 177 Cmp3.yN ++ staticW "java/lang/String" 47 CodL.yN
def tab : Cond := tabOf yN yB 6 none site
def P (a : Addr) (D : Cell) (fV fC : Field) (b : Addr) (A : Cell) (z : Int32) (o len : Nat) (args : Array Value) (s : State) : Prop := args = #[.ref a, .ref b, .int (Int32.ofNat o), .int (Int32.ofNat len), .null] ∧ Blank "java/lang/String" a D s ∧ Found "java/lang/String" "value" "[B" fV s ∧ Found "java/lang/String" "coder" "B" fC s ∧ Ch b A s ∧ StaticIs s "java/lang/String" "COMPACT_STRINGS" "Z" (.int z) ∧ ¬ z = 0 ∧ 0 < len ∧ o + len ≤ A.slots.size ∧ len ≤ 536870912 ∧ ∀ i, i < len → ¬ 255 < cv A (o + i)
def E (a : Addr) (D : Cell) (fV fC : Field) (A : Cell) (o len : Nat) (r : Option Value) (s u : State) : Prop := Got a D fV fC A o len r s u
/-- len > 0, no char of the range above 255: a Latin-1 String of their low bytes -/
theorem law (l : Launch) (a : Addr) (D : Cell) (fV fC : Field) (b : Addr) (A : Cell) (z : Int32) (o len : Nat) : Law l yN 5 4 2 35 yB 6 none site (P a D fV fC b A z o len) (E a D fV fC A o len) [⟨a, fC.slot⟩, ⟨a, fV.slot⟩] 1 len := by
  refine Law.of_walk (plainFor_of_name (by decide +kernel)) (by decide +kernel) (by decide +kernel) (by decide) (fun _ _ h => by rw [h.1]; rfl) (fun _ U U' hal hh h => ⟨h.1, h.2.1.mv hal hh, h.2.2.1.al hal, h.2.2.2.1.al hal, h.2.2.2.2.1.mv hal hh, h.2.2.2.2.2.1.there hal hh, h.2.2.2.2.2.2⟩) (fun r U U' V V' h1 hal h2 h => Got.mv r U U' V V' h1 hal h2 h) ?_
  intro p e s m args below meth c s₁ X0 hexec hbytes hml hret hlk hnm hown hh0 W hP
  obtain ⟨rfl, hB, f1, f2, hA, s1, hz, l0, l1, l2, hp⟩ := hP
  have a31 := hA.1.2.2.2
  have c1 : Steps p.tables e below (s₁.setTop (entryFrame m #[.ref a, .ref b, .int (Int32.ofNat o), .int (Int32.ofNat len), .null] 6)) (s₁.setTop (mkF m 0 #[.val (.ref a), .val (.ref b), .val (.int (Int32.ofNat o)), .val (.int (Int32.ofNat len)), .val .null, .unset] [])) := entry rfl
  have c2 : Steps p.tables e below (s₁.setTop (entryFrame m #[.ref a, .ref b, .int (Int32.ofNat o), .int (Int32.ofNat len), .null] 6)) (s₁.setTop (mkF m 1 #[.val (.ref a), .val (.ref b), .val (.int (Int32.ofNat o)), .val (.int (Int32.ofNat len)), .val .null, .unset] [.ref a])) := c1.trans (by
    refine XS.aloadN X0.here hexec rfl (hb hbytes d0) rfl rfl ?_
    exact Steps.refl _)
  obtain ⟨T3, X3, q3, st3⟩ := X0.oinit hexec hown (wks W (objW "java/lang/String" 1)) (g := (mkF m 1 #[.val (.ref a), .val (.ref b), .val (.int (Int32.ofNat o)), .val (.int (Int32.ofNat len)), .val .null, .unset] [.ref a])) rfl (by rw [hml]; rfl) (rest := []) rfl (hb hbytes d1) (W := 0) (by show 2 * 0 + 0 ≤ _; decide) (Nat.le_of_ble_eq_true rfl) (Nat.le_of_ble_eq_true rfl)
  have hh3 := q3.trans hh0
  have c4 : Steps p.tables e below (s₁.setTop (entryFrame m #[.ref a, .ref b, .int (Int32.ofNat o), .int (Int32.ofNat len), .null] 6)) (T3.setTop (mkF m 27 #[.val (.ref a), .val (.ref b), .val (.int (Int32.ofNat o)), .val (.int (Int32.ofNat len)), .val .null, .unset] [])) := (c2.trans (st3 _ (Steps.refl _))).trans (by
    refine XS.iloadN X3.here hexec rfl (hb hbytes d4) rfl ?_
    refine XS.ifYes X3.here hexec rfl (pc0 := 5) rfl (hb hbytes d5) rfl (i0_ne_t (nz32 (by omega) l0)) (by decide) rfl ?_
    exact Steps.refl _)
  obtain ⟨T5, X5, q5, st5⟩ := X3.sget hexec hown (wk W (.fieldLink "java/lang/String" 38 "java/lang/String" "COMPACT_STRINGS" "Z")) s1 (fun _ _ h => by rw [hh3]; exact h) (g := (mkF m 27 #[.val (.ref a), .val (.ref b), .val (.int (Int32.ofNat o)), .val (.int (Int32.ofNat len)), .val .null, .unset] [])) rfl (hb hbytes d27)
  have hh5 := q5.trans hh3
  have c6 : Steps p.tables e below (s₁.setTop (entryFrame m #[.ref a, .ref b, .int (Int32.ofNat o), .int (Int32.ofNat len), .null] 6)) (T5.setTop (mkF m 30 #[.val (.ref a), .val (.ref b), .val (.int (Int32.ofNat o)), .val (.int (Int32.ofNat len)), .val .null, .unset] [.int z])) := c4.trans (st5 _ (Steps.refl _))
  have c7 : Steps p.tables e below (s₁.setTop (entryFrame m #[.ref a, .ref b, .int (Int32.ofNat o), .int (Int32.ofNat len), .null] 6)) (T5.setTop (mkF m 36 #[.val (.ref a), .val (.ref b), .val (.int (Int32.ofNat o)), .val (.int (Int32.ofNat len)), .val .null, .unset] [.int (Int32.ofNat len), .int (Int32.ofNat o), .ref b])) := c6.trans (by
    refine XS.ifNo X5.here hexec rfl (hb hbytes d30) rfl (i0_eq_f hz) ?_
    refine XS.aloadN X5.here hexec rfl (hb hbytes d33) rfl rfl ?_
    refine XS.iloadN X5.here hexec rfl (hb hbytes d34) rfl ?_
    refine XS.iloadN X5.here hexec rfl (hb hbytes d35) rfl ?_
    exact Steps.refl _)
  obtain ⟨v8, T8, X8, E8, g8⟩ := X5.callS hexec (Cmp3.law l b A o len) hown (wks W (staticW "java/lang/String" 177 Cmp3.yN)) (wk W Cmp3.tab) (W := 0) (Nat.le_of_ble_eq_true rfl) (Nat.le_of_ble_eq_true rfl) (Nat.le_refl _) (by show 0 + len ≤ len; omega) (g := (mkF m 36 #[.val (.ref a), .val (.ref b), .val (.int (Int32.ofNat o)), .val (.int (Int32.ofNat len)), .val .null, .unset] [.int (Int32.ofNat len), .int (Int32.ofNat o), .ref b])) rfl (by rw [hml]; rfl) c7 (argsL := [.ref b, .int (Int32.ofNat o), .int (Int32.ofNat len)]) (rest := []) rfl rfl (by show 2 * 0 + 0 ≤ _; decide) (hb hbytes d36) (⟨rfl, hA.mv X5.warmed.alike hh5, l1, l2, hp⟩)
  obtain ⟨e8, z8⟩ := E8
  obtain ⟨rfl, N, n1, n2, n3, n4, n5, n6⟩ := NewArr.mv _ T5 s _ _ hh5.symm (Vm.Alike.refl _) rfl e8
  rw [hh5] at z8
  have hB1 := hB.keep X8.warmed.alike (n6 _ _ hB.1)
  have hne : s.heap.size ≠ a := (Nat.ne_of_lt (Array.getElem?_eq_some_iff.mp hB.1).1).symm
  have c9 : Steps p.tables e below (s₁.setTop (entryFrame m #[.ref a, .ref b, .int (Int32.ofNat o), .int (Int32.ofNat len), .null] 6)) (T8.setTop (mkF m 39 #[.val (.ref a), .val (.ref b), .val (.int (Int32.ofNat o)), .val (.int (Int32.ofNat len)), .val .null, .unset] [.ref s.heap.size])) := g8
  have c10 : Steps p.tables e below (s₁.setTop (entryFrame m #[.ref a, .ref b, .int (Int32.ofNat o), .int (Int32.ofNat len), .null] 6)) (T8.setTop (mkF m 45 #[.val (.ref a), .val (.ref b), .val (.int (Int32.ofNat o)), .val (.int (Int32.ofNat len)), .val .null, .val (.ref s.heap.size)] [.int (Int32.ofNat N.slots.size), .ref s.heap.size, .ref a])) := by
    have hc : Steps p.tables e below (s₁.setTop (entryFrame m #[.ref a, .ref b, .int (Int32.ofNat o), .int (Int32.ofNat len), .null] 6)) (T8.setTop (mkF m 45 #[.val (.ref a), .val (.ref b), .val (.int (Int32.ofNat o)), .val (.int (Int32.ofNat len)), .val .null, .val (.ref s.heap.size)] [.int (Int32.ofNat len), .ref s.heap.size, .ref a])) := c9.trans (by
      refine XS.astore X8.here hexec rfl (hb hbytes d39) rfl rfl rfl ?_
      refine XS.aloadN X8.here hexec rfl (hb hbytes d41) rfl rfl ?_
      refine XS.aload X8.here hexec rfl (hb hbytes d42) rfl rfl ?_
      refine XS.iloadN X8.here hexec rfl (hb hbytes d44) rfl ?_
      exact Steps.refl _)
    rw [n4]; exact hc
  obtain ⟨v11, T11, X11, E11, g11⟩ := X8.callS hexec (CodL.law l s.heap.size N) hown (wks W (staticW "java/lang/String" 47 CodL.yN)) (wk W CodL.tab) (W := 1) (Nat.le_of_ble_eq_true rfl) (Nat.le_of_ble_eq_true rfl) (Nat.le_refl _) (by show 0 + len + 0 ≤ len; omega) (g := (mkF m 45 #[.val (.ref a), .val (.ref b), .val (.int (Int32.ofNat o)), .val (.int (Int32.ofNat len)), .val .null, .val (.ref s.heap.size)] [.int (Int32.ofNat N.slots.size), .ref s.heap.size, .ref a])) rfl (by rw [hml]; rfl) c10 (argsL := [.ref s.heap.size, .int (Int32.ofNat N.slots.size)]) (rest := [.ref a]) rfl rfl (by show 2 * 0 + (1 + 0) ≤ _; decide) (hb hbytes d45) (⟨rfl, n1⟩)
  obtain ⟨rfl, q11⟩ := E11
  have hB11 := hB1.mv (X8.warmed.alike.symm.trans X11.warmed.alike) q11
  have c12 : Steps p.tables e below (s₁.setTop (entryFrame m #[.ref a, .ref b, .int (Int32.ofNat o), .int (Int32.ofNat len), .null] 6)) (T11.setTop (mkF m 48 #[.val (.ref a), .val (.ref b), .val (.int (Int32.ofNat o)), .val (.int (Int32.ofNat len)), .val .null, .val (.ref s.heap.size)] [.int 0, .ref a])) := g11
  obtain ⟨T13, X13, p13, bl13, sl13, st13⟩ := X11.finit hexec hown (wk W (.fieldLink "java/lang/String" 15 "java/lang/String" "coder" "B")) (Or.inr ⟨_, (wk W (.laysFinal "java/lang/String" "java/lang/String" "coder" "B"))⟩) (Or.inl ⟨rfl, hnm⟩) f2 (Or.inl rfl) hB11 (t := .byte) (by decide +kernel) rfl (g := (mkF m 48 #[.val (.ref a), .val (.ref b), .val (.int (Int32.ofNat o)), .val (.int (Int32.ofNat len)), .val .null, .val (.ref s.heap.size)] [.int 0, .ref a])) rfl (rest := []) rfl (hb hbytes d48)
  have c14 : Steps p.tables e below (s₁.setTop (entryFrame m #[.ref a, .ref b, .int (Int32.ofNat o), .int (Int32.ofNat len), .null] 6)) (T13.setTop (mkF m 54 #[.val (.ref a), .val (.ref b), .val (.int (Int32.ofNat o)), .val (.int (Int32.ofNat len)), .val .null, .val (.ref s.heap.size)] [.ref s.heap.size, .ref a])) := (c12.trans (st13 _ (Steps.refl _))).trans (by
    refine XS.aloadN X13.here hexec rfl (hb hbytes d51) rfl rfl ?_
    refine XS.aload X13.here hexec rfl (hb hbytes d52) rfl rfl ?_
    exact Steps.refl _)
  obtain ⟨T15, X15, p15, bl15, sl15, st15⟩ := X13.finit hexec hown (wk W (.fieldLink "java/lang/String" 9 "java/lang/String" "value" "[B")) (Or.inr ⟨_, (wk W (.laysFinal "java/lang/String" "java/lang/String" "value" "[B"))⟩) (Or.inl ⟨rfl, hnm⟩) f1 (Or.inl rfl) bl13 (t := (.array .byte)) (by decide +kernel) rfl (g := (mkF m 54 #[.val (.ref a), .val (.ref b), .val (.int (Int32.ofNat o)), .val (.int (Int32.ofNat len)), .val .null, .val (.ref s.heap.size)] [.ref s.heap.size, .ref a])) rfl (rest := []) rfl (hb hbytes d54)
  have c16 : Steps p.tables e below (s₁.setTop (entryFrame m #[.ref a, .ref b, .int (Int32.ofNat o), .int (Int32.ofNat len), .null] 6)) (T15.setTop (mkF m 57 #[.val (.ref a), .val (.ref b), .val (.int (Int32.ofNat o)), .val (.int (Int32.ofNat len)), .val .null, .val (.ref s.heap.size)] [])) := c14.trans (st15 _ (Steps.refl _))
  have ap := apart (Or.inr ⟨_, (wk W (.laysFinal "java/lang/String" "java/lang/String" "value" "[B"))⟩) (Or.inr ⟨_, (wk W (.laysFinal "java/lang/String" "java/lang/String" "coder" "B"))⟩) f1 f2 (t₁ := .array .byte) (t₂ := .byte) (by decide +kernel) (by decide +kernel) (by decide)
  have al := X8.warmed.alike.symm.trans X15.warmed.alike
  have n7 : T11.heap[s.heap.size]? = some N := by rw [q11]; exact n1.1
  exact ⟨T15, none, _, _, _, X15, by simp, rfl, by omega, (fun _ => rfl), ⟨rfl, _, N, bl15, ((Same.refl D _).set _ (by simp)).set _ (by simp), sl15, (Cell.slots_setSlot_ne _ ap).trans sl13, n1.keep al (p15.other hne (p13.other hne n7)), n2, by rw [al.findClass]; exact n3, n4, n5, fun y c h1 h2 => p15.other h1 (p13.other h1 (by rw [q11]; exact n6 y c h2)), by rw [p15.2.2, p13.2.2, q11]; exact z8⟩, fun fs hl => c16.trans (X15.returnOut hexec hret (hb hbytes d57) hl)⟩
end New4
namespace New1
def yN : MethodName := ⟨"java/lang/String", "<init>", "([C)V"⟩
abbrev yB : ByteArray := jdk_42_method_3_code
theorem d0 : decode yB 0 = .ok (.aload_n 0, 1) := by decide +kernel
theorem d1 : decode yB 1 = .ok (.aload_n 1, 1) := by decide +kernel
theorem d2 : decode yB 2 = .ok (.iconst 0, 1) := by decide +kernel
theorem d3 : decode yB 3 = .ok (.aload_n 1, 1) := by decide +kernel
theorem d4 : decode yB 4 = .ok (.arraylength, 1) := by decide +kernel
theorem d5 : decode yB 5 = .ok (.aconst_null, 1) := by decide +kernel
theorem d6 : decode yB 6 = .ok (.invokespecial 27, 3) := by decide +kernel
theorem d9 : decode yB 9 = .ok (.return_, 1) := by decide +kernel
def site : List Cond := [New4.tab] ++ initW "java/lang/String" 27 New4.yN
def tab : Cond := tabOf yN yB 2 none site
def P (a : Addr) (D : Cell) (fV fC : Field) (b : Addr) (A : Cell) (z : Int32) (args : Array Value) (s : State) : Prop := args = #[.ref a, .ref b] ∧ Blank "java/lang/String" a D s ∧ Found "java/lang/String" "value" "[B" fV s ∧ Found "java/lang/String" "coder" "B" fC s ∧ Ch b A s ∧ StaticIs s "java/lang/String" "COMPACT_STRINGS" "Z" (.int z) ∧ ¬ z = 0 ∧ 0 < A.slots.size ∧ A.slots.size ≤ 536870912 ∧ ∀ i, i < A.slots.size → ¬ 255 < cv A i
def E (a : Addr) (D : Cell) (fV fC : Field) (A : Cell) (r : Option Value) (s u : State) : Prop := Got a D fV fC A 0 A.slots.size r s u
/-- new String(chars), not empty, no char above 255: a Latin-1 String of their low bytes -/
theorem law (l : Launch) (a : Addr) (D : Cell) (fV fC : Field) (b : Addr) (A : Cell) (z : Int32) : Law l yN 2 1 3 52 yB 2 none site (P a D fV fC b A z) (E a D fV fC A) [⟨a, fC.slot⟩, ⟨a, fV.slot⟩] 1 A.slots.size := by
  refine Law.of_walk (plainFor_of_name (by decide +kernel)) (by decide +kernel) (by decide +kernel) (by decide) (fun _ _ h => by rw [h.1]; rfl) (fun _ U U' hal hh h => ⟨h.1, h.2.1.mv hal hh, h.2.2.1.al hal, h.2.2.2.1.al hal, h.2.2.2.2.1.mv hal hh, h.2.2.2.2.2.1.there hal hh, h.2.2.2.2.2.2⟩) (fun r U U' V V' h1 hal h2 h => Got.mv r U U' V V' h1 hal h2 h) ?_
  intro p e s m args below meth c s₁ X0 hexec hbytes hml hret hlk hnm hown hh0 W hP
  obtain ⟨rfl, hB, f1, f2, hA, s1, hz, l0, l2, hp⟩ := hP
  have c1 : Steps p.tables e below (s₁.setTop (entryFrame m #[.ref a, .ref b] 2)) (s₁.setTop (mkF m 0 #[.val (.ref a), .val (.ref b)] [])) := entry rfl
  have c2 : Steps p.tables e below (s₁.setTop (entryFrame m #[.ref a, .ref b] 2)) (s₁.setTop (mkF m 6 #[.val (.ref a), .val (.ref b)] [.null, .int (Int32.ofNat A.slots.size), .int 0, .ref b, .ref a])) := c1.trans (by
    refine XS.aloadN X0.here hexec rfl (hb hbytes d0) rfl rfl ?_
    refine XS.aloadN X0.here hexec rfl (hb hbytes d1) rfl rfl ?_
    refine iconstV X0.here hexec rfl 0 (hb hbytes d2) (by decide) ?_
    refine XS.aloadN X0.here hexec rfl (hb hbytes d3) rfl rfl ?_
    refine X0.alen hexec (hA.1.mv X0.warmed.alike hh0) rfl rfl (hb hbytes d4) ?_
    refine XS.aconstNull X0.here hexec rfl (hb hbytes d5) ?_
    exact Steps.refl _)
  obtain ⟨v3, T3, X3, E3, g3⟩ := X0.callN hexec (New4.law l a D fV fC b A z 0 A.slots.size) rfl hown (wks W (initW "java/lang/String" 27 New4.yN)) (W New4.tab (by simp only [site, List.mem_cons, List.mem_append, true_or, or_true])) (W := 0) (Nat.le_of_ble_eq_true rfl) (Nat.le_of_ble_eq_true rfl) (Nat.le_refl _) (by show 0 + A.slots.size ≤ A.slots.size; omega) (g := (mkF m 6 #[.val (.ref a), .val (.ref b)] [.null, .int (Int32.ofNat A.slots.size), .int (Int32.ofNat 0), .ref b, .ref a])) rfl (by rw [hml]; rfl) c2 (argsL := [.ref b, .int (Int32.ofNat 0), .int (Int32.ofNat A.slots.size), .null]) (rest := []) rfl rfl (by show 2 * 0 + 0 ≤ _; decide) (hb hbytes d6) (⟨rfl, hB.mv X0.warmed.alike hh0, f1.al X0.warmed.alike, f2.al X0.warmed.alike, hA.mv X0.warmed.alike hh0, s1.there X0.warmed.alike hh0, hz, l0, by omega, l2, fun i hi => by rw [Nat.zero_add]; exact hp i hi⟩)
  have e0 := Got.mv _ s₁ s _ _ hh0.symm (Vm.Alike.refl _) rfl E3
  obtain rfl := e0.1
  have c4 : Steps p.tables e below (s₁.setTop (entryFrame m #[.ref a, .ref b] 2)) (T3.setTop (mkF m 9 #[.val (.ref a), .val (.ref b)] [])) := g3
  exact ⟨T3, none, _, _, _, X3, by simp, rfl, by omega, (fun _ => rfl), e0, fun fs hl => c4.trans (X3.returnOut hexec hret (hb hbytes d9) hl)⟩
theorem pays {l : Launch} {R : Room} {p : Program} {e : Env} {below : List Frame} {s : State} {sargs : Array Value} {len W : Nat} (a : Addr) (D : Cell) (fV fC : Field) (b : Addr) (A : Cell) (z : Int32) (htab : tab.before sargs s = true) (hfr : 4 ≤ R.frames) (hlo : W + 65 ≤ R.locals) :
    Back l R p e below s sargs yN len W (fun A₁ a₁ => A₁.cells + 1 ≤ R.cells ∧ A₁.slots + A.slots.size ≤ R.slots ∧ P a D fV fC b A z a₁ A₁.U) (fun A₁ _ v₁ B₁ => E a D fV fC A v₁ A₁.U B₁.U ∧ B₁.locs = A₁.locs ++ [⟨a, fC.slot⟩, ⟨a, fV.slot⟩] ∧ B₁.cells = A₁.cells + 1 ∧ B₁.slots = A₁.slots + A.slots.size) :=
  (law l a D fV fC b A z).pays htab hfr (by omega)
end New1
/-- the byte, read back as charAt reads it, is the char -/
theorem lo8_mask {x : Int32} (h0 : ¬ x < 0) (h1 : ¬ 255 < x) : lo8 x &&& 255 = x := by
  have t : ∀ k : Fin 256, lo8 (Int32.ofNat k.val) &&& 255 = Int32.ofNat k.val := by decide +kernel
  rw [Int32.lt_iff_toInt_lt] at h0 h1
  have e0 : (0 : Int32).toInt = 0 := rfl
  have e1 : (255 : Int32).toInt = 255 := rfl
  obtain ⟨k, hk⟩ : ∃ k : Nat, x.toInt = k := ⟨x.toInt.toNat, by omega⟩
  have hx : x = Int32.ofNat k := Int32.toInt_inj.mp (by rw [hk, Int32.toInt_ofNat_small (by omega)])
  rw [hx]
  exact t ⟨k, by omega⟩
end StrChars
namespace StrChars.Road
open Jvm Sem ClassFile Op Lib Jvm.Stand Jvm.Free Jvm.Free.XT
open Jvm.Lib.Cold (StaticIs)
abbrev ST : String := "java/lang/String"
/-- every table word that New1's law asks, flat -/
abbrev words : List Jvm.Cond := [.code New1.yN New1.yB 2 none, .initialized ST, .methodLink ST 27 New4.yN, .instanceMethod New4.yN,
  .code New4.yN New4.yB 6 none, .fieldLink ST 38 ST "COMPACT_STRINGS" "Z", .laysFinal ST ST "value" "[B", .fieldLink ST 9 ST "value" "[B", .laysFinal ST ST "coder" "B", .fieldLink ST 15 ST "coder" "B",
  .methodLink ST 1 Lib.objectInit, .instanceMethod Lib.objectInit, .code Lib.objectInit ⟨#[0xb1]⟩ 1 none, .methodLink ST 177 Cmp3.yN, .static Cmp3.yN, .methodLink ST 47 CodL.yN, .static CodL.yN,
  .code Cmp3.yN Cmp3.yB 6 (some (.array .byte)), .initialized U16, .arrayClass .byte, .methodLink U16 115 Cmp5.yN, .static Cmp5.yN, .code Cmp5.yN Cmp5.yB 7 (some .int), .code CodL.yN CodL.yB 2 (some .byte)]
theorem tab_of {a : Array Value} {s : State} (h : ∀ w ∈ words, w.before a s = true) : New1.tab.before a s = true := by
  have h5 : Cmp5.tab.before a s = true := unparts (wk h (.code Cmp5.yN Cmp5.yB 7 (some .int))) (wks h (.initialized Cmp5.yN.cls :: Cmp5.site))
  have hc : CodL.tab.before a s = true := unparts (wk h (.code CodL.yN CodL.yB 2 (some .byte))) (wks h (.initialized CodL.yN.cls :: CodL.site))
  have q5 : ∀ w ∈ Cmp5.tab :: words, w.before a s = true := fun w hw => (List.mem_cons.mp hw).elim (fun e => e ▸ h5) (h w)
  have h3 : Cmp3.tab.before a s = true := unparts (wk q5 (.code Cmp3.yN Cmp3.yB 6 (some (.array .byte)))) (wks q5 (.initialized Cmp3.yN.cls :: Cmp3.site))
  have q3 : ∀ w ∈ Cmp3.tab :: CodL.tab :: words, w.before a s = true := fun w hw => (List.mem_cons.mp hw).elim (fun e => e ▸ h3) fun hw => (List.mem_cons.mp hw).elim (fun e => e ▸ hc) (h w)
  have h4 : New4.tab.before a s = true := unparts (wk q3 (.code New4.yN New4.yB 6 none)) (wks q3 (.initialized New4.yN.cls :: New4.site))
  have q4 : ∀ w ∈ New4.tab :: words, w.before a s = true := fun w hw => (List.mem_cons.mp hw).elim (fun e => e ▸ h4) (h w)
  exact unparts (wk q4 (.code New1.yN New1.yB 2 none)) (wks q4 (.initialized New1.yN.cls :: New1.site))
/-- the words ride from the start Z to the walk's own state -/
theorem moved {Z s : State} {a0 args : Array Value} (hZ : Z.Warmed39 s.vm) (hw : ∀ d ∈ words, d.before a0 Z = true) : ∀ d ∈ words, d.before args s = true := fun d hd => by
  have q := hw d hd
  have t : ∀ d ∈ words, d = .arrayClass .byte ∨ (d.onTables && d.keepsFace) = true := by decide +kernel
  rcases t d hd with rfl | t
  · exact RoadKit.mvA hZ q
  · exact RoadKit.mv hZ q t
/-- WHAT COMES BACK, over the tables of the start Z: h the heap at the call, h' behind it -/
def Q (Z : State) (x : Addr) (A : Cell) (h : Heap) (v : Option Value) (h' : Heap) (L : List Loc) : Prop := v = none ∧ (∀ y ∈ L, y.base = x) ∧ RoadKit.Keep h h' [x] ∧ h'.size = h.size + 1 ∧ RoadKit.Exa Z h' x ST ∧ RoadKit.Fld Z h' x ST "value" "[B" (.ref h.size) ∧ RoadKit.Fld Z h' x ST "coder" "B" (.int 0) ∧
  (∃ V : Cell, RoadKit.Arr Z h' h.size V .byte ∧ V.vm = .none ∧ Z.vm.findClass "[B" = some V.cls ∧ V.slots.size = A.slots.size ∧ ∀ j, j < A.slots.size → V.slots[j]? = some (.int (lo8 (cv A j)))) ∧
  ∀ (O n d : String) (w : Value), RoadKit.Fld Z h x O n d w → RoadKit.slotOf Z O n d ≠ RoadKit.slotOf Z ST "value" "[B" → RoadKit.slotOf Z O n d ≠ RoadKit.slotOf Z ST "coder" "B" → RoadKit.Fld Z h' x O n d w
/-- **new String(chars) AT A CALL, IN THE ROAD'S FORM**: for specialBack behind newO: x the fresh String, b the char[] with the cell A -/
theorem back {p : Program} {l : Launch} {e : Env} {R : Room} {s : State} {args : Array Value} {below : List Frame} {len W : Nat} {Z : State} {a0 : Array Value} {h : Heap} (hZ : Z.Warmed39 s.vm) (hw : ∀ d ∈ words, d.before a0 Z = true) {kI : Nat} (wi : (Jvm.Cond.instantiable ST kI).before a0 Z = true)
    {x b : Addr} {A : Cell} {z : Int32} {v0 c0 : Value} (E : RoadKit.Exa Z h x ST) (V : RoadKit.Fld Z h x ST "value" "[B" v0) (C : RoadKit.Fld Z h x ST "coder" "B" c0) (K : RoadKit.Arr Z h b A .char) (hty : Typed .char A) (S : RoadKit.Sta Z h ST "COMPACT_STRINGS" "Z" (.int z)) (hz : ¬ z = 0)
    (l0 : 0 < A.slots.size) (l2 : A.slots.size ≤ 536870912) (hp : ∀ i, i < A.slots.size → ¬ 255 < cv A i) (hfr : 4 ≤ R.frames) (hlo : W + 65 ≤ R.locals) :
    Back l R p e below s args New1.yN len W (fun P a => a = #[.ref x, .ref b] ∧ P.U.heap = h ∧ P.cells + 1 ≤ R.cells ∧ P.slots + A.slots.size ≤ R.slots)
      (fun P _ v B => ∃ L, Q Z x A h v B.U.heap L ∧ B.locs = P.locs ++ L ∧ B.cells = P.cells + 1 ∧ B.slots = P.slots + A.slots.size) := by
  intro m meth c P g ig mk a X hg hsize hdg hW hn hp'
  obtain ⟨rfl, rfl, r1, r2⟩ := hp'
  have al : Z.vm.Alike P.U.vm := hZ.alike.trans X.warmed.alike
  obtain ⟨D, cfV, kV, iV, fV, hD, gV, stV, knV, obV, asV, slV⟩ := id V
  obtain ⟨D', cfC, kC, iC, fC, hD', gC, stC, -, -, asC, slC⟩ := id C
  cases hD.symm.trans hD'
  obtain ⟨D2, kD, e1, e2, e3, e4, e5⟩ := id E
  cases hD.symm.trans e1
  obtain ⟨c2, k2, i1, i2, i3, -⟩ := Cond.instantiable_spec wi
  cases e2.symm.trans i1
  cases e3.symm.trans i2
  obtain ⟨kU, u1, u2⟩ := al.2.2 _ _ e3
  have hB : Blank ST x D P.U := ⟨hD, ⟨knV, fun q hq => by rw [hq] at obV; cases obV⟩, by rw [al.findClass]; exact e2, kU, u1, by rw [u2]; exact i3, by rw [u2]; exact e5 i3⟩
  have F1 : Found ST "value" "[B" fV P.U := ⟨SBG.found_only al ⟨cfV, kV, iV, gV⟩, stV⟩
  have F2 : Found ST "coder" "B" fC P.U := ⟨SBG.found_only al ⟨cfC, kC, iC, gC⟩, stC⟩
  have hA : Ch b A P.U := ⟨⟨K.1, State.isArrayOf_alike al K.2.1, K.2.2, by omega⟩, hty⟩
  have hS : StaticIs P.U ST "COMPACT_STRINGS" "Z" (.int z) := by
    obtain ⟨cfS, iS, kS, fS, st, cS, t1, t2, t3, t4, t5, t6, t7⟩ := S
    exact StaticIs.there (s := { Z with heap := P.U.heap }) ⟨cfS, iS, kS, fS, st, cS, t1, t2, t3, t4, t5, (fun q => by rw [q] at t6; cases t6), t7⟩ al rfl
  obtain ⟨v, B, X', ⟨⟨hv, E', V', q1, q2, q3, q4, q5, q6, q7, q8, q9, q10, q11⟩, hl, hc, hs⟩, st⟩ := New1.pays x D fV fC b A z (tab_of (moved hZ hw)) hfr hlo m meth c P g ig mk _ X hg hsize hdg hW hn ⟨r1, r2, rfl, hB, F1, F2, hA, hS, hz, l0, l2, hp⟩
  have al' : Z.vm.Alike B.U.vm := hZ.alike.trans X'.warmed.alike
  have hsz : E'.slots.size = D.slots.size := by
    obtain ⟨-, -, -, kB, w1, w2, w3⟩ := q1
    obtain ⟨kB', y1, y2⟩ := al'.2.2 _ _ e3
    rw [q2.2.1] at w1
    cases w1.symm.trans y1
    rw [w3, e5 i3, y2]
  refine ⟨v, B, X', ⟨_, ⟨hv, ?_, ⟨by omega, fun y cy hy hn' => q10 y cy (by simpa using hn') hy, fun y cy hy => ?_⟩, q11, ⟨E', _, q1.1, by rw [q2.2.1]; exact e2, by rw [q2.2.1]; exact e3, by rw [q2.1]; exact obV, fun _ => by rw [hsz]; exact e5 i3⟩,
    ⟨E', cfV, kV, iV, fV, q1.1, gV, stV, by rw [q2.1]; exact knV, by rw [q2.1]; exact obV, by rw [q2.2.1]; exact asV, q3⟩, ⟨E', cfC, kC, iC, fC, q1.1, gC, stC, by rw [q2.1]; exact knV, by rw [q2.1]; exact obV, by rw [q2.2.1]; exact asC, q4⟩,
    ⟨V', ⟨q5.1, State.isArrayOf_alike al'.symm q5.2.1, q5.2.2.1⟩, q6, by rw [← al'.findClass]; exact q7, q8, fun j hj => by have := q9 j hj; rwa [Nat.zero_add] at this⟩, fun O n d w F n1 n2 => ?_⟩, hl, hc, hs⟩, st⟩
  · intro y hy
    simp only [List.mem_cons, List.not_mem_nil, or_false] at hy
    rcases hy with rfl | rfl <;> rfl
  · by_cases q : y = x
    · subst q
      cases hD.symm.trans hy
      exact ⟨E', q1.1, q2.2.1, q2.1, hsz⟩
    · exact ⟨cy, q10 y cy q hy, rfl, rfl, rfl⟩
  · obtain ⟨D3, cf, k, i, f, g1, g2, g3, g4, g5, g6, g7⟩ := F
    cases hD.symm.trans g1
    simp only [RoadKit.slotOf, g2, gV, gC, Option.map_some, Option.getD_some] at n1 n2
    exact ⟨E', cf, k, i, f, q1.1, g2, g3, by rw [q2.1]; exact g4, by rw [q2.1]; exact g5, by rw [q2.2.1]; exact g6, by rw [q2.2.2 f.slot (by simp [n1, n2])]; exact g7⟩
end StrChars.Road
namespace StrChars.Road
open Jvm Sem ClassFile Op Lib Jvm.Stand Jvm.Free Jvm.Free.XT
/-- WHAT COMES BACK, the byte[] as a list of values -/
def QA (Z : State) (x : Addr) (zn : Int32) (cs : List Int32) (h : Heap) (v : Option Value) (h' : Heap) (L : List Loc) : Prop := v = none ∧ (∀ y ∈ L, y.base = x) ∧ RoadKit.Keep h h' [x] ∧ h'.size = h.size + 1 ∧ RoadKit.Exa Z h' x ST ∧ RoadKit.Fld Z h' x ST "value" "[B" (.ref h.size) ∧ RoadKit.Fld Z h' x ST "coder" "B" (.int 0) ∧
  (∃ kb, Z.vm.findClass "[B" = some kb ∧ RoadKit.Arv Z h' h.size kb .byte zn (cs.map fun c => .int (lo8 c)) (.int 0)) ∧
  ∀ (O n d : String) (w : Value), RoadKit.Fld Z h x O n d w → RoadKit.slotOf Z O n d ≠ RoadKit.slotOf Z ST "value" "[B" → RoadKit.slotOf Z O n d ≠ RoadKit.slotOf Z ST "coder" "B" → RoadKit.Fld Z h' x O n d w
/-- **new String(chars) AT A CALL, THE ARRAYS AS LISTS**: the char[] at b holds cs, not empty, no char above 255 -/
theorem backArv {p : Program} {l : Launch} {e : Env} {R : Room} {s : State} {args : Array Value} {below : List Frame} {len W : Nat} {Z : State} {a0 : Array Value} {h : Heap} (hZ : Z.Warmed39 s.vm) (hw : ∀ d ∈ words, d.before a0 Z = true) {kI : Nat} (wi : (Jvm.Cond.instantiable ST kI).before a0 Z = true)
    {x b : Addr} {k : ClassId} {zn z : Int32} {cs : List Int32} {dv v0 c0 : Value} (E : RoadKit.Exa Z h x ST) (V : RoadKit.Fld Z h x ST "value" "[B" v0) (C : RoadKit.Fld Z h x ST "coder" "B" c0) (K : RoadKit.Arv Z h b k .char zn (cs.map Value.int) dv) (S : RoadKit.Sta Z h ST "COMPACT_STRINGS" "Z" (.int z)) (hz : ¬ z = 0)
    (hlen : zn.toNatClampNeg = cs.length) (h0 : 0 < cs.length) (hbig : cs.length ≤ 536870912) (hall : ∀ c ∈ cs, ¬ 255 < c) (hfr : 4 ≤ R.frames) (hlo : W + 65 ≤ R.locals) :
    Back l R p e below s args New1.yN len W (fun P a => a = #[.ref x, .ref b] ∧ P.U.heap = h ∧ P.cells + 1 ≤ R.cells ∧ P.slots + cs.length ≤ R.slots)
      (fun P _ v B => ∃ L, QA Z x zn cs h v B.U.heap L ∧ B.locs = P.locs ++ L ∧ B.cells = P.cells + 1 ∧ B.slots = P.slots + cs.length) := by
  obtain ⟨A, K1, K2, K3, K4, K5, K6⟩ := K
  have e : A.slots.size = cs.length := K3.trans hlen
  have hat : ∀ (i : Nat) (hi : i < cs.length), A.slots[i]? = some (.int cs[i]) := fun i hi => by rw [K5 i (by omega)]; simp [List.getD_eq_getElem?_getD, hi]
  have hcv : ∀ (i : Nat) (hi : i < cs.length), cv A i = cs[i] := fun i hi => by unfold cv; rw [hat i hi]
  have hty : Typed .char A := fun i v hv => by
    have hi : i < A.slots.size := (Array.getElem?_eq_some_iff.mp hv).1
    have q := K5 i hi
    rw [hv] at q
    rw [Option.some.inj q]
    exact K6 i hi
  refine Back.mono (back hZ hw wi E V C K1 hty S hz (by omega) (by omega) (fun i hi => by rw [hcv i (by omega)]; exact hall _ (List.getElem_mem _)) hfr hlo) (fun P a hp => ⟨hp.1, hp.2.1, hp.2.2.1, by rw [e]; exact hp.2.2.2⟩) (fun P a v B hp hq => ?_)
  obtain ⟨L, ⟨q1, q2, q3, q4, q5, q6, q7, ⟨V', v1, v2, v3, v4, v5⟩, q9⟩, hl, hc, hs⟩ := hq
  refine ⟨L, ⟨q1, q2, q3, q4, q5, q6, q7, ⟨V'.cls, v3, V', v1, rfl, by rw [v4, e, hlen], K4, fun i hi => ?_, fun i hi => ?_⟩, q9⟩, hl, hc, by rw [hs, e]⟩
  · have hi' : i < cs.length := by omega
    rw [v5 i (by omega), hcv i hi']; simp [List.getD_eq_getElem?_getD, hi']
  · have hi' : i < cs.length := by omega
    simp only [List.getD_eq_getElem?_getD, List.getElem?_map, List.getElem?_eq_getElem hi', Option.map_some, Option.getD_some]
    exact fits_lo8 _
end StrChars.Road
namespace StrChars.Road
open Jvm Sem ClassFile Op Lib Jvm.Stand Jvm.Free Jvm.Free.XT
/-- WHAT COMES BACK, in the writer's own shape -/
def QV (Z : State) (x : Addr) (N : Int32) (bs : List Int32) (h : Heap) (n0 : Nat) (v : Option Value) (h' : Heap) (L : List Loc) : Prop := v = none ∧ RoadKit.Fr n0 L ∧ RoadKit.Keep h h' [x] ∧ RoadKit.Exa Z h' x ST ∧ RoadKit.Fld Z h' x ST "coder" "B" (.int 0) ∧
  ∃ (t : Addr) (kb : ClassId), n0 ≤ t ∧ h.size ≤ t ∧ ¬ t = x ∧ RoadKit.Fld Z h' x ST "value" "[B" (.ref t) ∧ RoadKit.Arv Z h' t kb .byte N (bs.map Value.int) (.int 0)
/-- **new String(chars) AT A CALL, FOR THE WRITER**: a char[] of n known ints, each 0 to 255 -/
theorem backV {p : Program} {l : Launch} {e : Env} {R : Room} {s : State} {args : Array Value} {below : List Frame} {len W : Nat} {Z : State} {a0 : Array Value} {h : Heap} (hZ : Z.Warmed39 s.vm) (hw : ∀ d ∈ words, d.before a0 Z = true) {kI : Nat} (wi : (Jvm.Cond.instantiable ST kI).before a0 Z = true)
    {x b : Addr} {kC : ClassId} {cs bs : List Int32} {d v0 c0 : Value} {z N : Int32} {n n0 : Nat} (hx0 : n0 ≤ x) (hh0 : n0 ≤ h.size) (E : RoadKit.Exa Z h x ST) (V : RoadKit.Fld Z h x ST "value" "[B" v0) (C : RoadKit.Fld Z h x ST "coder" "B" c0) (K : RoadKit.Arv Z h b kC .char N (cs.map Value.int) d) (S : RoadKit.Sta Z h ST "COMPACT_STRINGS" "Z" (.int z)) (hz : ¬ z = 0)
    (hn : cs.length = n) (hN : N = Int32.ofNat n) (l0 : 0 < n) (l2 : n ≤ 4000) (hp : ∀ c ∈ cs, ¬ c < 0 ∧ ¬ (255 : Int32) < c) (hb : bs = cs.map (fun c => c.toInt8.toInt32)) (hfr : 4 ≤ R.frames) (hlo : W + 65 ≤ R.locals) :
    Back l R p e below s args (⟨"java/lang/String", "<init>", "([C)V"⟩ : MethodName) len W (fun P a => a = #[.ref x, .ref b] ∧ P.U.heap = h ∧ P.cells + 1 ≤ R.cells ∧ P.slots + n ≤ R.slots)
      (fun P _ v B => ∃ L, QV Z x N bs h n0 v B.U.heap L ∧ B.locs = P.locs ++ L ∧ B.cells = P.cells + 1 ∧ B.slots = P.slots + n) := by
  subst hn hN hb
  refine Back.mono (backArv hZ hw wi E V C K S hz (n32 (by omega)) l0 (by omega) (fun c hc => (hp c hc).2) hfr hlo) (fun P a hp => hp) (fun P a v B hp hq => ?_)
  obtain ⟨L, ⟨q1, q2, q3, q4, q5, q6, q7, ⟨kb, v1, v2⟩, q9⟩, hl, hc, hs⟩ := hq
  exact ⟨L, ⟨q1, fun y hy => by rw [q2 y hy]; exact hx0, q3, q5, q7, h.size, kb, hh0, Nat.le_refl _, Nat.ne_of_gt E.lt, q6, by rw [List.map_map]; exact v2⟩, hl, hc, hs⟩
end StrChars.Road
namespace StrChars
open Jvm Sem ClassFile Op Lib Jvm.Stand Jvm.Free.XT Jvm.Free.ALB Jvm.Free.JM Jvm.Free
open Jvm.Lib.Cold (StaticIs)
def hi8 (x : Int32) : Int32 := lo8 (x >>> ((8 : Int32) &&& 31))
/-- what StringUTF16.getChar makes of two bytes -/
def pairCh (u v : Int32) : Int32 := (((u &&& 255) <<< ((0 : Int32) &&& 31)) ||| ((v &&& 255) <<< ((8 : Int32) &&& 31))).toUInt32.toUInt16.toUInt32.toInt32
theorem shr0 (c : Int32) : c >>> ((0 : Int32) &&& 31) = c := by
  have e : ((0 : Int32) &&& 31) = 0 := by decide
  rw [e]
  apply Int32.toBitVec_inj.mp
  rw [Int32.toBitVec_shiftRight]
  have e1 : ((0 : Int32).toBitVec.smod 32) = 0#32 := by decide
  rw [e1, BitVec.sshiftRight_eq']
  exact BitVec.sshiftRight_zero
theorem lo8_and (x : Int32) : (lo8 x &&& 255).toBitVec.toNat = x.toBitVec.toNat % 256 := by
  have h : (lo8 x).toBitVec = (x.toBitVec.signExtend 8).signExtend 32 := by rw [lo8, Int8.toBitVec_toInt32, Int32.toBitVec_toInt8]
  rw [Int32.toBitVec_and, BitVec.toNat_and, h]
  have e : ((x.toBitVec.signExtend 8).signExtend 32).toNat % 256 = x.toBitVec.toNat % 256 := by
    rw [BitVec.toNat_signExtend]
    have hlt := x.toBitVec.isLt
    simp only [BitVec.toNat_setWidth, BitVec.toNat_signExtend]
    split <;> split <;> omega
  rw [← e]
  exact Nat.and_two_pow_sub_one_eq_mod _ 8
theorem pair_says {c : Int32} (h0 : ¬ c < 0) (h1 : ¬ 65535 < c) : pairCh (lo8 c) (hi8 c) = c := by
  rw [Int32.lt_iff_toInt_lt] at h0 h1
  have e0 : (0 : Int32).toInt = 0 := rfl
  have e1 : (65535 : Int32).toInt = 65535 := rfl
  have hc : c.toInt = c.toBitVec.toNat := by
    have := c.toBitVec.isLt
    have e : c.toInt = c.toBitVec.toInt := rfl
    rw [e] at h0 h1
    rw [e]
    rw [BitVec.toInt_eq_toNat_cond] at h0 h1 ⊢
    split at h0 <;> split <;> omega
  have hn : c.toBitVec.toNat < 65536 := by omega
  have a1 := lo8_and c
  have a2 : (hi8 c &&& 255).toBitVec.toNat = c.toBitVec.toNat / 256 := by
    rw [hi8, lo8_and]
    have e : ((8 : Int32) &&& 31) = 8 := by decide
    rw [e, Int32.toBitVec_shiftRight]
    have e2 : ((8 : Int32).toBitVec.smod 32) = 8#32 := by decide
    rw [e2, BitVec.sshiftRight_eq', BitVec.toNat_sshiftRight_of_msb_false (by rw [BitVec.msb_eq_false_iff_two_mul_lt]; omega)]
    show c.toBitVec.toNat >>> 8 % 256 = _
    rw [Nat.shiftRight_eq_div_pow]
    omega
  unfold pairCh
  apply Int32.toBitVec_inj.mp
  apply BitVec.eq_of_toNat_eq
  have f0 : ((0 : Int32) &&& 31) = 0 := by decide
  have f8 : ((8 : Int32) &&& 31) = 8 := by decide
  rw [f0, f8]
  have g : (((lo8 c &&& 255) <<< (0 : Int32)) ||| ((hi8 c &&& 255) <<< (8 : Int32))).toBitVec.toNat = c.toBitVec.toNat := by
    rw [Int32.toBitVec_or, Int32.toBitVec_shiftLeft, Int32.toBitVec_shiftLeft]
    have s0 : ((0 : Int32).toBitVec.smod 32) = 0#32 := by decide
    have s8 : ((8 : Int32).toBitVec.smod 32) = 8#32 := by decide
    rw [s0, s8, BitVec.toNat_or]
    simp only [BitVec.shiftLeft_eq', BitVec.toNat_shiftLeft, a1, a2]
    show (c.toBitVec.toNat % 256) <<< 0 % 2 ^ 32 ||| (c.toBitVec.toNat / 256) <<< 8 % 2 ^ 32 = _
    rw [Nat.shiftLeft_zero, Nat.mod_eq_of_lt (show c.toBitVec.toNat % 256 < 2 ^ 32 by omega), Nat.mod_eq_of_lt (show (c.toBitVec.toNat / 256) <<< 8 < 2 ^ 32 by rw [Nat.shiftLeft_eq]; omega), Nat.or_comm, ← Nat.shiftLeft_add_eq_or_of_lt (by omega), Nat.shiftLeft_eq]
    omega
  show BitVec.toNat (((((lo8 c &&& 255) <<< (0 : Int32)) ||| ((hi8 c &&& 255) <<< (8 : Int32))).toBitVec.setWidth 16).setWidth 32) = _
  rw [BitVec.toNat_setWidth, BitVec.toNat_setWidth, g]
  omega
end StrChars
namespace StrChars
open Jvm Sem ClassFile Op Lib Jvm.Stand Jvm.Free.XT Jvm.Free.ALB Jvm.Free.JM Jvm.Free
open Jvm.Lib.Cold (StaticIs)
theorem shr1 {n : Nat} (h : 2 * n < 2 ^ 31) : Int32.ofNat (2 * n) >>> ((1 : Int32) &&& 31) = Int32.ofNat n := by
  have e : ((1 : Int32) &&& 31) = 1 := by decide
  rw [e]
  apply Int32.toBitVec_inj.mp
  rw [Int32.toBitVec_shiftRight]
  have e1 : ((1 : Int32).toBitVec.smod 32) = 1#32 := by decide
  have hm : (BitVec.ofNat 32 (2 * n)).toNat = 2 * n := by rw [BitVec.toNat_ofNat, Nat.mod_eq_of_lt (by omega)]
  rw [e1, BitVec.sshiftRight_eq']
  apply BitVec.eq_of_toNat_eq
  show ((BitVec.ofNat 32 (2 * n)).sshiftRight 1).toNat = (BitVec.ofNat 32 n).toNat
  rw [BitVec.toNat_sshiftRight_of_msb_false (by rw [BitVec.msb_eq_false_iff_two_mul_lt, hm]; omega), hm, BitVec.toNat_ofNat, Nat.shiftRight_eq_div_pow]
  omega
/-- charAt's cast of a byte read back -/
def chr8 (u : Int32) : Int32 := (u &&& 255).toUInt32.toUInt16.toUInt32.toInt32
theorem chr8_lo8 {c : Int32} (h0 : ¬ c < 0) (h1 : ¬ 255 < c) : chr8 (lo8 c) = c := by
  have t : ∀ k : Fin 256, (Int32.ofNat k.val).toUInt32.toUInt16.toUInt32.toInt32 = Int32.ofNat k.val := by decide +kernel
  unfold chr8
  rw [lo8_mask h0 h1]
  rw [Int32.lt_iff_toInt_lt] at h0 h1
  have e0 : (0 : Int32).toInt = 0 := rfl
  have e1 : (255 : Int32).toInt = 255 := rfl
  obtain ⟨k, hk⟩ : ∃ k : Nat, c.toInt = k := ⟨c.toInt.toNat, by omega⟩
  have hx : c = Int32.ofNat k := Int32.toInt_inj.mp (by rw [hk, Int32.toInt_ofNat_small (by omega)])
  rw [hx]
  exact t ⟨k, by omega⟩
theorem narrow_ch {c : Int32} (h0 : ¬ c < 0) (h1 : ¬ 65535 < c) : narrow .char (.int c) = .int c := by
  have q : narrow .char (.int (pairCh (lo8 c) (hi8 c))) = .int (pairCh (lo8 c) (hi8 c)) := narrow_c _
  rwa [pair_says h0 h1] at q
/-- the array's cell V codes the n chars f 0 .. f (n - 1) by the coder cd, as the JDK does: coder 1 just where some char is above 255 -/
def Cod (cd : Int32) (n : Nat) (f : Nat → Int32) (V : Cell) : Prop := (cd = 0 ∧ V.slots.size = n ∧ ∀ j, j < n → V.slots[j]? = some (.int (lo8 (f j))) ∧ ¬ 255 < f j) ∨ (cd = 1 ∧ V.slots.size = 2 * n ∧ (∀ j, j < n → V.slots[2 * j]? = some (.int (lo8 (f j))) ∧ V.slots[2 * j + 1]? = some (.int (hi8 (f j)))) ∧ ∃ j, j < n ∧ 255 < f j)
theorem Cod.cd {cd : Int32} {n : Nat} {f : Nat → Int32} {V : Cell} (h : Cod cd n f V) : cd = 0 ∨ cd = 1 := h.imp (fun q => q.1) fun q => q.1
theorem Cod.len {cd : Int32} {n : Nat} {f : Nat → Int32} {V : Cell} (h : Cod cd n f V) (hs : V.slots.size < 2 ^ 31) : Int32.ofNat V.slots.size >>> (cd &&& 31) = Int32.ofNat n := by
  rcases h with ⟨rfl, h, -⟩ | ⟨rfl, h, -⟩
  · rw [shr0, h]
  · rw [h, shr1 (by omega)]
/-- **x is a String of the n chars f 0 .. f (n - 1)**, Latin-1 or UTF-16; its array at t has the cell V -/
def Txt (x t : Addr) (V : Cell) (cd : Int32) (n : Nat) (f : Nat → Int32) (U : State) : Prop := Exact "java/lang/String" x U ∧ Has x "java/lang/String" "value" "[B" (.ref t) U ∧ Has x "java/lang/String" "coder" "B" (.int cd) U ∧ XT.Arr .byte t V U ∧ Cod cd n f V ∧ ∀ j, j < n → ¬ f j < 0 ∧ ¬ 65535 < f j
theorem Txt.mv {x t : Addr} {V : Cell} {cd : Int32} {n : Nat} {f : Nat → Int32} {U U' : State} (h : Txt x t V cd n f U) (hal : U.vm.Alike U'.vm) (hh : U'.heap = U.heap) : Txt x t V cd n f U' := ⟨h.1.mv hal hh, h.2.1.mv hal hh, h.2.2.1.mv hal hh, h.2.2.2.1.mv hal hh, h.2.2.2.2⟩
namespace Cdr
def yN : MethodName := ⟨"java/lang/String", "coder", "()B"⟩
abbrev yB : ByteArray := jdk_42_method_152_code
theorem d0 : decode yB 0 = .ok (.getstatic 38, 3) := by decide +kernel
theorem d3 : decode yB 3 = .ok (.ifCond (.eq) 10, 3) := by decide +kernel
theorem d6 : decode yB 6 = .ok (.aload_n 0, 1) := by decide +kernel
theorem d7 : decode yB 7 = .ok (.getfield 15, 3) := by decide +kernel
theorem d10 : decode yB 10 = .ok (.goto 4, 3) := by decide +kernel
theorem d14 : decode yB 14 = .ok (.ireturn, 1) := by decide +kernel
def site : List Cond := [.fieldLink "java/lang/String" 38 "java/lang/String" "COMPACT_STRINGS" "Z", .fieldLink "java/lang/String" 15 "java/lang/String" "coder" "B"]
def tab : Cond := tabOf yN yB 1 (some .byte) site
def P (x : Addr) (cd z : Int32) (args : Array Value) (s : State) : Prop := args = #[.ref x] ∧ Has x "java/lang/String" "coder" "B" (.int cd) s ∧ (cd = 0 ∨ cd = 1) ∧ StaticIs s "java/lang/String" "COMPACT_STRINGS" "Z" (.int z) ∧ ¬ z = 0
def E (cd : Int32) (r : Option Value) (s u : State) : Prop := XT.PureE (some (.int cd)) r s u
theorem law (l : Launch) (x : Addr) (cd z : Int32) : Law l yN 1 0 0 0 yB 1 (some .byte) site (P x cd z) (E cd) [] 0 0 := by
  refine Law.of_walk (plainFor_of_name (by decide +kernel)) (by decide +kernel) (by decide +kernel) (by decide) (fun _ _ h => by rw [h.1]; rfl) (fun _ U U' hal hh h => ⟨h.1, h.2.1.mv hal hh, h.2.2.1, h.2.2.2.1.there hal hh, h.2.2.2.2⟩) (fun r U U' V V' h1 hal h2 h => XT.PureE.mv r U U' V V' h1 hal h2 h) ?_
  intro p e s m args below meth c s₁ X0 hexec hbytes hml hret hlk hnm hown hh0 W hP
  obtain ⟨rfl, hx, hc, s1, hz⟩ := hP
  have c1 : Steps p.tables e below (s₁.setTop (entryFrame m #[.ref x] 1)) (s₁.setTop (mkF m 0 #[.val (.ref x)] [])) := entry rfl
  obtain ⟨T2, X2, q2, st2⟩ := X0.sget hexec hown (wk W (.fieldLink "java/lang/String" 38 "java/lang/String" "COMPACT_STRINGS" "Z")) s1 (fun _ _ h => by rw [hh0]; exact h) (g := (mkF m 0 #[.val (.ref x)] [])) rfl (hb hbytes d0)
  have hh2 := q2.trans hh0
  have c3 : Steps p.tables e below (s₁.setTop (entryFrame m #[.ref x] 1)) (T2.setTop (mkF m 7 #[.val (.ref x)] [.ref x])) := (c1.trans (st2 _ (Steps.refl _))).trans (by
    refine XS.ifNo X2.here hexec rfl (hb hbytes d3) rfl (i0_eq_f hz) ?_
    refine XS.aloadN X2.here hexec rfl (hb hbytes d6) rfl rfl ?_
    exact Steps.refl _)
  obtain ⟨T4, X4, q4, st4⟩ := X2.hget hexec hown (wk W (.fieldLink "java/lang/String" 15 "java/lang/String" "coder" "B")) (hx.mv X2.warmed.alike hh2) (g := (mkF m 7 #[.val (.ref x)] [.ref x])) rfl (rest := []) rfl (hb hbytes d7)
  have c5 : Steps p.tables e below (s₁.setTop (entryFrame m #[.ref x] 1)) (T4.setTop (mkF m 14 #[.val (.ref x)] [.int cd])) := (c3.trans (st4 _ (Steps.refl _))).trans (by
    refine XS.goto X4.here hexec rfl (pc0 := 10) rfl (hb hbytes d10) (by decide) rfl ?_
    exact Steps.refl _)
  exact ⟨T4, some (.int cd), _, _, _, X4, rfl, rfl, rfl, (fun h => by cases h), ⟨rfl, q4.trans hh2⟩, fun fs hl => c5.trans (X4.ireturnOut hexec hret (by rcases hc with rfl | rfl <;> rfl) (Or.inr (Or.inr (Or.inl rfl))) (hb hbytes d14) hl)⟩
end Cdr
namespace Len
def yN : MethodName := ⟨"java/lang/String", "length", "()I"⟩
abbrev yB : ByteArray := jdk_42_method_54_code
theorem d0 : decode yB 0 = .ok (.aload_n 0, 1) := by decide +kernel
theorem d1 : decode yB 1 = .ok (.getfield 9, 3) := by decide +kernel
theorem d4 : decode yB 4 = .ok (.arraylength, 1) := by decide +kernel
theorem d5 : decode yB 5 = .ok (.aload_n 0, 1) := by decide +kernel
theorem d6 : decode yB 6 = .ok (.invokevirtual 335, 3) := by decide +kernel
theorem d9 : decode yB 9 = .ok (.ishr, 1) := by decide +kernel
theorem d10 : decode yB 10 = .ok (.ireturn, 1) := by decide +kernel
def site : List Cond := [.fieldLink "java/lang/String" 9 "java/lang/String" "value" "[B", Cdr.tab] ++ virtW "java/lang/String" 335 "java/lang/String" Cdr.yN Cdr.yN
def tab : Cond := tabOf yN yB 1 (some .int) site
def P (x t : Addr) (V : Cell) (cd : Int32) (n : Nat) (f : Nat → Int32) (z : Int32) (args : Array Value) (s : State) : Prop := args = #[.ref x] ∧ Txt x t V cd n f s ∧ StaticIs s "java/lang/String" "COMPACT_STRINGS" "Z" (.int z) ∧ ¬ z = 0
def E (n : Nat) (r : Option Value) (s u : State) : Prop := XT.PureE (some (.int (Int32.ofNat n))) r s u
/-- length() of a String of n chars, in either coding -/
theorem law (l : Launch) (x t : Addr) (V : Cell) (cd : Int32) (n : Nat) (f : Nat → Int32) (z : Int32) : Law l yN 1 0 1 13 yB 1 (some .int) site (P x t V cd n f z) (E n) [] 0 0 := by
  refine Law.of_walk (plainFor_of_name (by decide +kernel)) (by decide +kernel) (by decide +kernel) (by decide) (fun _ _ h => by rw [h.1]; rfl) (fun _ U U' hal hh h => ⟨h.1, h.2.1.mv hal hh, h.2.2.1.there hal hh, h.2.2.2⟩) (fun r U U' V V' h1 hal h2 h => XT.PureE.mv r U U' V V' h1 hal h2 h) ?_
  intro p e s m args below meth c s₁ X0 hexec hbytes hml hret hlk hnm hown hh0 W hP
  obtain ⟨rfl, hx, s1, hz⟩ := hP
  have v31 := hx.2.2.2.1.2.2.2
  have c1 : Steps p.tables e below (s₁.setTop (entryFrame m #[.ref x] 1)) (s₁.setTop (mkF m 1 #[.val (.ref x)] [.ref x])) := Steps.trans (entry rfl) (by
    show Steps p.tables e below (s₁.setTop (mkF m 0 #[.val (.ref x)] [])) _
    refine XS.aloadN X0.here hexec rfl (hb hbytes d0) rfl rfl ?_
    exact Steps.refl _)
  obtain ⟨T2, X2, q2, st2⟩ := X0.hget hexec hown (wk W (.fieldLink "java/lang/String" 9 "java/lang/String" "value" "[B")) (hx.mv X0.warmed.alike hh0).2.1 (g := (mkF m 1 #[.val (.ref x)] [.ref x])) rfl (rest := []) rfl (hb hbytes d1)
  have hh2 := q2.trans hh0
  have hx2 := hx.mv X2.warmed.alike hh2
  have c3 : Steps p.tables e below (s₁.setTop (entryFrame m #[.ref x] 1)) (T2.setTop (mkF m 6 #[.val (.ref x)] [.ref x, .int (Int32.ofNat V.slots.size)])) := (c1.trans (st2 _ (Steps.refl _))).trans (by
    refine X2.alen hexec hx2.2.2.2.1 rfl rfl (hb hbytes d4) ?_
    refine XS.aloadN X2.here hexec rfl (hb hbytes d5) rfl rfl ?_
    exact Steps.refl _)
  obtain ⟨v4, T4, X4, E4, g4⟩ := X2.callV hexec (Cdr.law l x cd z) hown (wks W (virtW "java/lang/String" 335 "java/lang/String" Cdr.yN Cdr.yN)) rfl (by decide) (wk W Cdr.tab) (W := 1) (Nat.le_of_ble_eq_true rfl) (Nat.le_of_ble_eq_true rfl) (Nat.le_refl _) (Nat.le_refl _) (hx2.1.fc X2.warmed.alike) hx2.1.is (g := (mkF m 6 #[.val (.ref x)] [.ref x, .int (Int32.ofNat V.slots.size)])) rfl (by rw [hml]; rfl) c3 (argsL := []) (rest := [.int (Int32.ofNat V.slots.size)]) rfl rfl (by show 2 * 0 + (1 + 0) ≤ _; decide) (hb hbytes d6) (⟨rfl, hx2.2.2.1, hx.2.2.2.2.1.cd, s1.there X2.warmed.alike hh2, hz⟩)
  obtain ⟨rfl, q4⟩ := E4
  have c5 : Steps p.tables e below (s₁.setTop (entryFrame m #[.ref x] 1)) (T4.setTop (mkF m 10 #[.val (.ref x)] [.int (Int32.ofNat V.slots.size >>> (cd &&& 31))])) := Steps.trans g4 (by
    refine ishr X4.here hexec rfl (hb hbytes d9) rfl ?_
    exact Steps.refl _)
  rw [hx.2.2.2.2.1.len v31] at c5
  exact ⟨T4, some (.int (Int32.ofNat n)), _, _, _, X4, rfl, rfl, rfl, (fun h => by cases h), ⟨rfl, q4.trans hh2⟩, fun fs hl => c5.trans (X4.ireturnOut hexec hret rfl (Or.inl rfl) (hb hbytes d10) hl)⟩
theorem pays {l : Launch} {R : Room} {p : Program} {e : Env} {below : List Frame} {s : State} {sargs : Array Value} {len W : Nat} (x t : Addr) (V : Cell) (cd : Int32) (n : Nat) (f : Nat → Int32) (z : Int32) (htab : tab.before sargs s = true) (hfr : 2 ≤ R.frames) (hlo : W + 25 ≤ R.locals) :
    Back l R p e below s sargs yN len W (fun A₁ a₁ => A₁.cells + 0 ≤ R.cells ∧ A₁.slots + 0 ≤ R.slots ∧ P x t V cd n f z a₁ A₁.U) (fun A₁ _ v₁ B₁ => E n v₁ A₁.U B₁.U ∧ B₁.locs = A₁.locs ++ [] ∧ B₁.cells = A₁.cells + 0 ∧ B₁.slots = A₁.slots + 0) :=
  (law l x t V cd n f z).pays htab hfr (by omega)
end Len
namespace IsL
def yN : MethodName := ⟨"java/lang/String", "isLatin1", "()Z"⟩
abbrev yB : ByteArray := jdk_42_method_154_code
theorem d0 : decode yB 0 = .ok (.getstatic 38, 3) := by decide +kernel
theorem d3 : decode yB 3 = .ok (.ifCond (.eq) 14, 3) := by decide +kernel
theorem d6 : decode yB 6 = .ok (.aload_n 0, 1) := by decide +kernel
theorem d7 : decode yB 7 = .ok (.getfield 15, 3) := by decide +kernel
theorem d10 : decode yB 10 = .ok (.ifCond (.ne) 7, 3) := by decide +kernel
theorem d13 : decode yB 13 = .ok (.iconst 1, 1) := by decide +kernel
theorem d14 : decode yB 14 = .ok (.goto 4, 3) := by decide +kernel
theorem d17 : decode yB 17 = .ok (.iconst 0, 1) := by decide +kernel
theorem d18 : decode yB 18 = .ok (.ireturn, 1) := by decide +kernel
def site : List Cond := [.fieldLink "java/lang/String" 38 "java/lang/String" "COMPACT_STRINGS" "Z", .fieldLink "java/lang/String" 15 "java/lang/String" "coder" "B"]
def tab : Cond := tabOf yN yB 1 (some .boolean) site
def P (x : Addr) (cd z : Int32) (args : Array Value) (s : State) : Prop := args = #[.ref x] ∧ Has x "java/lang/String" "coder" "B" (.int cd) s ∧ (cd = 0 ∨ cd = 1) ∧ StaticIs s "java/lang/String" "COMPACT_STRINGS" "Z" (.int z) ∧ ¬ z = 0
def E (cd : Int32) (r : Option Value) (s u : State) : Prop := XT.PureE (some (.int (1 - cd))) r s u
theorem law (l : Launch) (x : Addr) (cd z : Int32) : Law l yN 1 0 0 0 yB 1 (some .boolean) site (P x cd z) (E cd) [] 0 0 := by
  refine Law.of_walk (plainFor_of_name (by decide +kernel)) (by decide +kernel) (by decide +kernel) (by decide) (fun _ _ h => by rw [h.1]; rfl) (fun _ U U' hal hh h => ⟨h.1, h.2.1.mv hal hh, h.2.2.1, h.2.2.2.1.there hal hh, h.2.2.2.2⟩) (fun r U U' V V' h1 hal h2 h => XT.PureE.mv r U U' V V' h1 hal h2 h) ?_
  intro p e s m args below meth c s₁ X0 hexec hbytes hml hret hlk hnm hown hh0 W hP
  obtain ⟨rfl, hx, hc, s1, hz⟩ := hP
  have c1 : Steps p.tables e below (s₁.setTop (entryFrame m #[.ref x] 1)) (s₁.setTop (mkF m 0 #[.val (.ref x)] [])) := entry rfl
  obtain ⟨T2, X2, q2, st2⟩ := X0.sget hexec hown (wk W (.fieldLink "java/lang/String" 38 "java/lang/String" "COMPACT_STRINGS" "Z")) s1 (fun _ _ h => by rw [hh0]; exact h) (g := (mkF m 0 #[.val (.ref x)] [])) rfl (hb hbytes d0)
  have hh2 := q2.trans hh0
  have c3 : Steps p.tables e below (s₁.setTop (entryFrame m #[.ref x] 1)) (T2.setTop (mkF m 7 #[.val (.ref x)] [.ref x])) := (c1.trans (st2 _ (Steps.refl _))).trans (by
    refine XS.ifNo X2.here hexec rfl (hb hbytes d3) rfl (i0_eq_f hz) ?_
    refine XS.aloadN X2.here hexec rfl (hb hbytes d6) rfl rfl ?_
    exact Steps.refl _)
  obtain ⟨T4, X4, q4, st4⟩ := X2.hget hexec hown (wk W (.fieldLink "java/lang/String" 15 "java/lang/String" "coder" "B")) (hx.mv X2.warmed.alike hh2) (g := (mkF m 7 #[.val (.ref x)] [.ref x])) rfl (rest := []) rfl (hb hbytes d7)
  have c5 : Steps p.tables e below (s₁.setTop (entryFrame m #[.ref x] 1)) (T4.setTop (mkF m 10 #[.val (.ref x)] [.int cd])) := c3.trans (st4 _ (Steps.refl _))
  have c6 : Steps p.tables e below (s₁.setTop (entryFrame m #[.ref x] 1)) (T4.setTop (mkF m 18 #[.val (.ref x)] [.int (1 - cd)])) := by
    rcases hc with rfl | rfl
    · exact c5.trans (by
        refine XS.ifNo X4.here hexec rfl (hb hbytes d10) rfl (i0_ne_f rfl) ?_
        refine iconstV X4.here hexec rfl 1 (hb hbytes d13) (by decide) ?_
        refine XS.goto X4.here hexec rfl (pc0 := 14) rfl (hb hbytes d14) (by decide) rfl ?_
        exact Steps.refl _)
    · exact c5.trans (by
        refine XS.ifYes X4.here hexec rfl (pc0 := 10) rfl (hb hbytes d10) rfl (i0_ne_t (by decide)) (by decide) rfl ?_
        refine iconstV X4.here hexec rfl 0 (hb hbytes d17) (by decide) ?_
        exact Steps.refl _)
  exact ⟨T4, some (.int (1 - cd)), _, _, _, X4, rfl, rfl, rfl, (fun h => by cases h), ⟨rfl, q4.trans hh2⟩, fun fs hl => c6.trans (X4.ireturnOut hexec hret (by rcases hc with rfl | rfl <;> rfl) (Or.inr (Or.inl rfl)) (hb hbytes d18) hl)⟩
end IsL
namespace LChA
def yN : MethodName := ⟨"java/lang/StringLatin1", "charAt", "([BI)C"⟩
abbrev yB : ByteArray := jdk_43_method_2_code
theorem d0 : decode yB 0 = .ok (.iload_n 1, 1) := by decide +kernel
theorem d1 : decode yB 1 = .ok (.aload_n 0, 1) := by decide +kernel
theorem d2 : decode yB 2 = .ok (.arraylength, 1) := by decide +kernel
theorem d3 : decode yB 3 = .ok (.invokestatic 9, 3) := by decide +kernel
theorem d6 : decode yB 6 = .ok (.aload_n 0, 1) := by decide +kernel
theorem d7 : decode yB 7 = .ok (.iload_n 1, 1) := by decide +kernel
theorem d8 : decode yB 8 = .ok (.baload, 1) := by decide +kernel
theorem d9 : decode yB 9 = .ok (.sipush 255, 3) := by decide +kernel
theorem d12 : decode yB 12 = .ok (.iand, 1) := by decide +kernel
theorem d13 : decode yB 13 = .ok (.i2c, 1) := by decide +kernel
theorem d14 : decode yB 14 = .ok (.ireturn, 1) := by decide +kernel
def site : List Cond := [JO.Str_checkIndex.tab] ++ staticW "java/lang/StringLatin1" 9 JO.Str_checkIndex.yN
def tab : Cond := tabOf yN yB 2 (some .char) site
def P (t : Addr) (V : Cell) (i : Nat) (u : Int32) (fm : Value) (args : Array Value) (s : State) : Prop := args = #[.ref t, .int (Int32.ofNat i)] ∧ XT.Arr .byte t V s ∧ V.slots[i]? = some (.int u) ∧ (StaticIs s "jdk/internal/util/Preconditions" "SIOOBE_FORMATTER" "Ljava/util/function/BiFunction;" fm ∧ fm.isRef = true)
def E (u : Int32) (r : Option Value) (s w : State) : Prop := XT.PureE (some (.int (chr8 u))) r s w
theorem law (l : Launch) (t : Addr) (V : Cell) (i : Nat) (u : Int32) (fm : Value) : Law l yN 2 2 2 27 yB 2 (some .char) site (P t V i u fm) (E u) [] 0 0 := by
  refine Law.of_walk (plainFor_of_name (by decide +kernel)) (by decide +kernel) (by decide +kernel) (by decide) (fun _ _ h => by rw [h.1]; rfl) (fun _ U U' hal hh h => ⟨h.1, h.2.1.mv hal hh, h.2.2.1, h.2.2.2.1.there hal hh, h.2.2.2.2⟩) (fun r U U' V V' h1 hal h2 h => XT.PureE.mv r U U' V V' h1 hal h2 h) ?_
  intro p e s m args below meth c s₁ X0 hexec hbytes hml hret hlk hnm hown hh0 W hP
  obtain ⟨rfl, hV, hu, s1, rf⟩ := hP
  have v31 := hV.2.2.2
  have hi : i < V.slots.size := (Array.getElem?_eq_some_iff.mp hu).1
  have c1 : Steps p.tables e below (s₁.setTop (entryFrame m #[.ref t, .int (Int32.ofNat i)] 2)) (s₁.setTop (mkF m 0 #[.val (.ref t), .val (.int (Int32.ofNat i))] [])) := entry rfl
  have c2 : Steps p.tables e below (s₁.setTop (entryFrame m #[.ref t, .int (Int32.ofNat i)] 2)) (s₁.setTop (mkF m 3 #[.val (.ref t), .val (.int (Int32.ofNat i))] [.int (Int32.ofNat V.slots.size), .int (Int32.ofNat i)])) := c1.trans (by
    refine XS.iloadN X0.here hexec rfl (hb hbytes d0) rfl ?_
    refine XS.aloadN X0.here hexec rfl (hb hbytes d1) rfl rfl ?_
    refine X0.alen hexec (hV.mv X0.warmed.alike hh0) rfl rfl (hb hbytes d2) ?_
    exact Steps.refl _)
  obtain ⟨v3, T3, X3, E3, g3⟩ := X0.callS hexec (JO.Str_checkIndex.law l (Int32.ofNat i) (Int32.ofNat V.slots.size) fm) hown (wks W (staticW "java/lang/StringLatin1" 9 JO.Str_checkIndex.yN)) (wk W JO.Str_checkIndex.tab) (W := 0) (Nat.le_of_ble_eq_true rfl) (Nat.le_of_ble_eq_true rfl) (Nat.le_refl _) (Nat.le_refl _) (g := (mkF m 3 #[.val (.ref t), .val (.int (Int32.ofNat i))] [.int (Int32.ofNat V.slots.size), .int (Int32.ofNat i)])) rfl (by rw [hml]; rfl) c2 (argsL := [.int (Int32.ofNat i), .int (Int32.ofNat V.slots.size)]) (rest := []) rfl rfl (by show 2 * 0 + 0 ≤ _; decide) (hb hbytes d3) (⟨rfl, rf, s1.there X0.warmed.alike hh0, Int32.ofNat_not_neg (by omega), lt32 v31 hi⟩)
  obtain ⟨rfl, q3⟩ := E3
  have hh3 := q3.trans hh0
  have c4 : Steps p.tables e below (s₁.setTop (entryFrame m #[.ref t, .int (Int32.ofNat i)] 2)) (T3.setTop (mkF m 14 #[.val (.ref t), .val (.int (Int32.ofNat i))] [.int (chr8 u)])) := Steps.trans g3 (by
    refine XS.aloadN X3.here hexec rfl (hb hbytes d6) rfl rfl ?_
    refine XS.iloadN X3.here hexec rfl (hb hbytes d7) rfl ?_
    refine X3.aget hexec (hV.mv X3.warmed.alike hh3) rfl hu rfl rfl (hb hbytes d8) ?_
    refine sipushV X3.here hexec rfl 255 (hb hbytes d9) (by decide) ?_
    refine XS.iand X3.here hexec rfl (hb hbytes d12) rfl ?_
    refine i2c X3.here hexec rfl (hb hbytes d13) rfl ?_
    exact Steps.refl _)
  exact ⟨T3, some (.int (chr8 u)), _, _, _, X3, rfl, rfl, rfl, (fun h => by cases h), ⟨rfl, hh3⟩, fun fs hl => c4.trans (X3.ireturnOut hexec hret (narrow_c _) (Or.inr (Or.inr (Or.inr (Or.inl rfl)))) (hb hbytes d14) hl)⟩
end LChA
end StrChars
namespace StrChars.Road
open Jvm Sem ClassFile Op Lib Jvm.Stand Jvm.Free Jvm.Free.XT
open Jvm.Lib.Cold (StaticIs)
theorem consq {a : Array Value} {s : State} {c : Jvm.Cond} {L : List Jvm.Cond} (h0 : c.before a s = true) (h : ∀ w ∈ L, w.before a s = true) : ∀ w ∈ c :: L, w.before a s = true := fun w hw => (List.mem_cons.mp hw).elim (fun e => e ▸ h0) (h w)
/-- the words of String.length(), either coding -/
abbrev wordsLen : List Jvm.Cond := [.code Len.yN Len.yB 1 (some .int), .initialized ST, .fieldLink ST 9 ST "value" "[B", .fieldLink ST 38 ST "COMPACT_STRINGS" "Z", .fieldLink ST 15 ST "coder" "B", .code Cdr.yN Cdr.yB 1 (some .byte), .methodLink ST 335 Cdr.yN, .declares Cdr.yN, .selects ST Cdr.yN Cdr.yN, .instanceMethod Cdr.yN]
theorem tabLen_of {a : Array Value} {s : State} (h : ∀ w ∈ wordsLen, w.before a s = true) : Len.tab.before a s = true := by
  have hc : Cdr.tab.before a s = true := unparts (wk h (.code Cdr.yN Cdr.yB 1 (some .byte))) (wks h (.initialized Cdr.yN.cls :: Cdr.site))
  have q := consq hc h
  exact unparts (wk q (.code Len.yN Len.yB 1 (some .int))) (wks q (.initialized Len.yN.cls :: Len.site))
theorem movedLen {Z s : State} {a0 args : Array Value} (hZ : Z.Warmed39 s.vm) (hw : ∀ d ∈ wordsLen, d.before a0 Z = true) : ∀ d ∈ wordsLen, d.before args s = true := fun d hd => by
  have q := hw d hd
  have t : ∀ d ∈ wordsLen, d = .arrayClass .byte ∨ (d.onTables && d.keepsFace) = true := by decide +kernel
  rcases t d hd with rfl | t
  · exact RoadKit.mvA hZ q
  · exact RoadKit.mv hZ q t
/-- the bytes of the chars cs, low before high -/
def wideBytes : List Int32 → List Value
  | [] => []
  | c :: cs => .int (lo8 c) :: .int (hi8 c) :: wideBytes cs
theorem wide_lo (d : Value) : ∀ (cs : List Int32) (j : Nat), j < cs.length → (wideBytes cs).getD (2 * j) d = .int (lo8 (cs.getD j 0))
  | [], j, h => absurd h (Nat.not_lt_zero j)
  | c :: cs, 0, _ => rfl
  | c :: cs, j + 1, h => by
    have q := wide_lo d cs j (by simpa using h)
    rw [show 2 * (j + 1) = 2 * j + 1 + 1 from by omega]
    simpa [wideBytes] using q
theorem wide_hi (d : Value) : ∀ (cs : List Int32) (j : Nat), j < cs.length → (wideBytes cs).getD (2 * j + 1) d = .int (hi8 (cs.getD j 0))
  | [], j, h => absurd h (Nat.not_lt_zero j)
  | c :: cs, 0, _ => rfl
  | c :: cs, j + 1, h => by
    have q := wide_hi d cs j (by simpa using h)
    rw [show 2 * (j + 1) + 1 = 2 * j + 1 + 1 + 1 from by omega]
    simpa [wideBytes] using q
theorem low_at (d : Value) (cs : List Int32) (j : Nat) (h : j < cs.length) : (cs.map fun c => Value.int (lo8 c)).getD j d = .int (lo8 (cs.getD j 0)) := by
  simp [List.getD_eq_getElem?_getD, h]
/-- an array of N2 bytes vs codes the chars cs by the coder cd -/
def CodA (cs : List Int32) (cd N2 : Int32) (vs : List Value) : Prop := (cd = 0 ∧ N2 = Int32.ofNat cs.length ∧ vs = (cs.map fun c => Value.int (lo8 c)) ∧ ∀ c ∈ cs, ¬ 255 < c) ∨ (cd = 1 ∧ N2 = Int32.ofNat (2 * cs.length) ∧ vs = wideBytes cs ∧ ∃ c ∈ cs, 255 < c)
theorem CodA.cod {cs : List Int32} {cd N2 : Int32} {vs : List Value} {V : Cell} (h : CodA cs cd N2 vs) (hn : 2 * cs.length < 2 ^ 31) (hs : V.slots.size = N2.toNatClampNeg) (hv : RoadKit.Has V vs (.int 0)) : Cod cd cs.length (fun j => cs.getD j 0) V := by
  rcases h with ⟨rfl, rfl, rfl, h⟩ | ⟨rfl, rfl, rfl, c, hc, hw⟩
  · rw [n32 (by omega)] at hs
    exact Or.inl ⟨rfl, hs, fun j hj => ⟨by rw [hv j (by omega), low_at _ _ _ hj], by
      have e : cs.getD j 0 = cs[j] := by simp [List.getD_eq_getElem?_getD, hj]
      show ¬ 255 < cs.getD j 0
      rw [e]; exact h _ (List.getElem_mem _)⟩⟩
  · rw [n32 (by omega)] at hs
    obtain ⟨j, hj, rfl⟩ := List.getElem_of_mem hc
    exact Or.inr ⟨rfl, hs, fun j hj => ⟨by rw [hv _ (by omega), wide_lo _ _ _ hj], by rw [hv _ (by omega), wide_hi _ _ _ hj]⟩, j, hj, by
      have e : cs.getD j 0 = cs[j] := by simp [List.getD_eq_getElem?_getD, hj]
      show 255 < cs.getD j 0
      rw [e]; exact hw⟩
/-- an object of exactly java/lang/String, its two fields found: as the laws ask it -/
theorem strObj {Z U : State} {a0 : Array Value} {kI : Nat} (wi : (Jvm.Cond.instantiable ST kI).before a0 Z = true) (al : Z.vm.Alike U.vm) {x : Addr} {v0 c0 : Value} (E : RoadKit.Exa Z U.heap x ST) (V : RoadKit.Fld Z U.heap x ST "value" "[B" v0) (C : RoadKit.Fld Z U.heap x ST "coder" "B" c0) :
    ∃ (D : Cell) (fV fC : Field), Blank ST x D U ∧ Found ST "value" "[B" fV U ∧ Found ST "coder" "B" fC U ∧ D.slots[fV.slot]? = some v0 ∧ D.slots[fC.slot]? = some c0 ∧ RoadKit.slotOf Z ST "value" "[B" = fV.slot ∧ RoadKit.slotOf Z ST "coder" "B" = fC.slot := by
  obtain ⟨D, cfV, kV, iV, fV, hD, gV, stV, knV, obV, asV, slV⟩ := V
  obtain ⟨D', cfC, kC, iC, fC, hD', gC, stC, -, -, asC, slC⟩ := C
  cases hD.symm.trans hD'
  obtain ⟨D2, kD, e1, e2, e3, e4, e5⟩ := E
  cases hD.symm.trans e1
  obtain ⟨c2, k2, i1, i2, i3, -⟩ := Cond.instantiable_spec wi
  cases e2.symm.trans i1
  cases e3.symm.trans i2
  obtain ⟨kU, u1, u2⟩ := al.2.2 _ _ e3
  exact ⟨D, fV, fC, ⟨hD, ⟨knV, fun q hq => by rw [hq] at obV; cases obV⟩, by rw [al.findClass]; exact e2, kU, u1, by rw [u2]; exact i3, by rw [u2]; exact e5 i3⟩, ⟨SBG.found_only al ⟨cfV, kV, iV, gV⟩, stV⟩, ⟨SBG.found_only al ⟨cfC, kC, iC, gC⟩, stC⟩, slV, slC, by simp [RoadKit.slotOf, gV], by simp [RoadKit.slotOf, gC]⟩
theorem sta_is {Z U : State} (al : Z.vm.Alike U.vm) {C n d : String} {v : Value} (S : RoadKit.Sta Z U.heap C n d v) : StaticIs U C n d v := by
  obtain ⟨cfS, iS, kS, fS, st, cS, t1, t2, t3, t4, t5, t6, t7⟩ := S
  exact StaticIs.there (s := { Z with heap := U.heap }) ⟨cfS, iS, kS, fS, st, cS, t1, t2, t3, t4, t5, (fun q => by rw [q] at t6; cases t6), t7⟩ al rfl
/-- **length() OF SUCH A STRING** -/
theorem lenW {p : Program} {l : Launch} {e : Env} {R : Room} {s : State} {args : Array Value} {below : List Frame} {len W : Nat} {Z : State} {a0 : Array Value} {h : Heap} (hZ : Z.Warmed39 s.vm) (hw : ∀ d ∈ wordsLen, d.before a0 Z = true) {kI : Nat} (wi : (Jvm.Cond.instantiable ST kI).before a0 Z = true)
    {x t : Addr} {kb : ClassId} {cs : List Int32} {cd N2 z : Int32} {vs : List Value} (E : RoadKit.Exa Z h x ST) (V : RoadKit.Fld Z h x ST "value" "[B" (.ref t)) (C : RoadKit.Fld Z h x ST "coder" "B" (.int cd)) (K : RoadKit.Arv Z h t kb .byte N2 vs (.int 0)) (hc : CodA cs cd N2 vs) (hb : ∀ c ∈ cs, ¬ c < 0 ∧ ¬ (65535 : Int32) < c)
    (S : RoadKit.Sta Z h ST "COMPACT_STRINGS" "Z" (.int z)) (hz : ¬ z = 0) (l2 : cs.length ≤ 4000) (hfr : 2 ≤ R.frames) (hlo : W + 25 ≤ R.locals) :
    Back l R p e below s args (⟨"java/lang/String", "length", "()I"⟩ : MethodName) len W (fun P a => a = #[.ref x] ∧ P.U.heap = h ∧ P.cells + 0 ≤ R.cells ∧ P.slots + 0 ≤ R.slots)
      (fun P _ v B => ∃ L, (v = some (.int (Int32.ofNat cs.length)) ∧ L = [] ∧ B.U.heap = h) ∧ B.locs = P.locs ++ L ∧ B.cells = P.cells + 0 ∧ B.slots = P.slots + 0) := by
  obtain ⟨A, K1, K2, K3, K4, K5, K6⟩ := K
  have hcod := hc.cod (by omega) K3 K5
  intro m meth c P g ig mk a X hg hsize hdg hW hn hp'
  obtain ⟨rfl, rfl, r1, r2⟩ := hp'
  have al : Z.vm.Alike P.U.vm := hZ.alike.trans X.warmed.alike
  obtain ⟨D, fV, fC, hB, F1, F2, g1, g2, -, -⟩ := strObj wi al E V C
  have hx : Txt x t A cd cs.length (fun j => cs.getD j 0) P.U := ⟨⟨_, hB.2.2.1, D, hB.1, rfl, by cases q : D.vm <;> first | rfl | exact absurd q (hB.2.1.2 _)⟩, Has.of hB F1 g1, Has.of hB F2 g2, ⟨K1.1, State.isArrayOf_alike al K1.2.1, K1.2.2, by rcases hcod with ⟨-, q, -⟩ | ⟨-, q, -⟩ <;> omega⟩, hcod, fun j hj => by
    have e : cs.getD j 0 = cs[j] := by simp [List.getD_eq_getElem?_getD, hj]
    show ¬ cs.getD j 0 < 0 ∧ ¬ 65535 < cs.getD j 0
    rw [e]; exact hb _ (List.getElem_mem _)⟩
  obtain ⟨v, B, X', ⟨⟨hv, hh⟩, hl, hk, hs⟩, st⟩ := Len.pays x t A cd cs.length (fun j => cs.getD j 0) z (tabLen_of (movedLen hZ hw)) hfr hlo m meth c P g ig mk _ X hg hsize hdg hW hn ⟨r1, r2, rfl, hx, sta_is al S, hz⟩
  exact ⟨v, B, X', ⟨[], ⟨hv, rfl, hh⟩, hl, hk, hs⟩, st⟩
end StrChars.Road
namespace StrChars
open Jvm Sem ClassFile Op Lib Jvm.Stand Jvm.Free.XT Jvm.Free.ALB Jvm.Free.JM Jvm.Free
open Jvm.Lib.Cold (StaticIs)
/-- what place i of a byte[]'s cell holds -/
def yv (A : Cell) (i : Nat) : Int32 := match A.slots[i]? with | some (.int x) => x | _ => 0
theorem yv_get {a : Addr} {A : Cell} {U : State} (h : XT.Arr .byte a A U) (ht : Typed .byte A) {i : Nat} (hi : i < A.slots.size) : A.slots[i]? = some (.int (yv A i)) := by
  have e := Array.getElem?_eq_getElem hi
  have f := ht i _ e
  unfold yv; rw [e]
  generalize A.slots[i] = v at f
  cases v <;> simp [fits] at f ⊢
/-- the two arrays are equal, place for place -/
def EqC (A B : Cell) : Prop := A.slots.size = B.slots.size ∧ ∀ i, i < A.slots.size → yv A i = yv B i
/-- a boolean that says whether p -/
def Says01 (q : Prop) (r : Option Value) (s u : State) : Prop := ∃ v : Int32, r = some (.int v) ∧ u.heap = s.heap ∧ ((v = 1 ∧ q) ∨ (v = 0 ∧ ¬ q))
theorem Says01.mv {q : Prop} : ∀ r (U U' V V' : State), U'.heap = U.heap → V.vm.Alike V'.vm → V'.heap = V.heap → Says01 q r U V → Says01 q r U' V' :=
  fun r U U' V V' h1 _ h2 ⟨v, a, b, c⟩ => ⟨v, a, by rw [h1, h2]; exact b, c⟩
namespace LEq
def yN : MethodName := ⟨"java/lang/StringLatin1", "equals", "([B[B)Z"⟩
abbrev yB : ByteArray := jdk_43_method_13_code
theorem d0 : decode yB 0 = .ok (.aload_n 0, 1) := by decide +kernel
theorem d1 : decode yB 1 = .ok (.arraylength, 1) := by decide +kernel
theorem d2 : decode yB 2 = .ok (.aload_n 1, 1) := by decide +kernel
theorem d3 : decode yB 3 = .ok (.arraylength, 1) := by decide +kernel
theorem d4 : decode yB 4 = .ok (.if_icmp (.ne) 30, 3) := by decide +kernel
theorem d7 : decode yB 7 = .ok (.iconst 0, 1) := by decide +kernel
theorem d8 : decode yB 8 = .ok (.istore_n 2, 1) := by decide +kernel
theorem d9 : decode yB 9 = .ok (.iload_n 2, 1) := by decide +kernel
theorem d10 : decode yB 10 = .ok (.aload_n 0, 1) := by decide +kernel
theorem d11 : decode yB 11 = .ok (.arraylength, 1) := by decide +kernel
theorem d12 : decode yB 12 = .ok (.if_icmp (.ge) 20, 3) := by decide +kernel
theorem d15 : decode yB 15 = .ok (.aload_n 0, 1) := by decide +kernel
theorem d16 : decode yB 16 = .ok (.iload_n 2, 1) := by decide +kernel
theorem d17 : decode yB 17 = .ok (.baload, 1) := by decide +kernel
theorem d18 : decode yB 18 = .ok (.aload_n 1, 1) := by decide +kernel
theorem d19 : decode yB 19 = .ok (.iload_n 2, 1) := by decide +kernel
theorem d20 : decode yB 20 = .ok (.baload, 1) := by decide +kernel
theorem d21 : decode yB 21 = .ok (.if_icmp (.eq) 5, 3) := by decide +kernel
theorem d24 : decode yB 24 = .ok (.iconst 0, 1) := by decide +kernel
theorem d25 : decode yB 25 = .ok (.ireturn, 1) := by decide +kernel
theorem d26 : decode yB 26 = .ok (.iinc 2 1, 3) := by decide +kernel
theorem d29 : decode yB 29 = .ok (.goto (-20), 3) := by decide +kernel
theorem d32 : decode yB 32 = .ok (.iconst 1, 1) := by decide +kernel
theorem d33 : decode yB 33 = .ok (.ireturn, 1) := by decide +kernel
theorem d34 : decode yB 34 = .ok (.iconst 0, 1) := by decide +kernel
theorem d35 : decode yB 35 = .ok (.ireturn, 1) := by decide +kernel
def site : List Cond := []
def tab : Cond := tabOf yN yB 3 (some .boolean) site
def P (a : Addr) (A : Cell) (b : Addr) (B : Cell) (args : Array Value) (s : State) : Prop := args = #[.ref a, .ref b] ∧ XT.Arr .byte a A s ∧ Typed .byte A ∧ XT.Arr .byte b B s ∧ Typed .byte B
/-- whether two byte[] are equal, place for place -/
theorem law (l : Launch) (a : Addr) (A : Cell) (b : Addr) (B : Cell) : Law l yN 2 2 0 0 yB 3 (some .boolean) site (P a A b B) (Says01 (EqC A B)) [] 0 0 := by
  refine Law.of_walk (plainFor_of_name (by decide +kernel)) (by decide +kernel) (by decide +kernel) (by decide) (fun _ _ h => by rw [h.1]; rfl) (fun _ U U' hal hh h => ⟨h.1, h.2.1.mv hal hh, h.2.2.1, h.2.2.2.1.mv hal hh, h.2.2.2.2⟩) (fun r U U' V V' h1 hal h2 h => Says01.mv r U U' V V' h1 hal h2 h) ?_
  intro p e s m args below meth c s₁ X0 hexec hbytes hml hret hlk hnm hown hh0 W hP
  obtain ⟨rfl, hA, tA, hB, tB⟩ := hP
  have a31 := hA.2.2.2
  have b31 := hB.2.2.2
  have hA0 := hA.mv X0.warmed.alike hh0
  have hB0 := hB.mv X0.warmed.alike hh0
  have c1 : Steps p.tables e below (s₁.setTop (entryFrame m #[.ref a, .ref b] 3)) (s₁.setTop (mkF m 0 #[.val (.ref a), .val (.ref b), .unset] [])) := entry rfl
  have c2 : Steps p.tables e below (s₁.setTop (entryFrame m #[.ref a, .ref b] 3)) (s₁.setTop (mkF m 4 #[.val (.ref a), .val (.ref b), .unset] [.int (Int32.ofNat B.slots.size), .int (Int32.ofNat A.slots.size)])) := c1.trans (by
    refine XS.aloadN X0.here hexec rfl (hb hbytes d0) rfl rfl ?_
    refine X0.alen hexec hA0 rfl rfl (hb hbytes d1) ?_
    refine XS.aloadN X0.here hexec rfl (hb hbytes d2) rfl rfl ?_
    refine X0.alen hexec hB0 rfl rfl (hb hbytes d3) ?_
    exact Steps.refl _)
  by_cases hs : A.slots.size = B.slots.size
  · have c3 : Steps p.tables e below (s₁.setTop (entryFrame m #[.ref a, .ref b] 3)) (s₁.setTop (mkF m 9 #[.val (.ref a), .val (.ref b), .val (.int 0)] [])) := c2.trans (by
      refine XS.icmpNo X0.here hexec rfl (hb hbytes d4) rfl (ii_ne_f (by rw [hs])) ?_
      refine iconstV X0.here hexec rfl 0 (hb hbytes d7) (by decide) ?_
      refine XS.istoreN X0.here hexec rfl (hb hbytes d8) rfl rfl ?_
      exact Steps.refl _)
    have loop : ∀ (r i : Nat), i + r = A.slots.size → (∀ j, j < i → yv A j = yv B j) → Steps p.tables e below (s₁.setTop (entryFrame m #[.ref a, .ref b] 3)) (s₁.setTop (mkF m 9 #[.val (.ref a), .val (.ref b), .val (.int (Int32.ofNat i))] [])) → ∃ (pc : Nat) (Ls : Array Slot) (v : Int32), (pc = 25 ∨ pc = 33) ∧ ((v = 1 ∧ EqC A B) ∨ (v = 0 ∧ ¬ EqC A B)) ∧ Steps p.tables e below (s₁.setTop (entryFrame m #[.ref a, .ref b] 3)) (s₁.setTop (mkF m pc Ls [.int v])) := by
      intro r
      induction r with
      | zero =>
        intro i hi he cl
        exact ⟨33, _, 1, Or.inr rfl, Or.inl ⟨rfl, hs, fun j hj => he j (by omega)⟩, cl.trans (by
          refine XS.iloadN X0.here hexec rfl (hb hbytes d9) rfl ?_
          refine XS.aloadN X0.here hexec rfl (hb hbytes d10) rfl rfl ?_
          refine X0.alen hexec hA0 rfl rfl (hb hbytes d11) ?_
          refine XS.icmpYes X0.here hexec rfl (pc0 := 12) rfl (hb hbytes d12) rfl (ii_ge_t (nlt32 (by omega) (by omega))) (by decide) rfl ?_
          refine iconstV X0.here hexec rfl 1 (hb hbytes d32) (by decide) ?_
          exact Steps.refl _)⟩
      | succ r ih =>
        intro i hi he cl
        have c4 : Steps p.tables e below (s₁.setTop (entryFrame m #[.ref a, .ref b] 3)) (s₁.setTop (mkF m 21 #[.val (.ref a), .val (.ref b), .val (.int (Int32.ofNat i))] [.int (yv B i), .int (yv A i)])) := cl.trans (by
          refine XS.iloadN X0.here hexec rfl (hb hbytes d9) rfl ?_
          refine XS.aloadN X0.here hexec rfl (hb hbytes d10) rfl rfl ?_
          refine X0.alen hexec hA0 rfl rfl (hb hbytes d11) ?_
          refine XS.icmpNo X0.here hexec rfl (hb hbytes d12) rfl (ii_ge_f (lt32 (by omega) (by omega))) ?_
          refine XS.aloadN X0.here hexec rfl (hb hbytes d15) rfl rfl ?_
          refine XS.iloadN X0.here hexec rfl (hb hbytes d16) rfl ?_
          refine X0.aget hexec hA0 rfl (yv_get hA tA (i := i) (by omega)) rfl rfl (hb hbytes d17) ?_
          refine XS.aloadN X0.here hexec rfl (hb hbytes d18) rfl rfl ?_
          refine XS.iloadN X0.here hexec rfl (hb hbytes d19) rfl ?_
          refine X0.aget hexec hB0 rfl (yv_get hB tB (i := i) (by omega)) rfl rfl (hb hbytes d20) ?_
          exact Steps.refl _)
        by_cases hv : yv A i = yv B i
        · have c5 : Steps p.tables e below (s₁.setTop (entryFrame m #[.ref a, .ref b] 3)) (s₁.setTop (mkF m 9 #[.val (.ref a), .val (.ref b), .val (.int (Int32.ofNat i + 1))] [])) := c4.trans (by
            refine XS.icmpYes X0.here hexec rfl (pc0 := 21) rfl (hb hbytes d21) rfl (ii_eq_t hv) (by decide) rfl ?_
            refine iincV X0.here hexec rfl 1 (hb hbytes d26) (by decide) rfl rfl ?_
            refine XS.goto X0.here hexec rfl (pc0 := 29) rfl (hb hbytes d29) (by decide) rfl ?_
            exact Steps.refl _)
          rw [succ32] at c5
          exact ih (i + 1) (by omega) (fun j hj => by
            by_cases e : j = i
            · rw [e]; exact hv
            · exact he j (by omega)) c5
        · exact ⟨25, _, 0, Or.inl rfl, Or.inr ⟨rfl, fun q => hv (q.2 i (by omega))⟩, c4.trans (by
            refine XS.icmpNo X0.here hexec rfl (hb hbytes d21) rfl (ii_eq_f hv) ?_
            refine iconstV X0.here hexec rfl 0 (hb hbytes d24) (by decide) ?_
            exact Steps.refl _)⟩
    obtain ⟨pc, Ls, v, hpc, hv, cz⟩ := loop A.slots.size 0 (by omega) (fun j hj => absurd hj (Nat.not_lt_zero j)) c3
    have nv : narrow .boolean (.int v) = .int v := by rcases hv with ⟨rfl, -⟩ | ⟨rfl, -⟩ <;> rfl
    rcases hpc with rfl | rfl
    · exact ⟨s₁, some (.int v), _, _, _, X0, rfl, rfl, rfl, (fun h => by cases h), ⟨v, rfl, hh0, hv⟩, fun fs hl => cz.trans (X0.ireturnOut hexec hret nv (Or.inr (Or.inl rfl)) (hb hbytes d25) hl)⟩
    · exact ⟨s₁, some (.int v), _, _, _, X0, rfl, rfl, rfl, (fun h => by cases h), ⟨v, rfl, hh0, hv⟩, fun fs hl => cz.trans (X0.ireturnOut hexec hret nv (Or.inr (Or.inl rfl)) (hb hbytes d33) hl)⟩
  · have c3 : Steps p.tables e below (s₁.setTop (entryFrame m #[.ref a, .ref b] 3)) (s₁.setTop (mkF m 35 #[.val (.ref a), .val (.ref b), .unset] [.int 0])) := c2.trans (by
      refine XS.icmpYes X0.here hexec rfl (pc0 := 4) rfl (hb hbytes d4) rfl (ii_ne_t (ne32 a31 b31 hs)) (by decide) rfl ?_
      refine iconstV X0.here hexec rfl 0 (hb hbytes d34) (by decide) ?_
      exact Steps.refl _)
    exact ⟨s₁, some (.int 0), _, _, _, X0, rfl, rfl, rfl, (fun h => by cases h), ⟨0, rfl, hh0, Or.inr ⟨rfl, fun q => hs q.1⟩⟩, fun fs hl => c3.trans (X0.ireturnOut hexec hret rfl (Or.inr (Or.inl rfl)) (hb hbytes d35) hl)⟩
end LEq
theorem Cod.ty {cd : Int32} {n : Nat} {f : Nat → Int32} {V : Cell} (h : Cod cd n f V) : Typed .byte V := fun i v hv => by
  have hi : i < V.slots.size := (Array.getElem?_eq_some_iff.mp hv).1
  rcases h with ⟨-, k1, k2⟩ | ⟨-, k1, k2, -⟩
  · rw [(k2 i (by omega)).1] at hv; cases hv; exact fits_lo8 _
  · rcases Nat.mod_two_eq_zero_or_one i with e | e
    · obtain ⟨j, rfl⟩ : ∃ j, i = 2 * j := ⟨i / 2, by omega⟩
      rw [(k2 j (by omega)).1] at hv; cases hv; exact fits_lo8 _
    · obtain ⟨j, rfl⟩ : ∃ j, i = 2 * j + 1 := ⟨i / 2, by omega⟩
      rw [(k2 j (by omega)).2] at hv; cases hv; exact fits_lo8 _
/-- the same text -/
def SameT (n : Nat) (f : Nat → Int32) (k : Nat) (g : Nat → Int32) : Prop := n = k ∧ ∀ j, j < n → f j = g j
theorem lo8_inj {x y : Int32} (h0 : ¬ x < 0) (h1 : ¬ 255 < x) (k0 : ¬ y < 0) (k1 : ¬ 255 < y) (h : lo8 x = lo8 y) : x = y := by
  rw [← lo8_mask h0 h1, ← lo8_mask k0 k1, h]
/-- arrays coded by one coder are equal just where the texts are -/
theorem Cod.eqv {cd : Int32} {n k : Nat} {f g : Nat → Int32} {V V' : Cell} (h : Cod cd n f V) (h' : Cod cd k g V') (hf : ∀ j, j < n → ¬ f j < 0 ∧ ¬ 65535 < f j) (hg : ∀ j, j < k → ¬ g j < 0 ∧ ¬ 65535 < g j) : EqC V V' ↔ SameT n f k g := by
  have yvv : ∀ {W : Cell} {i : Nat} {x : Int32}, W.slots[i]? = some (.int x) → yv W i = x := fun q => by unfold yv; rw [q]
  rcases h with ⟨rfl, k1, k2⟩ | ⟨rfl, k1, k2, -⟩
  · rcases h' with ⟨-, m1, m2⟩ | ⟨e, -⟩
    · constructor
      · rintro ⟨e1, e2⟩
        refine ⟨by omega, fun j hj => ?_⟩
        have q := e2 j (by omega)
        rw [yvv (k2 j hj).1, yvv (m2 j (by omega)).1] at q
        exact lo8_inj (hf j hj).1 (k2 j hj).2 (hg j (by omega)).1 (m2 j (by omega)).2 q
      · rintro ⟨rfl, e2⟩
        refine ⟨by omega, fun j hj => ?_⟩
        rw [yvv (k2 j (by omega)).1, yvv (m2 j (by omega)).1, e2 j (by omega)]
    · exact absurd e (by decide)
  · rcases h' with ⟨e, -⟩ | ⟨-, m1, m2, -⟩
    · exact absurd e (by decide)
    · constructor
      · rintro ⟨e1, e2⟩
        refine ⟨by omega, fun j hj => ?_⟩
        have q1 := e2 (2 * j) (by omega)
        have q2 := e2 (2 * j + 1) (by omega)
        rw [yvv (k2 j hj).1, yvv (m2 j (by omega)).1] at q1
        rw [yvv (k2 j hj).2, yvv (m2 j (by omega)).2] at q2
        rw [← pair_says (hf j hj).1 (hf j hj).2, ← pair_says (hg j (by omega)).1 (hg j (by omega)).2, q1, q2]
      · rintro ⟨rfl, e2⟩
        refine ⟨by omega, fun i hi => ?_⟩
        rcases Nat.mod_two_eq_zero_or_one i with e | e
        · obtain ⟨j, rfl⟩ : ∃ j, i = 2 * j := ⟨i / 2, by omega⟩
          rw [yvv (k2 j (by omega)).1, yvv (m2 j (by omega)).1, e2 j (by omega)]
        · obtain ⟨j, rfl⟩ : ∃ j, i = 2 * j + 1 := ⟨i / 2, by omega⟩
          rw [yvv (k2 j (by omega)).2, yvv (m2 j (by omega)).2, e2 j (by omega)]
/-- two codings differ: so do the texts -/
theorem Cod.dif {cd cd' : Int32} {n k : Nat} {f g : Nat → Int32} {V V' : Cell} (h : Cod cd n f V) (h' : Cod cd' k g V') (hne : ¬ cd = cd') : ¬ SameT n f k g := by
  rintro ⟨rfl, e⟩
  rcases h with ⟨rfl, -, k2⟩ | ⟨rfl, -, -, j, hj, hw⟩
  · rcases h' with ⟨rfl, -⟩ | ⟨-, -, -, j, hj, hw⟩
    · exact hne rfl
    · exact (k2 j hj).2 (by rw [e j hj]; exact hw)
  · rcases h' with ⟨-, -, m2⟩ | ⟨rfl, -⟩
    · exact (m2 j hj).2 (by rw [← e j hj]; exact hw)
    · exact hne rfl
/-- an object of exactly C is an instance of C -/
theorem cinst {p : Program} {l : Launch} {e : Env} {R : Room} {s : State} {m : MethodId} {args : Array Value} {below : List Frame} {meth : Method} {c : Code} {T : State} {locs : List Loc} {cells slots : Nat} (X : Stand p l e R s m args below meth c T locs cells slots) (hexec : p.tables.exec = Jvm.exec) {own C : String} {index : Nat} (hown : s.vm.findClass own = some m.cls) (hlink : (Cond.classLink own index C).before args s = true) {a : Addr} (hE : Exact C a T)
    {g : JFrame} (hg : g.method = m) {rest : List Value} (hstack : g.stack = .ref a :: rest) (hdg : decode c.code g.pc = .ok (.instanceof index, 3)) :
    ∃ T', Stand p l e R s m args below meth c T' locs cells slots ∧ T'.heap = T.heap ∧ ∀ target, Steps p.tables e below (T'.setTop { g with pc := g.pc + 3, stack := .int 1 :: rest }) target → Steps p.tables e below (T.setTop g) target := by
  obtain ⟨cB, h1, D, h2, h3, h4⟩ := hE
  have h1' : s.vm.findClass C = some cB := by rw [← X.warmed.alike.findClass]; exact h1
  obtain ⟨vm', X', st⟩ := X.instanceofYes hexec hown hlink h2 h4 h1' (by rw [h3]; exact Jvm.Free.SB.assignable_self _ _) hg hstack hdg
  exact ⟨_, X', rfl, st⟩
theorem cself {p : Program} {l : Launch} {e : Env} {R : Room} {s : State} {m : MethodId} {args : Array Value} {below : List Frame} {meth : Method} {c : Code} {T : State} {locs : List Loc} {cells slots : Nat} (X : Stand p l e R s m args below meth c T locs cells slots) (hexec : p.tables.exec = Jvm.exec) {own C : String} {index : Nat} (hown : s.vm.findClass own = some m.cls) (hlink : (Cond.classLink own index C).before args s = true) {a : Addr} (hE : Exact C a T)
    {g : JFrame} (hg : g.method = m) {rest : List Value} (hstack : g.stack = .ref a :: rest) (hdg : decode c.code g.pc = .ok (.checkcast index, 3)) :
    ∃ T', Stand p l e R s m args below meth c T' locs cells slots ∧ T'.heap = T.heap ∧ ∀ target, Steps p.tables e below (T'.setTop { g with pc := g.pc + 3, stack := .ref a :: rest }) target → Steps p.tables e below (T.setTop g) target := by
  obtain ⟨cB, h1, D, h2, h3, h4⟩ := hE
  have h1' : s.vm.findClass C = some cB := by rw [← X.warmed.alike.findClass]; exact h1
  obtain ⟨vm', X', st⟩ := X.checkcastYes hexec hown hlink h2 h4 h1' (by rw [h3]; exact Jvm.Free.SB.assignable_self _ _) hg hstack hdg
  exact ⟨_, X', rfl, fun t h => st t (by rw [← hstack] at h; exact h)⟩
namespace SEq
def yN : MethodName := ⟨"java/lang/String", "equals", "(Ljava/lang/Object;)Z"⟩
abbrev yB : ByteArray := jdk_42_method_66_code
theorem d0 : decode yB 0 = .ok (.aload_n 0, 1) := by decide +kernel
theorem d1 : decode yB 1 = .ok (.aload_n 1, 1) := by decide +kernel
theorem d2 : decode yB 2 = .ok (.if_acmp (.ne) 5, 3) := by decide +kernel
theorem d5 : decode yB 5 = .ok (.iconst 1, 1) := by decide +kernel
theorem d6 : decode yB 6 = .ok (.ireturn, 1) := by decide +kernel
theorem d7 : decode yB 7 = .ok (.aload_n 1, 1) := by decide +kernel
theorem d8 : decode yB 8 = .ok (.instanceof 10, 3) := by decide +kernel
theorem d11 : decode yB 11 = .ok (.ifCond (.eq) 43, 3) := by decide +kernel
theorem d14 : decode yB 14 = .ok (.aload_n 1, 1) := by decide +kernel
theorem d15 : decode yB 15 = .ok (.checkcast 10, 3) := by decide +kernel
theorem d18 : decode yB 18 = .ok (.astore_n 2, 1) := by decide +kernel
theorem d19 : decode yB 19 = .ok (.getstatic 38, 3) := by decide +kernel
theorem d22 : decode yB 22 = .ok (.ifCond (.eq) 14, 3) := by decide +kernel
theorem d25 : decode yB 25 = .ok (.aload_n 0, 1) := by decide +kernel
theorem d26 : decode yB 26 = .ok (.getfield 15, 3) := by decide +kernel
theorem d29 : decode yB 29 = .ok (.aload_n 2, 1) := by decide +kernel
theorem d30 : decode yB 30 = .ok (.getfield 15, 3) := by decide +kernel
theorem d33 : decode yB 33 = .ok (.if_icmp (.ne) 21, 3) := by decide +kernel
theorem d36 : decode yB 36 = .ok (.aload_n 0, 1) := by decide +kernel
theorem d37 : decode yB 37 = .ok (.getfield 9, 3) := by decide +kernel
theorem d40 : decode yB 40 = .ok (.aload_n 2, 1) := by decide +kernel
theorem d41 : decode yB 41 = .ok (.getfield 9, 3) := by decide +kernel
theorem d44 : decode yB 44 = .ok (.invokestatic 541, 3) := by decide +kernel
theorem d47 : decode yB 47 = .ok (.ifCond (.eq) 7, 3) := by decide +kernel
theorem d50 : decode yB 50 = .ok (.iconst 1, 1) := by decide +kernel
theorem d51 : decode yB 51 = .ok (.goto 4, 3) := by decide +kernel
theorem d54 : decode yB 54 = .ok (.iconst 0, 1) := by decide +kernel
theorem d55 : decode yB 55 = .ok (.ireturn, 1) := by decide +kernel
def site : List Cond := [.classLink "java/lang/String" 10 "java/lang/String", .fieldLink "java/lang/String" 38 "java/lang/String" "COMPACT_STRINGS" "Z", .fieldLink "java/lang/String" 15 "java/lang/String" "coder" "B", .fieldLink "java/lang/String" 9 "java/lang/String" "value" "[B", LEq.tab] ++ staticW "java/lang/String" 541 LEq.yN
def tab : Cond := tabOf yN yB 3 (some .boolean) site
def P (x t : Addr) (V : Cell) (cd : Int32) (n : Nat) (f : Nat → Int32) (y t' : Addr) (V' : Cell) (cd' : Int32) (k : Nat) (g : Nat → Int32) (z : Int32) (args : Array Value) (s : State) : Prop := args = #[.ref x, .ref y] ∧ Txt x t V cd n f s ∧ Txt y t' V' cd' k g s ∧ StaticIs s "java/lang/String" "COMPACT_STRINGS" "Z" (.int z) ∧ ¬ z = 0
/-- equals(Object) of two Strings: whether the texts are the same -/
theorem law (l : Launch) (x t : Addr) (V : Cell) (cd : Int32) (n : Nat) (f : Nat → Int32) (y t' : Addr) (V' : Cell) (cd' : Int32) (k : Nat) (g : Nat → Int32) (z : Int32) : Law l yN 2 1 1 14 yB 3 (some .boolean) site (P x t V cd n f y t' V' cd' k g z) (Says01 (SameT n f k g)) [] 0 0 := by
  refine Law.of_walk (plainFor_of_name (by decide +kernel)) (by decide +kernel) (by decide +kernel) (by decide) (fun _ _ h => by rw [h.1]; rfl) (fun _ U U' hal hh h => ⟨h.1, h.2.1.mv hal hh, h.2.2.1.mv hal hh, h.2.2.2.1.there hal hh, h.2.2.2.2⟩) (fun r U U' V V' h1 hal h2 h => Says01.mv r U U' V V' h1 hal h2 h) ?_
  intro p e s m args below meth c s₁ X0 hexec hbytes hml hret hlk hnm hown hh0 W hP
  obtain ⟨rfl, hx, hy, s1, hz⟩ := hP
  have c1 : Steps p.tables e below (s₁.setTop (entryFrame m #[.ref x, .ref y] 3)) (s₁.setTop (mkF m 2 #[.val (.ref x), .val (.ref y), .unset] [.ref y, .ref x])) := Steps.trans (entry rfl) (by
    show Steps p.tables e below (s₁.setTop (mkF m 0 #[.val (.ref x), .val (.ref y), .unset] [])) _
    refine XS.aloadN X0.here hexec rfl (hb hbytes d0) rfl rfl ?_
    refine XS.aloadN X0.here hexec rfl (hb hbytes d1) rfl rfl ?_
    exact Steps.refl _)
  by_cases hxy : x = y
  · have c2 : Steps p.tables e below (s₁.setTop (entryFrame m #[.ref x, .ref y] 3)) (s₁.setTop (mkF m 6 #[.val (.ref x), .val (.ref y), .unset] [.int 1])) := c1.trans (by
      refine acmpNo X0.here hexec rfl (hb hbytes d2) rfl rfl rfl (by simp [acmp, hxy]) ?_
      refine iconstV X0.here hexec rfl 1 (hb hbytes d5) (by decide) ?_
      exact Steps.refl _)
    subst hxy
    have ec : cd = cd' := by
      obtain ⟨D, fd, a1, a2, a3⟩ := hx.2.2.1
      obtain ⟨D', fd', b1, b2, b3⟩ := hy.2.2.1
      cases a1.symm.trans b1
      obtain ⟨q1, q2, q3, q4⟩ := a2.1
      obtain ⟨r1, r2, r3, r4⟩ := b2.1
      cases q4.symm.trans r4
      cases a3.symm.trans b3; rfl
    have et : t = t' := by
      obtain ⟨D, fd, a1, a2, a3⟩ := hx.2.1
      obtain ⟨D', fd', b1, b2, b3⟩ := hy.2.1
      cases a1.symm.trans b1
      obtain ⟨q1, q2, q3, q4⟩ := a2.1
      obtain ⟨r1, r2, r3, r4⟩ := b2.1
      cases q4.symm.trans r4
      cases a3.symm.trans b3; rfl
    subst ec et
    have ev : V = V' := by cases hx.2.2.2.1.1.symm.trans hy.2.2.2.1.1; rfl
    subst ev
    have hs : SameT n f k g := (Cod.eqv hx.2.2.2.2.1 hy.2.2.2.2.1 hx.2.2.2.2.2 hy.2.2.2.2.2).mp ⟨rfl, fun _ _ => rfl⟩
    exact ⟨s₁, some (.int 1), _, _, _, X0, rfl, rfl, rfl, (fun h => by cases h), ⟨1, rfl, hh0, Or.inl ⟨rfl, hs⟩⟩, fun fs hl => c2.trans (X0.ireturnOut hexec hret rfl (Or.inr (Or.inl rfl)) (hb hbytes d6) hl)⟩
  · have c2 : Steps p.tables e below (s₁.setTop (entryFrame m #[.ref x, .ref y] 3)) (s₁.setTop (mkF m 8 #[.val (.ref x), .val (.ref y), .unset] [.ref y])) := c1.trans (by
      refine acmpYes X0.here hexec rfl (pc0 := 2) rfl (hb hbytes d2) rfl rfl rfl (by simp [acmp, hxy]) (by decide) rfl ?_
      refine XS.aloadN X0.here hexec rfl (hb hbytes d7) rfl rfl ?_
      exact Steps.refl _)
    obtain ⟨T3, X3, q3, st3⟩ := cinst X0 hexec hown (wk W (.classLink "java/lang/String" 10 "java/lang/String")) (hy.mv X0.warmed.alike hh0).1 (g := (mkF m 8 #[.val (.ref x), .val (.ref y), .unset] [.ref y])) rfl (rest := []) rfl (hb hbytes d8)
    have hh3 := q3.trans hh0
    have c4 : Steps p.tables e below (s₁.setTop (entryFrame m #[.ref x, .ref y] 3)) (T3.setTop (mkF m 15 #[.val (.ref x), .val (.ref y), .unset] [.ref y])) := (c2.trans (st3 _ (Steps.refl _))).trans (by
      refine XS.ifNo X3.here hexec rfl (hb hbytes d11) rfl (i0_eq_f (by decide)) ?_
      refine XS.aloadN X3.here hexec rfl (hb hbytes d14) rfl rfl ?_
      exact Steps.refl _)
    obtain ⟨T5, X5, q5, st5⟩ := cself X3 hexec hown (wk W (.classLink "java/lang/String" 10 "java/lang/String")) (hy.mv X3.warmed.alike hh3).1 (g := (mkF m 15 #[.val (.ref x), .val (.ref y), .unset] [.ref y])) rfl (rest := []) rfl (hb hbytes d15)
    have hh5 := q5.trans hh3
    have c6 : Steps p.tables e below (s₁.setTop (entryFrame m #[.ref x, .ref y] 3)) (T5.setTop (mkF m 19 #[.val (.ref x), .val (.ref y), .val (.ref y)] [])) := (c4.trans (st5 _ (Steps.refl _))).trans (by
      refine XS.astoreN X5.here hexec rfl (hb hbytes d18) rfl rfl rfl ?_
      exact Steps.refl _)
    obtain ⟨T7, X7, q7, st7⟩ := X5.sget hexec hown (wk W (.fieldLink "java/lang/String" 38 "java/lang/String" "COMPACT_STRINGS" "Z")) s1 (fun _ _ h => by rw [hh5]; exact h) (g := (mkF m 19 #[.val (.ref x), .val (.ref y), .val (.ref y)] [])) rfl (hb hbytes d19)
    have hh7 := q7.trans hh5
    have c8 : Steps p.tables e below (s₁.setTop (entryFrame m #[.ref x, .ref y] 3)) (T7.setTop (mkF m 26 #[.val (.ref x), .val (.ref y), .val (.ref y)] [.ref x])) := (c6.trans (st7 _ (Steps.refl _))).trans (by
      refine XS.ifNo X7.here hexec rfl (hb hbytes d22) rfl (i0_eq_f hz) ?_
      refine XS.aloadN X7.here hexec rfl (hb hbytes d25) rfl rfl ?_
      exact Steps.refl _)
    obtain ⟨T9, X9, q9, st9⟩ := X7.hget hexec hown (wk W (.fieldLink "java/lang/String" 15 "java/lang/String" "coder" "B")) (hx.mv X7.warmed.alike hh7).2.2.1 (g := (mkF m 26 #[.val (.ref x), .val (.ref y), .val (.ref y)] [.ref x])) rfl (rest := []) rfl (hb hbytes d26)
    have hh9 := q9.trans hh7
    have c10 : Steps p.tables e below (s₁.setTop (entryFrame m #[.ref x, .ref y] 3)) (T9.setTop (mkF m 30 #[.val (.ref x), .val (.ref y), .val (.ref y)] [.ref y, .int cd])) := (c8.trans (st9 _ (Steps.refl _))).trans (by
      refine XS.aloadN X9.here hexec rfl (hb hbytes d29) rfl rfl ?_
      exact Steps.refl _)
    obtain ⟨T11, X11, q11, st11⟩ := X9.hget hexec hown (wk W (.fieldLink "java/lang/String" 15 "java/lang/String" "coder" "B")) (hy.mv X9.warmed.alike hh9).2.2.1 (g := (mkF m 30 #[.val (.ref x), .val (.ref y), .val (.ref y)] [.ref y, .int cd])) rfl (rest := [.int cd]) rfl (hb hbytes d30)
    have hh11 := q11.trans hh9
    have c12 : Steps p.tables e below (s₁.setTop (entryFrame m #[.ref x, .ref y] 3)) (T11.setTop (mkF m 33 #[.val (.ref x), .val (.ref y), .val (.ref y)] [.int cd', .int cd])) := c10.trans (st11 _ (Steps.refl _))
    by_cases hcd : cd = cd'
    · subst hcd
      have c13 : Steps p.tables e below (s₁.setTop (entryFrame m #[.ref x, .ref y] 3)) (T11.setTop (mkF m 37 #[.val (.ref x), .val (.ref y), .val (.ref y)] [.ref x])) := c12.trans (by
        refine XS.icmpNo X11.here hexec rfl (hb hbytes d33) rfl (ii_ne_f rfl) ?_
        refine XS.aloadN X11.here hexec rfl (hb hbytes d36) rfl rfl ?_
        exact Steps.refl _)
      obtain ⟨T14, X14, q14, st14⟩ := X11.hget hexec hown (wk W (.fieldLink "java/lang/String" 9 "java/lang/String" "value" "[B")) (hx.mv X11.warmed.alike hh11).2.1 (g := (mkF m 37 #[.val (.ref x), .val (.ref y), .val (.ref y)] [.ref x])) rfl (rest := []) rfl (hb hbytes d37)
      have hh14 := q14.trans hh11
      have c15 : Steps p.tables e below (s₁.setTop (entryFrame m #[.ref x, .ref y] 3)) (T14.setTop (mkF m 41 #[.val (.ref x), .val (.ref y), .val (.ref y)] [.ref y, .ref t])) := (c13.trans (st14 _ (Steps.refl _))).trans (by
        refine XS.aloadN X14.here hexec rfl (hb hbytes d40) rfl rfl ?_
        exact Steps.refl _)
      obtain ⟨T16, X16, q16, st16⟩ := X14.hget hexec hown (wk W (.fieldLink "java/lang/String" 9 "java/lang/String" "value" "[B")) (hy.mv X14.warmed.alike hh14).2.1 (g := (mkF m 41 #[.val (.ref x), .val (.ref y), .val (.ref y)] [.ref y, .ref t])) rfl (rest := [.ref t]) rfl (hb hbytes d41)
      have hh16 := q16.trans hh14
      have c17 : Steps p.tables e below (s₁.setTop (entryFrame m #[.ref x, .ref y] 3)) (T16.setTop (mkF m 44 #[.val (.ref x), .val (.ref y), .val (.ref y)] [.ref t', .ref t])) := c15.trans (st16 _ (Steps.refl _))
      obtain ⟨v18, T18, X18, E18, g18⟩ := X16.callS hexec (LEq.law l t V t' V') hown (wks W (staticW "java/lang/String" 541 LEq.yN)) (wk W LEq.tab) (W := 0) (Nat.le_of_ble_eq_true rfl) (Nat.le_of_ble_eq_true rfl) (Nat.le_refl _) (Nat.le_refl _) (g := (mkF m 44 #[.val (.ref x), .val (.ref y), .val (.ref y)] [.ref t', .ref t])) rfl (by rw [hml]; rfl) c17 (argsL := [.ref t, .ref t']) (rest := []) rfl rfl (by show 2 * 0 + 0 ≤ _; decide) (hb hbytes d44) (⟨rfl, hx.2.2.2.1.mv X16.warmed.alike hh16, hx.2.2.2.2.1.ty, hy.2.2.2.1.mv X16.warmed.alike hh16, hy.2.2.2.2.1.ty⟩)
      obtain ⟨v, rfl, q18, hv⟩ := E18
      have iff := Cod.eqv hx.2.2.2.2.1 hy.2.2.2.2.1 hx.2.2.2.2.2 hy.2.2.2.2.2
      rcases hv with ⟨rfl, he⟩ | ⟨rfl, he⟩
      · have c19 : Steps p.tables e below (s₁.setTop (entryFrame m #[.ref x, .ref y] 3)) (T18.setTop (mkF m 55 #[.val (.ref x), .val (.ref y), .val (.ref y)] [.int 1])) := Steps.trans g18 (by
          refine XS.ifNo X18.here hexec rfl (hb hbytes d47) rfl (i0_eq_f (by decide)) ?_
          refine iconstV X18.here hexec rfl 1 (hb hbytes d50) (by decide) ?_
          refine XS.goto X18.here hexec rfl (pc0 := 51) rfl (hb hbytes d51) (by decide) rfl ?_
          exact Steps.refl _)
        exact ⟨T18, some (.int 1), _, _, _, X18, rfl, rfl, rfl, (fun h => by cases h), ⟨1, rfl, q18.trans hh16, Or.inl ⟨rfl, iff.mp he⟩⟩, fun fs hl => c19.trans (X18.ireturnOut hexec hret rfl (Or.inr (Or.inl rfl)) (hb hbytes d55) hl)⟩
      · have c19 : Steps p.tables e below (s₁.setTop (entryFrame m #[.ref x, .ref y] 3)) (T18.setTop (mkF m 55 #[.val (.ref x), .val (.ref y), .val (.ref y)] [.int 0])) := Steps.trans g18 (by
          refine XS.ifYes X18.here hexec rfl (pc0 := 47) rfl (hb hbytes d47) rfl (i0_eq_t rfl) (by decide) rfl ?_
          refine iconstV X18.here hexec rfl 0 (hb hbytes d54) (by decide) ?_
          exact Steps.refl _)
        exact ⟨T18, some (.int 0), _, _, _, X18, rfl, rfl, rfl, (fun h => by cases h), ⟨0, rfl, q18.trans hh16, Or.inr ⟨rfl, fun q => he (iff.mpr q)⟩⟩, fun fs hl => c19.trans (X18.ireturnOut hexec hret rfl (Or.inr (Or.inl rfl)) (hb hbytes d55) hl)⟩
    · have c13 : Steps p.tables e below (s₁.setTop (entryFrame m #[.ref x, .ref y] 3)) (T11.setTop (mkF m 55 #[.val (.ref x), .val (.ref y), .val (.ref y)] [.int 0])) := c12.trans (by
        refine XS.icmpYes X11.here hexec rfl (pc0 := 33) rfl (hb hbytes d33) rfl (ii_ne_t hcd) (by decide) rfl ?_
        refine iconstV X11.here hexec rfl 0 (hb hbytes d54) (by decide) ?_
        exact Steps.refl _)
      exact ⟨T11, some (.int 0), _, _, _, X11, rfl, rfl, rfl, (fun h => by cases h), ⟨0, rfl, hh11, Or.inr ⟨rfl, Cod.dif hx.2.2.2.2.1 hy.2.2.2.2.1 hcd⟩⟩, fun fs hl => c13.trans (X11.ireturnOut hexec hret rfl (Or.inr (Or.inl rfl)) (hb hbytes d55) hl)⟩
theorem pays {l : Launch} {R : Room} {p : Program} {e : Env} {below : List Frame} {s : State} {sargs : Array Value} {len W : Nat} (x t : Addr) (V : Cell) (cd : Int32) (n : Nat) (f : Nat → Int32) (y t' : Addr) (V' : Cell) (cd' : Int32) (k : Nat) (g : Nat → Int32) (z : Int32) (htab : tab.before sargs s = true) (hfr : 2 ≤ R.frames) (hlo : W + 28 ≤ R.locals) :
    Back l R p e below s sargs yN len W (fun A₁ a₁ => A₁.cells + 0 ≤ R.cells ∧ A₁.slots + 0 ≤ R.slots ∧ P x t V cd n f y t' V' cd' k g z a₁ A₁.U) (fun A₁ _ v₁ B₁ => Says01 (SameT n f k g) v₁ A₁.U B₁.U ∧ B₁.locs = A₁.locs ++ [] ∧ B₁.cells = A₁.cells + 0 ∧ B₁.slots = A₁.slots + 0) :=
  (law l x t V cd n f y t' V' cd' k g z).pays htab hfr (by omega)
end SEq
end StrChars
namespace StrChars.Road
open Jvm Sem ClassFile Op Lib Jvm.Stand Jvm.Free Jvm.Free.XT
open Jvm.Lib.Cold (StaticIs)
/-- the words of String.equals(Object) -/
abbrev wordsEq : List Jvm.Cond := [.code SEq.yN SEq.yB 3 (some .boolean), .initialized ST, .classLink ST 10 ST, .fieldLink ST 38 ST "COMPACT_STRINGS" "Z", .fieldLink ST 15 ST "coder" "B", .fieldLink ST 9 ST "value" "[B", .methodLink ST 541 LEq.yN, .static LEq.yN, .code LEq.yN LEq.yB 3 (some .boolean), .initialized "java/lang/StringLatin1"]
theorem tabEq_of {a : Array Value} {s : State} (h : ∀ w ∈ wordsEq, w.before a s = true) : SEq.tab.before a s = true := by
  have hl : LEq.tab.before a s = true := unparts (wk h (.code LEq.yN LEq.yB 3 (some .boolean))) (wks h (.initialized LEq.yN.cls :: LEq.site))
  have q := consq hl h
  exact unparts (wk q (.code SEq.yN SEq.yB 3 (some .boolean))) (wks q (.initialized SEq.yN.cls :: SEq.site))
theorem movedEq {Z s : State} {a0 args : Array Value} (hZ : Z.Warmed39 s.vm) (hw : ∀ d ∈ wordsEq, d.before a0 Z = true) : ∀ d ∈ wordsEq, d.before args s = true := fun d hd => by
  have t : ∀ d ∈ wordsEq, (d.onTables && d.keepsFace) = true := by decide +kernel
  exact RoadKit.mv hZ (hw d hd) (t d hd)
/-- the road's facts of a String, as the laws ask it -/
theorem txt_of {Z U : State} {a0 : Array Value} {kI : Nat} (wi : (Jvm.Cond.instantiable ST kI).before a0 Z = true) (al : Z.vm.Alike U.vm) {x t : Addr} {kb : ClassId} {cs : List Int32} {cd N2 : Int32} {vs : List Value} (E : RoadKit.Exa Z U.heap x ST) (V : RoadKit.Fld Z U.heap x ST "value" "[B" (.ref t)) (C : RoadKit.Fld Z U.heap x ST "coder" "B" (.int cd)) (K : RoadKit.Arv Z U.heap t kb .byte N2 vs (.int 0)) (hc : CodA cs cd N2 vs) (hb : ∀ c ∈ cs, ¬ c < 0 ∧ ¬ (65535 : Int32) < c) (l2 : cs.length ≤ 4000) :
    ∃ A, Txt x t A cd cs.length (fun j => cs.getD j 0) U := by
  obtain ⟨A, K1, K2, K3, K4, K5, K6⟩ := K
  have hcod := hc.cod (by omega) K3 K5
  obtain ⟨D, fV, fC, hB, F1, F2, g1, g2, -, -⟩ := strObj wi al E V C
  exact ⟨A, ⟨_, hB.2.2.1, D, hB.1, rfl, by cases q : D.vm <;> first | rfl | exact absurd q (hB.2.1.2 _)⟩, Has.of hB F1 g1, Has.of hB F2 g2, ⟨K1.1, State.isArrayOf_alike al K1.2.1, K1.2.2, by rcases hcod with ⟨-, q, -⟩ | ⟨-, q, -⟩ <;> omega⟩, hcod, fun j hj => by
    have e : cs.getD j 0 = cs[j] := by simp [List.getD_eq_getElem?_getD, hj]
    show ¬ cs.getD j 0 < 0 ∧ ¬ 65535 < cs.getD j 0
    rw [e]; exact hb _ (List.getElem_mem _)⟩
theorem same_list (cs ds : List Int32) : SameT cs.length (fun j => cs.getD j 0) ds.length (fun j => ds.getD j 0) ↔ cs = ds := by
  constructor
  · rintro ⟨e, q⟩
    refine List.ext_getElem e fun j h1 h2 => ?_
    have := q j h1
    simpa [List.getD_eq_getElem?_getD, h1, h2] using this
  · rintro rfl
    exact ⟨rfl, fun _ _ => rfl⟩
/-- **equals(Object) OF TWO SUCH STRINGS**: 1 just where the chars are the same -/
theorem eqW {p : Program} {l : Launch} {e : Env} {R : Room} {s : State} {args : Array Value} {below : List Frame} {len W : Nat} {Z : State} {a0 : Array Value} {h : Heap} (hZ : Z.Warmed39 s.vm) (hw : ∀ d ∈ wordsEq, d.before a0 Z = true) {kI : Nat} (wi : (Jvm.Cond.instantiable ST kI).before a0 Z = true)
    {x t : Addr} {kb : ClassId} {cs : List Int32} {cd N2 : Int32} {vs : List Value} (E : RoadKit.Exa Z h x ST) (V : RoadKit.Fld Z h x ST "value" "[B" (.ref t)) (C : RoadKit.Fld Z h x ST "coder" "B" (.int cd)) (K : RoadKit.Arv Z h t kb .byte N2 vs (.int 0)) (hc : CodA cs cd N2 vs) (hb : ∀ c ∈ cs, ¬ c < 0 ∧ ¬ (65535 : Int32) < c) (l2 : cs.length ≤ 4000)
    {y t' : Addr} {kb' : ClassId} {ds : List Int32} {cd' N2' : Int32} {vs' : List Value} (E' : RoadKit.Exa Z h y ST) (V' : RoadKit.Fld Z h y ST "value" "[B" (.ref t')) (C' : RoadKit.Fld Z h y ST "coder" "B" (.int cd')) (K' : RoadKit.Arv Z h t' kb' .byte N2' vs' (.int 0)) (hc' : CodA ds cd' N2' vs') (hb' : ∀ c ∈ ds, ¬ c < 0 ∧ ¬ (65535 : Int32) < c) (l2' : ds.length ≤ 4000)
    {z : Int32} (S : RoadKit.Sta Z h ST "COMPACT_STRINGS" "Z" (.int z)) (hz : ¬ z = 0) (hfr : 2 ≤ R.frames) (hlo : W + 28 ≤ R.locals) :
    Back l R p e below s args (⟨"java/lang/String", "equals", "(Ljava/lang/Object;)Z"⟩ : MethodName) len W (fun P a => a = #[.ref x, .ref y] ∧ P.U.heap = h ∧ P.cells + 0 ≤ R.cells ∧ P.slots + 0 ≤ R.slots)
      (fun P _ v B => ∃ L, (((v = some (.int 1) ∧ cs = ds) ∨ (v = some (.int 0) ∧ ¬ cs = ds)) ∧ L = [] ∧ B.U.heap = h) ∧ B.locs = P.locs ++ L ∧ B.cells = P.cells + 0 ∧ B.slots = P.slots + 0) := by
  intro m meth c P g ig mk a X hg hsize hdg hW hn hp'
  obtain ⟨rfl, rfl, r1, r2⟩ := hp'
  have al : Z.vm.Alike P.U.vm := hZ.alike.trans X.warmed.alike
  obtain ⟨A, hx⟩ := txt_of wi al E V C K hc hb l2
  obtain ⟨A', hy⟩ := txt_of wi al E' V' C' K' hc' hb' l2'
  obtain ⟨v, B, X', ⟨⟨w, hv, hh, hq⟩, hl, hk, hs⟩, st⟩ := SEq.pays x t A cd cs.length (fun j => cs.getD j 0) y t' A' cd' ds.length (fun j => ds.getD j 0) z (tabEq_of (movedEq hZ hw)) hfr hlo m meth c P g ig mk _ X hg hsize hdg hW hn ⟨r1, r2, rfl, hx, hy, sta_is al S, hz⟩
  refine ⟨v, B, X', ⟨[], ⟨?_, rfl, hh⟩, hl, hk, hs⟩, st⟩
  rcases hq with ⟨rfl, q⟩ | ⟨rfl, q⟩
  · exact Or.inl ⟨hv, (same_list cs ds).mp q⟩
  · exact Or.inr ⟨hv, fun e => q ((same_list cs ds).mpr e)⟩
end StrChars.Road
namespace StrChars
open Jvm Sem ClassFile Op Lib Jvm.Stand Jvm.Free.XT Jvm.Free.ALB Jvm.Free.JM Jvm.Free
open Jvm.Lib.Cold (StaticIs)
namespace ChN
def yN : MethodName := ⟨"java/lang/String", "charAt", "(I)C"⟩
abbrev yB : ByteArray := jdk_42_method_56_code
theorem d0 : decode yB 0 = .ok (.aload_n 0, 1) := by decide +kernel
theorem d1 : decode yB 1 = .ok (.invokevirtual 492, 3) := by decide +kernel
theorem d4 : decode yB 4 = .ok (.ifCond (.eq) 12, 3) := by decide +kernel
theorem d7 : decode yB 7 = .ok (.aload_n 0, 1) := by decide +kernel
theorem d8 : decode yB 8 = .ok (.getfield 9, 3) := by decide +kernel
theorem d11 : decode yB 11 = .ok (.iload_n 1, 1) := by decide +kernel
theorem d12 : decode yB 12 = .ok (.invokestatic 495, 3) := by decide +kernel
theorem d15 : decode yB 15 = .ok (.ireturn, 1) := by decide +kernel
def site : List Cond := [.fieldLink "java/lang/String" 9 "java/lang/String" "value" "[B", IsL.tab, LChA.tab] ++ virtW "java/lang/String" 492 "java/lang/String" IsL.yN IsL.yN ++ staticW "java/lang/String" 495 LChA.yN
def tab : Cond := tabOf yN yB 2 (some .char) site
def P (x t : Addr) (V : Cell) (n : Nat) (f : Nat → Int32) (z : Int32) (fm : Value) (i : Nat) (args : Array Value) (s : State) : Prop := args = #[.ref x, .int (Int32.ofNat i)] ∧ Txt x t V 0 n f s ∧ i < n ∧ StaticIs s "java/lang/String" "COMPACT_STRINGS" "Z" (.int z) ∧ ¬ z = 0 ∧ StaticIs s "jdk/internal/util/Preconditions" "SIOOBE_FORMATTER" "Ljava/util/function/BiFunction;" fm ∧ fm.isRef = true
def E (f : Nat → Int32) (i : Nat) (r : Option Value) (s u : State) : Prop := XT.PureE (some (.int (f i))) r s u
/-- charAt(i) of a Latin-1 String of n chars, i < n: f i -/
theorem law (l : Launch) (x t : Addr) (V : Cell) (n : Nat) (f : Nat → Int32) (z : Int32) (fm : Value) (i : Nat) : Law l yN 2 1 3 40 yB 2 (some .char) site (P x t V n f z fm i) (E f i) [] 0 0 := by
  refine Law.of_walk (plainFor_of_name (by decide +kernel)) (by decide +kernel) (by decide +kernel) (by decide) (fun _ _ h => by rw [h.1]; rfl) (fun _ U U' hal hh h => ⟨h.1, h.2.1.mv hal hh, h.2.2.1, h.2.2.2.1.there hal hh, h.2.2.2.2.1, h.2.2.2.2.2.1.there hal hh, h.2.2.2.2.2.2⟩) (fun r U U' V V' h1 hal h2 h => XT.PureE.mv r U U' V V' h1 hal h2 h) ?_
  intro p e s m args below meth c s₁ X0 hexec hbytes hml hret hlk hnm hown hh0 W hP
  obtain ⟨rfl, hx, hi, s1, hz, s3, rf⟩ := hP
  have v31 := hx.2.2.2.1.2.2.2
  have hr := hx.2.2.2.2.2 i hi
  have hx0 := hx.mv X0.warmed.alike hh0
  have c1 : Steps p.tables e below (s₁.setTop (entryFrame m #[.ref x, .int (Int32.ofNat i)] 2)) (s₁.setTop (mkF m 1 #[.val (.ref x), .val (.int (Int32.ofNat i))] [.ref x])) := Steps.trans (entry rfl) (by
    show Steps p.tables e below (s₁.setTop (mkF m 0 #[.val (.ref x), .val (.int (Int32.ofNat i))] [])) _
    refine XS.aloadN X0.here hexec rfl (hb hbytes d0) rfl rfl ?_
    exact Steps.refl _)
  obtain ⟨v2, T2, X2, E2, g2⟩ := X0.callV hexec (IsL.law l x 0 z) hown (wks W (virtW "java/lang/String" 492 "java/lang/String" IsL.yN IsL.yN)) rfl (by decide) (wk W IsL.tab) (W := 0) (Nat.le_of_ble_eq_true rfl) (Nat.le_of_ble_eq_true rfl) (Nat.le_refl _) (Nat.le_refl _) (hx0.1.fc X0.warmed.alike) hx0.1.is (g := (mkF m 1 #[.val (.ref x), .val (.int (Int32.ofNat i))] [.ref x])) rfl (by rw [hml]; rfl) c1 (argsL := []) (rest := []) rfl rfl (by show 2 * 0 + 0 ≤ _; decide) (hb hbytes d1) (⟨rfl, hx0.2.2.1, hx.2.2.2.2.1.cd, s1.there X0.warmed.alike hh0, hz⟩)
  obtain ⟨rfl, q2⟩ := E2
  have hh2 := q2.trans hh0
  have hx2 := hx.mv X2.warmed.alike hh2
  obtain ⟨-, k1, k2⟩ | ⟨k0, -⟩ := hx.2.2.2.2.1
  · have c3 : Steps p.tables e below (s₁.setTop (entryFrame m #[.ref x, .int (Int32.ofNat i)] 2)) (T2.setTop (mkF m 8 #[.val (.ref x), .val (.int (Int32.ofNat i))] [.ref x])) := Steps.trans g2 (by
      refine XS.ifNo X2.here hexec rfl (hb hbytes d4) rfl (i0_eq_f (by decide)) ?_
      refine XS.aloadN X2.here hexec rfl (hb hbytes d7) rfl rfl ?_
      exact Steps.refl _)
    obtain ⟨T4, X4, q4, st4⟩ := X2.hget hexec hown (wk W (.fieldLink "java/lang/String" 9 "java/lang/String" "value" "[B")) hx2.2.1 (g := (mkF m 8 #[.val (.ref x), .val (.int (Int32.ofNat i))] [.ref x])) rfl (rest := []) rfl (hb hbytes d8)
    have hh4 := q4.trans hh2
    have c5 : Steps p.tables e below (s₁.setTop (entryFrame m #[.ref x, .int (Int32.ofNat i)] 2)) (T4.setTop (mkF m 12 #[.val (.ref x), .val (.int (Int32.ofNat i))] [.int (Int32.ofNat i), .ref t])) := (c3.trans (st4 _ (Steps.refl _))).trans (by
      refine XS.iloadN X4.here hexec rfl (hb hbytes d11) rfl ?_
      exact Steps.refl _)
    obtain ⟨v6, T6, X6, E6, g6⟩ := X4.callS hexec (LChA.law l t V i (lo8 (f i)) fm) hown (wks W (staticW "java/lang/String" 495 LChA.yN)) (wk W LChA.tab) (W := 0) (Nat.le_of_ble_eq_true rfl) (Nat.le_of_ble_eq_true rfl) (Nat.le_refl _) (Nat.le_refl _) (g := (mkF m 12 #[.val (.ref x), .val (.int (Int32.ofNat i))] [.int (Int32.ofNat i), .ref t])) rfl (by rw [hml]; rfl) c5 (argsL := [.ref t, .int (Int32.ofNat i)]) (rest := []) rfl rfl (by show 2 * 0 + 0 ≤ _; decide) (hb hbytes d12) (⟨rfl, hx.2.2.2.1.mv X4.warmed.alike hh4, (k2 i hi).1, s3.there X4.warmed.alike hh4, rf⟩)
    obtain ⟨rfl, q6⟩ := E6
    rw [chr8_lo8 hr.1 (k2 i hi).2] at g6
    exact ⟨T6, some (.int (f i)), _, _, _, X6, rfl, rfl, rfl, (fun h => by cases h), ⟨rfl, q6.trans hh4⟩, fun fs hl => Steps.trans g6 (X6.ireturnOut hexec hret (narrow_ch hr.1 hr.2) (Or.inr (Or.inr (Or.inr (Or.inl rfl)))) (hb hbytes d15) hl)⟩
  · exact absurd k0 (by decide)
theorem pays {l : Launch} {R : Room} {p : Program} {e : Env} {below : List Frame} {s : State} {sargs : Array Value} {len W : Nat} (x t : Addr) (V : Cell) (n : Nat) (f : Nat → Int32) (z : Int32) (fm : Value) (i : Nat) (htab : tab.before sargs s = true) (hfr : 4 ≤ R.frames) (hlo : W + 53 ≤ R.locals) :
    Back l R p e below s sargs yN len W (fun A₁ a₁ => A₁.cells + 0 ≤ R.cells ∧ A₁.slots + 0 ≤ R.slots ∧ P x t V n f z fm i a₁ A₁.U) (fun A₁ _ v₁ B₁ => E f i v₁ A₁.U B₁.U ∧ B₁.locs = A₁.locs ++ [] ∧ B₁.cells = A₁.cells + 0 ∧ B₁.slots = A₁.slots + 0) :=
  (law l x t V n f z fm i).pays htab hfr (by omega)
end ChN
end StrChars
namespace StrChars.Road
open Jvm Sem ClassFile Op Lib Jvm.Stand Jvm.Free Jvm.Free.XT
open Jvm.Lib.Cold (StaticIs)
/-- the words of String.charAt(int), the Latin-1 road alone -/
abbrev wordsChN : List Jvm.Cond := [.code ChN.yN ChN.yB 2 (some .char), .initialized ST, .fieldLink ST 9 ST "value" "[B", .fieldLink ST 38 ST "COMPACT_STRINGS" "Z", .fieldLink ST 15 ST "coder" "B", .code IsL.yN IsL.yB 1 (some .boolean), .methodLink ST 492 IsL.yN, .declares IsL.yN, .selects ST IsL.yN IsL.yN, .instanceMethod IsL.yN,
  .methodLink ST 495 LChA.yN, .static LChA.yN, .code LChA.yN LChA.yB 2 (some .char), .initialized "java/lang/StringLatin1", .methodLink "java/lang/StringLatin1" 9 JO.Str_checkIndex.yN, .static JO.Str_checkIndex.yN, .code JO.Str_checkIndex.yN JO.Str_checkIndex.yB 2 none,
  .fieldLink ST 1053 "jdk/internal/util/Preconditions" "SIOOBE_FORMATTER" "Ljava/util/function/BiFunction;", .methodLink ST 1059 JC.PreCheck.yN, .static JC.PreCheck.yN, .code JC.PreCheck.yN JC.PreCheck.yB 3 (some .int), .initialized "jdk/internal/util/Preconditions"]
theorem tabChN_of {a : Array Value} {s : State} (h : ∀ w ∈ wordsChN, w.before a s = true) : ChN.tab.before a s = true := by
  have hp : JC.PreCheck.tab.before a s = true := unparts (wk h (.code JC.PreCheck.yN JC.PreCheck.yB 3 (some .int))) (wks h (.initialized JC.PreCheck.yN.cls :: JC.PreCheck.site))
  have qk := consq hp h
  have hk : JO.Str_checkIndex.tab.before a s = true := unparts (wk qk (.code JO.Str_checkIndex.yN JO.Str_checkIndex.yB 2 none)) (wks qk (.initialized JO.Str_checkIndex.yN.cls :: JO.Str_checkIndex.site))
  have ql := consq hk h
  have hl : LChA.tab.before a s = true := unparts (wk ql (.code LChA.yN LChA.yB 2 (some .char))) (wks ql (.initialized LChA.yN.cls :: LChA.site))
  have hi : IsL.tab.before a s = true := unparts (wk h (.code IsL.yN IsL.yB 1 (some .boolean))) (wks h (.initialized IsL.yN.cls :: IsL.site))
  have q := consq hi (consq hl h)
  exact unparts (wk q (.code ChN.yN ChN.yB 2 (some .char))) (wks q (.initialized ChN.yN.cls :: ChN.site))
theorem movedChN {Z s : State} {a0 args : Array Value} (hZ : Z.Warmed39 s.vm) (hw : ∀ d ∈ wordsChN, d.before a0 Z = true) : ∀ d ∈ wordsChN, d.before args s = true := fun d hd => by
  have t : ∀ d ∈ wordsChN, (d.onTables && d.keepsFace) = true := by decide +kernel
  exact RoadKit.mv hZ (hw d hd) (t d hd)
/-- **charAt(i) OF A LATIN-1 STRING**, i < n: the char -/
theorem chN {p : Program} {l : Launch} {e : Env} {R : Room} {s : State} {args : Array Value} {below : List Frame} {len W : Nat} {Z : State} {a0 : Array Value} {h : Heap} (hZ : Z.Warmed39 s.vm) (hw : ∀ d ∈ wordsChN, d.before a0 Z = true) {kI : Nat} (wi : (Jvm.Cond.instantiable ST kI).before a0 Z = true)
    {x t : Addr} {kb : ClassId} {cs : List Int32} {N2 z : Int32} {vs : List Value} {fm : Value} {i : Nat} {j : Int32} (E : RoadKit.Exa Z h x ST) (V : RoadKit.Fld Z h x ST "value" "[B" (.ref t)) (C : RoadKit.Fld Z h x ST "coder" "B" (.int 0)) (K : RoadKit.Arv Z h t kb .byte N2 vs (.int 0)) (hc : CodA cs 0 N2 vs) (hb : ∀ c ∈ cs, ¬ c < 0 ∧ ¬ (65535 : Int32) < c)
    (S : RoadKit.Sta Z h ST "COMPACT_STRINGS" "Z" (.int z)) (hz : ¬ z = 0) (F : RoadKit.Sta Z h "jdk/internal/util/Preconditions" "SIOOBE_FORMATTER" "Ljava/util/function/BiFunction;" fm) (rf : fm.isRef = true) (l2 : cs.length ≤ 4000) (hi : i < cs.length) (hj : j = Int32.ofNat i) (hfr : 4 ≤ R.frames) (hlo : W + 53 ≤ R.locals) :
    Back l R p e below s args (⟨"java/lang/String", "charAt", "(I)C"⟩ : MethodName) len W (fun P a => a = #[.ref x, .int j] ∧ P.U.heap = h ∧ P.cells + 0 ≤ R.cells ∧ P.slots + 0 ≤ R.slots)
      (fun P _ v B => ∃ L, (v = some (.int (cs.getD i 0)) ∧ L = [] ∧ B.U.heap = h) ∧ B.locs = P.locs ++ L ∧ B.cells = P.cells + 0 ∧ B.slots = P.slots + 0) := by
  subst hj
  intro m meth c P g ig mk a X hg hsize hdg hW hn hp'
  obtain ⟨rfl, rfl, r1, r2⟩ := hp'
  have al : Z.vm.Alike P.U.vm := hZ.alike.trans X.warmed.alike
  obtain ⟨A, hx⟩ := txt_of wi al E V C K hc hb l2
  obtain ⟨v, B, X', ⟨⟨hv, hh⟩, hl, hk, hs⟩, st⟩ := ChN.pays x t A cs.length (fun j => cs.getD j 0) z fm i (tabChN_of (movedChN hZ hw)) hfr hlo m meth c P g ig mk _ X hg hsize hdg hW hn ⟨r1, r2, rfl, hx, hi, sta_is al S, hz, sta_is al F, rf⟩
  exact ⟨v, B, X', ⟨[], ⟨hv, rfl, hh⟩, hl, hk, hs⟩, st⟩
/-- what backV says of its String, as the contracts of this text ask it: cs's low bytes, coder 0 -/
theorem codOf {cs : List Int32} {n : Nat} (hn : cs.length = n) (hb : ∀ c ∈ cs, ¬ 255 < c) : CodA cs 0 (Int32.ofNat n) ((cs.map lo8).map Value.int) := Or.inl ⟨rfl, by rw [hn], by simp [List.map_map, Function.comp_def], hb⟩
end StrChars.Road
end Jvm.Pilot.@@N@@
namespace Jvm.Pilot.@@N@@
namespace GK
open Jvm Jvm.ClassFile Sem Op Lib Jvm.Free Jvm.Stand Jvm.LawKit Jvm.RoadKit Bundle
section Strs
variable {md : Md} {l : Launch} {Z : State} {n0 : Nat} {R : Room} {h h' : Heap} {sf : List Addr} {a0 : Array Value} {x b : Addr} {cs ds : List Int32}
abbrev ST : String := "java/lang/String"
def Lat (cs : List Int32) : Prop := ∀ c ∈ cs, ¬ c < 0 ∧ ¬ (255 : Int32) < c
/-- x is a Latin-1 String of these chars -/
def Str (Z : State) (h : Heap) (x : Addr) (cs : List Int32) : Prop := ∃ t : Addr, Exa Z h x ST ∧ Fld Z h x ST "coder" "B" (.int 0) ∧ Fld Z h x ST "value" "[B" (.ref t) ∧ Ary Z h t .byte ((cs.map fun c => c.toInt8.toInt32).map Value.int) ∧ Lat cs
theorem Str.ext (S : Str Z h x cs) (E : Ext h h') : Str Z h' x cs := by obtain ⟨t, s1, s2, s3, s4, s5⟩ := S; exact ⟨t, s1.ext E, s2.ext E, s3.ext E, s4.ext E, s5⟩
theorem Str.exa (S : Str Z h x cs) : Exa Z h x ST := by obtain ⟨t, s1, -⟩ := S; exact s1
theorem Str.lt (S : Str Z h x cs) : x < h.size := S.exa.lt
theorem Str.keepO {a : Addr} {C : String} {k : Nat} (S : Str Z h x cs) (E : Exa Z h a C) (hn : C ≠ ST) (wi : (Jvm.Cond.instantiable C k).before a0 Z = true) (K : Keep h h' [a]) : Str Z h' x cs := by
  obtain ⟨t, s1, s2, s3, s4, s5⟩ := S
  have n1 : x ≠ a := Ne.symm (ne_exa E s1 hn)
  have n2 : t ≠ a := by obtain ⟨c, A, -⟩ := s4; exact Ne.symm (ne_arr E wi A)
  exact ⟨t, s1.keep K, s2.keep K (ninS n1 nin0), s3.keep K (ninS n1 nin0), Ary.keep K s4 (ninS n2 nin0), s5⟩
theorem strNew {W : Nat} {v0 c0 : Value} {z : Int32} (hws : ∀ d ∈ StrChars.Road.words, d.before a0 Z = true) (wi : (Jvm.Cond.instantiable ST 4).before a0 Z = true) (hx0 : n0 ≤ x) (o : Old Z n0 h) (E : Exa Z h x ST) (V : Fld Z h x ST "value" "[B" v0) (C : Fld Z h x ST "coder" "B" c0) (K : Ary Z h b .char (cs.map Value.int))
    (S : Sta Z Z.heap ST "COMPACT_STRINGS" "Z" (.int z)) (hz : ¬ z = 0) (n : Nat) (hn : cs.length = n) (l0 : 0 < n) (l2 : n ≤ 4000) (hp : Lat cs) (hfr : 4 ≤ R.frames) (hlo : W + 65 ≤ R.locals) (hsf : x ∈ sf) :
    Call md l Z n0 R ⟨"java/lang/String", "<init>", "([C)V"⟩ 3 W #[.ref x, .ref b] h sf 1 n (fun v h' _ => v = none ∧ Keep h h' [x] ∧ Str Z h' x cs) := by
  subst hn
  obtain ⟨kC, K'⟩ := K.arv (.int 0)
  rw [List.length_map] at K'
  refine call_of_back [x] (QB := StrChars.Road.QV Z x (Int32.ofNat cs.length) (cs.map fun c => c.toInt8.toInt32) h n0) (fun p e below s sargs hZ => StrChars.Road.backV hZ hws wi hx0 (o.1 ▸ o.2.1) E V C K' (S.ext o.2) hz rfl rfl l0 l2 hp rfl hfr hlo) ?_ (sub1 hsf) (fun y hy => by cases List.mem_singleton.mp hy; exact hx0)
  rintro v h' L ⟨rfl, q2, q3, q4, q5, t, kb, -, -, -, q9, q10⟩
  refine ⟨q2, q3, rfl, q3, t, q4, q5, q9, Ary.ofArv q10 ?_ (by simp; omega), hp⟩
  rw [(clamp_of (ofNat_toInt (by omega))).2]; simp
theorem toInt_lt {x y : Int32} : x < y ↔ x.toInt < y.toInt := Int32.lt_iff_toInt_lt
theorem lat_iff {c : Int32} : (¬ c < 0 ∧ ¬ (255 : Int32) < c) ↔ (0 ≤ c.toInt ∧ c.toInt ≤ 255) := by
  rw [toInt_lt, toInt_lt]
  have e1 : (0 : Int32).toInt = 0 := rfl
  have e2 : (255 : Int32).toInt = 255 := rfl
  omega
theorem chr_id {c : Int32} (q : 0 ≤ c.toInt ∧ c.toInt ≤ 65535) : chr c = c := Int32.toInt_inj.mp (by have := c_i2c c; show (c.toUInt32.toUInt16.toUInt32.toInt32).toInt = c.toInt; omega)
theorem chr_rng (x : Int32) : 0 ≤ (chr x).toInt ∧ (chr x).toInt ≤ 65535 := by have := c_i2c x; show 0 ≤ (x.toUInt32.toUInt16.toUInt32.toInt32).toInt ∧ (x.toUInt32.toUInt16.toUInt32.toInt32).toInt ≤ 65535; omega
theorem and255 (x : Int32) : 0 ≤ (x &&& (255 : Int32)).toInt ∧ (x &&& (255 : Int32)).toInt ≤ 255 := c_and x 255 (by decide)
theorem chr255 (x : Int32) : ¬ chr (x &&& (255 : Int32)) < 0 ∧ ¬ (255 : Int32) < chr (x &&& (255 : Int32)) := by
  have q := and255 x
  rw [chr_id (by omega)]; exact lat_iff.mpr q
theorem nar_chr (c : Int32) : nar .char c = chr c := rfl
theorem nar_c {c : Int32} (q : ¬ c < 0 ∧ ¬ (255 : Int32) < c) : nar .char c = c := by
  have := lat_iff.mp q
  rw [nar_chr, chr_id (by omega)]
theorem i8_idem (x : Int32) : x.toInt8.toInt32.toInt8.toInt32 = x.toInt8.toInt32 := Int32.toInt_inj.mp (by have h1 := c_i2b x; have h2 := c_i2b (x.toInt8.toInt32); omega)
theorem latN : Lat [] := fun c hc => nomatch hc
theorem latC {c : Int32} {cs : List Int32} (q : ¬ c < 0 ∧ ¬ (255 : Int32) < c) (r : Lat cs) : Lat (c :: cs) := fun y hy => (List.mem_cons.mp hy).elim (fun u => u ▸ q) (r y)
theorem lat1 {c : Int32} (q : ¬ c < 0 ∧ ¬ (255 : Int32) < c) : Lat [c] := latC q latN
theorem lat2 {c d : Int32} (q : ¬ c < 0 ∧ ¬ (255 : Int32) < c) (r : ¬ d < 0 ∧ ¬ (255 : Int32) < d) : Lat [c, d] := latC q (lat1 r)
end Strs
end GK
end Jvm.Pilot.@@N@@
namespace Jvm.Pilot.@@N@@
namespace GK
open Jvm Jvm.ClassFile Sem Op Lib Jvm.Free Jvm.Stand Jvm.LawKit Jvm.RoadKit Bundle
section StrsE
variable {md : Md} {l : Launch} {Z : State} {n0 : Nat} {R : Room} {h h' : Heap} {sf : List Addr} {a0 : Array Value} {x y : Addr} {cs ds : List Int32}
theorem Lat.up (q : Lat cs) : ∀ c ∈ cs, ¬ c < 0 ∧ ¬ (65535 : Int32) < c := fun c hc => by
  have := lat_iff.mp (q c hc)
  refine ⟨(q c hc).1, fun z => ?_⟩
  rw [toInt_lt] at z
  have e1 : (65535 : Int32).toInt = 65535 := rfl
  omega
theorem strEq {W : Nat} {z : Int32} (heq : ∀ d ∈ StrChars.Road.wordsEq, d.before a0 Z = true) (wi : (Jvm.Cond.instantiable ST 4).before a0 Z = true) (S1 : Str Z h x cs) (S2 : Str Z h y ds) (l1 : cs.length ≤ 4000) (l2 : ds.length ≤ 4000) (o : Old Z n0 h) (S : Sta Z Z.heap ST "COMPACT_STRINGS" "Z" (.int z)) (hz : ¬ z = 0) (hfr : 2 ≤ R.frames) (hlo : W + 28 ≤ R.locals) :
    Call md l Z n0 R ⟨"java/lang/String", "equals", "(Ljava/lang/Object;)Z"⟩ 3 W #[.ref x, .ref y] h sf 0 0 (fun v h' _ => h = h' ∧ ((v = some (.int 1) ∧ cs = ds) ∨ (v = some (.int 0) ∧ ¬ cs = ds))) := by
  obtain ⟨t, E, C, V, A, q⟩ := S1
  obtain ⟨t', E', C', V', A', q'⟩ := S2
  obtain ⟨k, K⟩ := A.arv (.int 0)
  obtain ⟨k', K'⟩ := A'.arv (.int 0)
  rw [List.length_map, List.length_map] at K K'
  refine call_of_back [] (QB := fun v h' L => (((v = some (.int 1) ∧ cs = ds) ∨ (v = some (.int 0) ∧ ¬ cs = ds)) ∧ L = [] ∧ h' = h)) (fun p e below s sargs hZ => StrChars.Road.eqW hZ heq wi E V C K (StrChars.Road.codOf rfl fun c hc => (q c hc).2) q.up l1 E' V' C' K' (StrChars.Road.codOf rfl fun c hc => (q' c hc).2) q'.up l2 (S.ext o.2) hz hfr hlo) ?_ (fun _ q => nomatch q) (fun _ q => nomatch q)
  rintro v h' L ⟨q1, rfl, rfl⟩
  exact ⟨Fr.nil n0, Keep.refl _ _, rfl, q1⟩
end StrsE
end GK
end Jvm.Pilot.@@N@@
namespace Jvm.Pilot.@@N@@
namespace GK
open Jvm Jvm.ClassFile Sem Op Lib Jvm.Free Jvm.Stand Jvm.LawKit Jvm.RoadKit Bundle
section StrsM
variable {md : Md} {l : Launch} {Z : State} {n0 : Nat} {R : Room} {h h' : Heap} {sf : List Addr} {a0 : Array Value} {x y : Addr} {cs ds : List Int32}
theorem Lat.wide (q : Lat cs) : ∀ c ∈ cs, ¬ c < 0 ∧ ¬ (65535 : Int32) < c := fun c hc => by
  have := lat_iff.mp (q c hc)
  refine ⟨(q c hc).1, fun z => ?_⟩
  rw [toInt_lt] at z
  have e1 : (65535 : Int32).toInt = 65535 := rfl
  omega
theorem strLen {W : Nat} {z : Int32} (hln : ∀ d ∈ StrChars.Road.wordsLen, d.before a0 Z = true) (wi : (Jvm.Cond.instantiable ST 4).before a0 Z = true) (S1 : Str Z h x cs) (l1 : cs.length ≤ 4000) (o : Old Z n0 h) (S : Sta Z Z.heap ST "COMPACT_STRINGS" "Z" (.int z)) (hz : ¬ z = 0) (hfr : 2 ≤ R.frames) (hlo : W + 25 ≤ R.locals) :
    Call md l Z n0 R ⟨"java/lang/String", "length", "()I"⟩ 3 W #[.ref x] h sf 0 0 (fun v h' _ => h = h' ∧ v = some (.int (Int32.ofNat cs.length))) := by
  obtain ⟨t, E, C, V, A, q⟩ := S1
  obtain ⟨k, K⟩ := A.arv (.int 0)
  rw [List.length_map, List.length_map] at K
  refine call_of_back [] (QB := fun v h' L => (v = some (.int (Int32.ofNat cs.length)) ∧ L = [] ∧ h' = h)) (fun p e below s sargs hZ => StrChars.Road.lenW hZ hln wi E V C K (StrChars.Road.codOf rfl fun c hc => (q c hc).2) q.wide (S.ext o.2) hz l1 hfr hlo) ?_ (fun _ q => nomatch q) (fun _ q => nomatch q)
  rintro v h' L ⟨q1, rfl, rfl⟩
  exact ⟨Fr.nil n0, Keep.refl _ _, rfl, q1⟩
theorem strCh {W : Nat} {z j : Int32} {fm : Value} (hch : ∀ d ∈ StrChars.Road.wordsChN, d.before a0 Z = true) (wi : (Jvm.Cond.instantiable ST 4).before a0 Z = true) (S1 : Str Z h x cs) (l1 : cs.length ≤ 4000) (o : Old Z n0 h) (S : Sta Z Z.heap ST "COMPACT_STRINGS" "Z" (.int z)) (hz : ¬ z = 0) (F : Sta Z Z.heap "jdk/internal/util/Preconditions" "SIOOBE_FORMATTER" "Ljava/util/function/BiFunction;" fm) (rf : fm.isRef = true)
    (i : Nat) (hj : j.toInt = (i : Int)) (hi : i < cs.length) (hfr : 4 ≤ R.frames) (hlo : W + 53 ≤ R.locals) :
    Call md l Z n0 R ⟨"java/lang/String", "charAt", "(I)C"⟩ 3 W #[.ref x, .int j] h sf 0 0 (fun v h' _ => h = h' ∧ v = some (.int (cs.getD i 0))) := by
  obtain ⟨t, E, C, V, A, q⟩ := S1
  obtain ⟨k, K⟩ := A.arv (.int 0)
  rw [List.length_map, List.length_map] at K
  have ej : j = Int32.ofNat i := Int32.toInt_inj.mp (by rw [hj, ofNat_toInt (by omega)])
  refine call_of_back [] (QB := fun v h' L => (v = some (.int (cs.getD i 0)) ∧ L = [] ∧ h' = h)) (fun p e below s sargs hZ => StrChars.Road.chN hZ hch wi E V C K (StrChars.Road.codOf rfl fun c hc => (q c hc).2) q.wide (S.ext o.2) hz (F.ext o.2) rf l1 hi ej hfr hlo) ?_ (fun _ q => nomatch q) (fun _ q => nomatch q)
  rintro v h' L ⟨q1, rfl, rfl⟩
  exact ⟨Fr.nil n0, Keep.refl _ _, rfl, q1⟩
end StrsM
end GK
end Jvm.Pilot.@@N@@
namespace Jvm.Pilot.@@N@@
namespace GK
open Jvm Jvm.ClassFile Sem Op Lib Jvm.Free Jvm.Stand Jvm.LawKit Jvm.RoadKit Bundle
section Utfs
variable {Z : State} {h h' : Heap} {x : Addr} {cs : List Int32}
/-- a char's value -/
def CHP (c : Int32) : Prop := 0 ≤ c.toInt ∧ c.toInt ≤ 65535
theorem chp_chr (x : Int32) : CHP (chr x) := chr_rng x
theorem nar_cc {c : Int32} (q : CHP c) : nar .char c = c := by rw [nar_chr, chr_id q]
theorem chp0 {c : Int32} (q : CHP c) : ¬ c < 0 := fun z => by have := toInt_lt.mp z; have e : (0 : Int32).toInt = 0 := rfl; have := q.1; omega
def lo16 (c : Int32) : Int32 := (c >>> ((0 : Int32) &&& 31)).toInt8.toInt32
def hi16 (c : Int32) : Int32 := (c >>> ((8 : Int32) &&& 31)).toInt8.toInt32
def getc (x y : Int32) : Int32 := chr (((x &&& (255 : Int32)) <<< ((0 : Int32) &&& 31)) ||| ((y &&& (255 : Int32)) <<< ((8 : Int32) &&& 31)))
theorem rt16 {c : Int32} (q : CHP c) : getc (lo16 c) (hi16 c) = c := by
  refine Int32.toInt_inj.mp ?_
  have h0 : (c >>> ((0 : Int32) &&& 31)).toInt = c.toInt / (2 ^ 0 : Nat) := c_ishr c 0 0 (by decide)
  have h8 : (c >>> ((8 : Int32) &&& 31)).toInt = c.toInt / (2 ^ 8 : Nat) := c_ishr c 8 8 (by decide)
  have b0 := c_i2b (c >>> ((0 : Int32) &&& 31))
  have b8 := c_i2b (c >>> ((8 : Int32) &&& 31))
  have m0 : (lo16 c &&& (255 : Int32)).toInt = (lo16 c).toInt % (2 ^ 8 : Nat) := c_mask _ 255 8 (by decide) (by decide)
  have m8 : (hi16 c &&& (255 : Int32)).toInt = (hi16 c).toInt % (2 ^ 8 : Nat) := c_mask _ 255 8 (by decide) (by decide)
  have s0 := c_ishl (lo16 c &&& (255 : Int32)) 0 0 (by decide)
  have s8 := c_ishl (hi16 c &&& (255 : Int32)) 8 8 (by decide)
  have r0 := rng32 ((lo16 c &&& (255 : Int32)) <<< ((0 : Int32) &&& 31))
  have r8 := rng32 ((hi16 c &&& (255 : Int32)) <<< ((8 : Int32) &&& 31))
  have e0 : (lo16 c).toInt = ((c >>> ((0 : Int32) &&& 31)).toInt8.toInt32).toInt := rfl
  have e8 : (hi16 c).toInt = ((c >>> ((8 : Int32) &&& 31)).toInt8.toInt32).toInt := rfl
  unfold CHP at q
  have o := c_or' ((lo16 c &&& (255 : Int32)) <<< ((0 : Int32) &&& 31)) ((hi16 c &&& (255 : Int32)) <<< ((8 : Int32) &&& 31)) 8 (by decide) 256 rfl (by omega) (by omega) (by omega)
  have r := rng32 (((lo16 c &&& (255 : Int32)) <<< ((0 : Int32) &&& 31)) ||| ((hi16 c &&& (255 : Int32)) <<< ((8 : Int32) &&& 31)))
  have k := c_i2c (((lo16 c &&& (255 : Int32)) <<< ((0 : Int32) &&& 31)) ||| ((hi16 c &&& (255 : Int32)) <<< ((8 : Int32) &&& 31)))
  show ((((lo16 c &&& (255 : Int32)) <<< ((0 : Int32) &&& 31)) ||| ((hi16 c &&& (255 : Int32)) <<< ((8 : Int32) &&& 31))).toUInt32.toUInt16.toUInt32.toInt32).toInt = c.toInt
  omega
theorem lo8_get {c : Int32} (q : ¬ c < 0 ∧ ¬ (255 : Int32) < c) : chr (c.toInt8.toInt32 &&& (255 : Int32)) = c := by
  have q' := lat_iff.mp q
  have m0 : (c.toInt8.toInt32 &&& (255 : Int32)).toInt = (c.toInt8.toInt32).toInt % (2 ^ 8 : Nat) := c_mask _ 255 8 (by decide) (by decide)
  have b0 := c_i2b c
  have e : c.toInt8.toInt32 &&& (255 : Int32) = c := Int32.toInt_inj.mp (by omega)
  rw [e, chr_id (by omega)]
def wide : List Int32 → List Value
  | [] => []
  | c :: cs => .int (lo16 c) :: .int (hi16 c) :: wide cs
theorem wide_len : ∀ cs : List Int32, (wide cs).length = 2 * cs.length
  | [] => rfl
  | c :: cs => by simp only [wide, List.length_cons, wide_len cs]; omega
/-- the bytes that spell these chars under a coder -/
def Spell (cs : List Int32) (cd : Int32) (vs : List Value) : Prop := (cd = 0 ∧ vs = ((cs.map fun c => c.toInt8.toInt32).map Value.int) ∧ Lat cs) ∨ (cd = 1 ∧ vs = wide cs ∧ ∃ c ∈ cs, (255 : Int32) < c)
def Gst (Z : State) (h : Heap) (x : Addr) (cs : List Int32) : Prop := ∃ (t : Addr) (cd : Int32) (vs : List Value), Exa Z h x ST ∧ Fld Z h x ST "coder" "B" (.int cd) ∧ Fld Z h x ST "value" "[B" (.ref t) ∧ Ary Z h t .byte vs ∧ Spell cs cd vs
theorem Gst.ext (S : Gst Z h x cs) (E : Ext h h') : Gst Z h' x cs := by obtain ⟨t, cd, vs, s1, s2, s3, s4, s5⟩ := S; exact ⟨t, cd, vs, s1.ext E, s2.ext E, s3.ext E, s4.ext E, s5⟩
theorem Gst.exa (S : Gst Z h x cs) : Exa Z h x ST := by obtain ⟨t, cd, vs, s1, -⟩ := S; exact s1
theorem Gst.ofStr (S : Str Z h x cs) : Gst Z h x cs := by obtain ⟨t, s1, s2, s3, s4, s5⟩ := S; exact ⟨t, 0, _, s1, s2, s3, s4, Or.inl ⟨rfl, rfl, s5⟩⟩
theorem Spell.len {cd : Int32} {vs : List Value} (q : Spell cs cd vs) (hl : cs.length ≤ 4000) : (Int32.ofNat vs.length) >>> (cd &&& 31) = Int32.ofNat cs.length := by
  refine Int32.toInt_inj.mp ?_
  rcases q with ⟨rfl, rfl, -⟩ | ⟨rfl, rfl, -⟩
  · rw [c_ishr _ 0 0 (by decide), ofNat_toInt (by simp; omega), ofNat_toInt (by omega)]; simp
  · rw [c_ishr _ 1 1 (by decide), wide_len, ofNat_toInt (by omega), ofNat_toInt (by omega)]; omega
end Utfs
end GK
end Jvm.Pilot.@@N@@
namespace Jvm.Pilot.@@N@@
namespace GK
open Jvm Jvm.ClassFile Sem Op Lib Jvm.Free Jvm.Stand Jvm.LawKit Jvm.RoadKit Bundle
section Utgs
abbrev lowb (cs : List Int32) : List Value := (cs.map fun c => c.toInt8.toInt32).map Value.int
abbrev zer (n : Nat) : List Value := List.replicate n (Value.int 0)
theorem add_natg {p q : Int32} {i j : Nat} (hp : p.toInt = (i : Int)) (hq : q.toInt = (j : Int)) (hj : i + j ≤ 8000) : (p + q).toInt = ((i + j : Nat) : Int) := by
  have h1 := c_iadd p q
  have h2 := rng32 (p + q)
  omega
theorem incg {x : Int32} {k : Nat} (h : x.toInt = (k : Int)) (hk : k ≤ 7000) : (x + (1 : Int32)).toInt = ((k + 1 : Nat) : Int) := add_natg (i := k) (j := 1) h rfl (by omega)
theorem shl1g {x : Int32} {k : Nat} (h : x.toInt = (k : Int)) (hk : k ≤ 4000) : (x <<< ((1 : Int32) &&& 31)).toInt = ((2 * k : Nat) : Int) := by
  have h1 := c_ishl x 1 1 (by decide)
  have h2 := rng32 (x <<< ((1 : Int32) &&& 31))
  omega
theorem shl1s {x : Int32} {k : Nat} (h : x.toInt = (k : Int)) (hk : k ≤ 3000) : ((x <<< ((1 : Int32) &&& 31)) + (1 : Int32)).toInt = ((2 * k + 1 : Nat) : Int) := incg (shl1g h (by omega)) (by omega)
theorem leng_yes {i : Int32} {k n : Nat} (hi : i.toInt = (k : Int)) (hk : k < n) (hl : n ≤ 4000) : i < Int32.ofNat n := by rw [toInt_lt, ofNat_toInt (by omega)]; omega
theorem leng_no {i : Int32} {k n : Nat} (hi : i.toInt = (k : Int)) (hk : n ≤ k) (hl : n ≤ 4000) : ¬ i < Int32.ofNat n := by rw [toInt_lt, ofNat_toInt (by omega)]; omega
theorem ofN_nn {n : Nat} (hl : n ≤ 4000) : ¬ Int32.ofNat n < 0 := by
  rw [toInt_lt, ofNat_toInt (by omega)]
  have e : (0 : Int32).toInt = 0 := rfl
  omega
theorem ofN_lim {n : Nat} (hl : n ≤ 4000) : Int32.ofNat n < (1073741823 : Int32) := by
  rw [toInt_lt, ofNat_toInt (by omega)]
  have e : (1073741823 : Int32).toInt = 1073741823 := rfl
  omega
theorem ofN_ne {i : Int32} {k n : Nat} (hi : i.toInt = (k : Int)) (hk : k < n) (hl : n ≤ 4000) : ¬ i = Int32.ofNat n := fun q => by
  rw [q, ofNat_toInt (by omega)] at hi; omega
theorem ofN_nz {n : Nat} (h0 : 0 < n) (hl : n ≤ 4000) : ¬ Int32.ofNat n = 0 := fun q => by
  have e := congrArg Int32.toInt q
  rw [ofNat_toInt (by omega)] at e
  have e0 : (0 : Int32).toInt = 0 := rfl
  omega
theorem take_g {cs : List Int32} {k : Nat} {y : Int32} (hk : cs[k]? = some y) : cs.take (k + 1) = cs.take k ++ [y] ∧ k < cs.length := by
  obtain ⟨hl, e⟩ := List.getElem?_eq_some_iff.mp hk
  exact ⟨by rw [List.take_add_one, hk]; rfl, hl⟩
theorem low_set {cs : List Int32} {k : Nat} {y : Int32} (hk : cs[k]? = some y) : (lowb (cs.take k) ++ zer (cs.length - k)).set k (.int y.toInt8.toInt32) = lowb (cs.take (k + 1)) ++ zer (cs.length - (k + 1)) := by
  obtain ⟨e1, hl⟩ := take_g hk
  obtain ⟨m, hm⟩ : ∃ m, cs.length - k = m + 1 := ⟨cs.length - k - 1, by omega⟩
  rw [e1, show cs.length - (k + 1) = m by omega, hm, List.set_append_right _ _ (by simp; omega)]
  simp only [List.length_map, List.length_take]
  rw [show k - min k cs.length = 0 by omega]
  simp [List.replicate_succ]
theorem wide_app (a b : List Int32) : wide (a ++ b) = wide a ++ wide b := by
  induction a with
  | nil => rfl
  | cons c a ih => simp only [List.cons_append, wide, ih]
theorem wide_set {cs : List Int32} {k : Nat} {y : Int32} (hk : cs[k]? = some y) : ((wide (cs.take k) ++ zer (2 * (cs.length - k))).set (2 * k) (.int (lo16 y))).set (2 * k + 1) (.int (hi16 y)) = wide (cs.take (k + 1)) ++ zer (2 * (cs.length - (k + 1))) := by
  obtain ⟨e1, hl⟩ := take_g hk
  obtain ⟨m, hm⟩ : ∃ m, cs.length - k = m + 1 := ⟨cs.length - k - 1, by omega⟩
  have hw : (wide (cs.take k)).length = 2 * k := by rw [wide_len, List.length_take]; omega
  rw [e1, wide_app, show cs.length - (k + 1) = m by omega, hm, show 2 * (m + 1) = (2 * m + 1) + 1 by omega, List.set_append_right _ _ (by omega), List.set_append_right _ _ (by omega), hw]
  rw [show 2 * k - 2 * k = 0 by omega, show 2 * k + 1 - 2 * k = 1 by omega]
  simp [List.replicate_succ, wide]
theorem wide_at : ∀ {cs : List Int32} {k : Nat} {y : Int32}, cs[k]? = some y → (wide cs)[2 * k]? = some (.int (lo16 y)) ∧ (wide cs)[2 * k + 1]? = some (.int (hi16 y))
  | c :: cs, 0, y, h => by simp at h; subst h; exact ⟨rfl, rfl⟩
  | c :: cs, k + 1, y, h => by
    have := wide_at (cs := cs) (k := k) (y := y) (by simpa using h)
    exact ⟨by rw [show 2 * (k + 1) = 2 * k + 1 + 1 by omega]; exact this.1, by rw [show 2 * (k + 1) + 1 = 2 * k + 1 + 1 + 1 by omega]; exact this.2⟩
  | [], k, y, h => by simp at h
theorem low_done {cs : List Int32} : lowb (cs.take cs.length) ++ zer (cs.length - cs.length) = lowb cs := by simp
theorem wide_done {cs : List Int32} : wide (cs.take cs.length) ++ zer (2 * (cs.length - cs.length)) = wide cs := by simp
theorem cfl0 (n : Int32) : nar .byte ((ushr (n - n) (31 : Int32)).toInt8.toInt32) = 0 := by
  rw [show n - n = 0 from Int32.sub_self n]; decide
theorem cfl1 {n : Nat} (h0 : 0 < n) (hl : n ≤ 4000) : nar .byte ((ushr (Int32.ofNat n - Int32.ofNat (2 * n)) (31 : Int32)).toInt8.toInt32) = 1 := by
  have e1 := c_isub (Int32.ofNat n) (Int32.ofNat (2 * n))
  rw [ofNat_toInt (by omega), ofNat_toInt (by omega)] at e1
  have e2 := rng32 (Int32.ofNat n - Int32.ofNat (2 * n))
  have e3 : (ushr (Int32.ofNat n - Int32.ofNat (2 * n)) (31 : Int32)).toInt = ((Int32.ofNat n - Int32.ofNat (2 * n)).toInt % 4294967296) / (2 ^ 31 : Nat) := c_iushr _ 31 31 (by decide) (by decide)
  have e4 : ushr (Int32.ofNat n - Int32.ofNat (2 * n)) (31 : Int32) = 1 := Int32.toInt_inj.mp (by rw [e3]; show _ = (1 : Int); omega)
  rw [e4]; decide
end Utgs
end GK
end Jvm.Pilot.@@N@@
namespace Jvm.Pilot.@@N@@
open Jvm Jvm.ClassFile Sem Op Lib Jvm.Free Jvm.Stand Jvm.LawKit Jvm.RoadKit Bundle Jvm.Pilot.@@N@@.Jvm.D Jvm.Pilot.@@N@@.GK
abbrev HW (a0 : Array Value) (Z : State) : Prop := ∀ d ∈ tables_1, d.before a0 Z = true
theorem w0 {a0 : Array Value} {Z : State} (hw : HW a0 Z) : (Jvm.Cond.stringLink "com/example/avain/avain/model/TypeFromKeywordPinLaw" (25 : Nat) "Function").before a0 Z = true := hw _ (List.mem_of_getElem? (i := 0) rfl)
theorem w1 {a0 : Array Value} {Z : State} (hw : HW a0 Z) : (Jvm.Cond.initialized "java/lang/String").before a0 Z = true := hw _ (List.mem_of_getElem? (i := 1) rfl)
theorem w2 {a0 : Array Value} {Z : State} (hw : HW a0 Z) : (Jvm.Cond.instantiable "java/lang/String" (4 : Nat)).before a0 Z = true := hw _ (List.mem_of_getElem? (i := 2) rfl)
theorem w3 {a0 : Array Value} {Z : State} (hw : HW a0 Z) : (Jvm.Cond.arrayClass Jvm.ClassFile.FieldType.byte).before a0 Z = true := hw _ (List.mem_of_getElem? (i := 3) rfl)
theorem w4 {a0 : Array Value} {Z : State} (hw : HW a0 Z) : (Jvm.Cond.laysFinal "java/lang/String" "java/lang/String" "value" "[B").before a0 Z = true := hw _ (List.mem_of_getElem? (i := 4) rfl)
theorem w5 {a0 : Array Value} {Z : State} (hw : HW a0 Z) : (Jvm.Cond.laysFinal "java/lang/String" "java/lang/String" "coder" "B").before a0 Z = true := hw _ (List.mem_of_getElem? (i := 5) rfl)
theorem w8 {a0 : Array Value} {Z : State} (hw : HW a0 Z) : (Jvm.Cond.fieldLink "com/example/avain/avain/model/TypeFromKeywordPinLaw" (27 : Nat) "com/example/avain/avain/model/Type" "FUNCTION" "Lcom/example/avain/avain/model/Type;").before a0 Z = true := hw _ (List.mem_of_getElem? (i := 8) rfl)
theorem w9 {a0 : Array Value} {Z : State} (hw : HW a0 Z) : (Jvm.Cond.initialized "com/example/avain/avain/model/Type").before a0 Z = true := hw _ (List.mem_of_getElem? (i := 9) rfl)
theorem w10 {a0 : Array Value} {Z : State} (hw : HW a0 Z) : (Jvm.Cond.laysStatic "com/example/avain/avain/model/Type" "FUNCTION" "Lcom/example/avain/avain/model/Type;").before a0 Z = true := hw _ (List.mem_of_getElem? (i := 10) rfl)
theorem w11 {a0 : Array Value} {Z : State} (hw : HW a0 Z) : (Jvm.Cond.methodLink "com/example/avain/avain/model/TypeFromKeywordPinLaw" (30 : Nat) ({ cls := "java/lang/String", name := "length", desc := "()I" } : Jvm.MethodName)).before a0 Z = true := hw _ (List.mem_of_getElem? (i := 11) rfl)
theorem w12 {a0 : Array Value} {Z : State} (hw : HW a0 Z) : (Jvm.Cond.declares ({ cls := "java/lang/String", name := "length", desc := "()I" } : Jvm.MethodName)).before a0 Z = true := hw _ (List.mem_of_getElem? (i := 12) rfl)
theorem w13 {a0 : Array Value} {Z : State} (hw : HW a0 Z) : (Jvm.Cond.instanceMethod ({ cls := "java/lang/String", name := "length", desc := "()I" } : Jvm.MethodName)).before a0 Z = true := hw _ (List.mem_of_getElem? (i := 13) rfl)
theorem w14 {a0 : Array Value} {Z : State} (hw : HW a0 Z) : (Jvm.Cond.selects "java/lang/String" ({ cls := "java/lang/String", name := "length", desc := "()I" } : Jvm.MethodName) ({ cls := "java/lang/String", name := "length", desc := "()I" } : Jvm.MethodName)).before a0 Z = true := hw _ (List.mem_of_getElem? (i := 14) rfl)
theorem w16 {a0 : Array Value} {Z : State} (hw : HW a0 Z) : (Jvm.Cond.fieldLink "java/lang/String" (9 : Nat) "java/lang/String" "value" "[B").before a0 Z = true := hw _ (List.mem_of_getElem? (i := 16) rfl)
theorem w17 {a0 : Array Value} {Z : State} (hw : HW a0 Z) : (Jvm.Cond.methodLink "java/lang/String" (335 : Nat) ({ cls := "java/lang/String", name := "coder", desc := "()B" } : Jvm.MethodName)).before a0 Z = true := hw _ (List.mem_of_getElem? (i := 17) rfl)
theorem w18 {a0 : Array Value} {Z : State} (hw : HW a0 Z) : (Jvm.Cond.declares ({ cls := "java/lang/String", name := "coder", desc := "()B" } : Jvm.MethodName)).before a0 Z = true := hw _ (List.mem_of_getElem? (i := 18) rfl)
theorem w19 {a0 : Array Value} {Z : State} (hw : HW a0 Z) : (Jvm.Cond.instanceMethod ({ cls := "java/lang/String", name := "coder", desc := "()B" } : Jvm.MethodName)).before a0 Z = true := hw _ (List.mem_of_getElem? (i := 19) rfl)
theorem w20 {a0 : Array Value} {Z : State} (hw : HW a0 Z) : (Jvm.Cond.selects "java/lang/String" ({ cls := "java/lang/String", name := "coder", desc := "()B" } : Jvm.MethodName) ({ cls := "java/lang/String", name := "coder", desc := "()B" } : Jvm.MethodName)).before a0 Z = true := hw _ (List.mem_of_getElem? (i := 20) rfl)
theorem w21 {a0 : Array Value} {Z : State} (hw : HW a0 Z) : (Jvm.Cond.code ({ cls := "java/lang/String", name := "coder", desc := "()B" } : Jvm.MethodName) jdk_42_method_152_code (1 : Nat) (Option.some Jvm.ClassFile.FieldType.byte)).before a0 Z = true := hw _ (List.mem_of_getElem? (i := 21) rfl)
theorem w22 {a0 : Array Value} {Z : State} (hw : HW a0 Z) : (Jvm.Cond.fieldLink "java/lang/String" (38 : Nat) "java/lang/String" "COMPACT_STRINGS" "Z").before a0 Z = true := hw _ (List.mem_of_getElem? (i := 22) rfl)
theorem w23 {a0 : Array Value} {Z : State} (hw : HW a0 Z) : (Jvm.Cond.fieldLink "java/lang/String" (15 : Nat) "java/lang/String" "coder" "B").before a0 Z = true := hw _ (List.mem_of_getElem? (i := 23) rfl)
theorem w24 {a0 : Array Value} {Z : State} (hw : HW a0 Z) : (Jvm.Cond.constant "com/example/avain/avain/model/TypeFromKeywordPinLaw" (36 : Nat) (2147483647 : Int32)).before a0 Z = true := hw _ (List.mem_of_getElem? (i := 24) rfl)
theorem w25 {a0 : Array Value} {Z : State} (hw : HW a0 Z) : (Jvm.Cond.constant "com/example/avain/avain/model/TypeFromKeywordPinLaw" (37 : Nat) (65535 : Int32)).before a0 Z = true := hw _ (List.mem_of_getElem? (i := 25) rfl)
theorem w26 {a0 : Array Value} {Z : State} (hw : HW a0 Z) : (Jvm.Cond.methodLink "com/example/avain/avain/model/TypeFromKeywordPinLaw" (38 : Nat) ({ cls := "java/lang/String", name := "charAt", desc := "(I)C" } : Jvm.MethodName)).before a0 Z = true := hw _ (List.mem_of_getElem? (i := 26) rfl)
theorem w27 {a0 : Array Value} {Z : State} (hw : HW a0 Z) : (Jvm.Cond.declares ({ cls := "java/lang/String", name := "charAt", desc := "(I)C" } : Jvm.MethodName)).before a0 Z = true := hw _ (List.mem_of_getElem? (i := 27) rfl)
theorem w28 {a0 : Array Value} {Z : State} (hw : HW a0 Z) : (Jvm.Cond.instanceMethod ({ cls := "java/lang/String", name := "charAt", desc := "(I)C" } : Jvm.MethodName)).before a0 Z = true := hw _ (List.mem_of_getElem? (i := 28) rfl)
theorem w29 {a0 : Array Value} {Z : State} (hw : HW a0 Z) : (Jvm.Cond.selects "java/lang/String" ({ cls := "java/lang/String", name := "charAt", desc := "(I)C" } : Jvm.MethodName) ({ cls := "java/lang/String", name := "charAt", desc := "(I)C" } : Jvm.MethodName)).before a0 Z = true := hw _ (List.mem_of_getElem? (i := 29) rfl)
theorem w38 {a0 : Array Value} {Z : State} (hw : HW a0 Z) : (Jvm.Cond.initialized "java/lang/StringLatin1").before a0 Z = true := hw _ (List.mem_of_getElem? (i := 38) rfl)
theorem w48 {a0 : Array Value} {Z : State} (hw : HW a0 Z) : (Jvm.Cond.methodLink "com/example/avain/avain/model/TypeFromKeywordPinLaw" (42 : Nat) ({ cls := "com/example/avain/avain/model/TypeFromKeywordPinLaw", name := "build", desc := "(Ljava/lang/String;IIC)Ljava/lang/String;" } : Jvm.MethodName)).before a0 Z = true := hw _ (List.mem_of_getElem? (i := 48) rfl)
theorem w49 {a0 : Array Value} {Z : State} (hw : HW a0 Z) : (Jvm.Cond.static ({ cls := "com/example/avain/avain/model/TypeFromKeywordPinLaw", name := "build", desc := "(Ljava/lang/String;IIC)Ljava/lang/String;" } : Jvm.MethodName)).before a0 Z = true := hw _ (List.mem_of_getElem? (i := 49) rfl)
theorem w50 {a0 : Array Value} {Z : State} (hw : HW a0 Z) : (Jvm.Cond.initialized "com/example/avain/avain/model/TypeFromKeywordPinLaw").before a0 Z = true := hw _ (List.mem_of_getElem? (i := 50) rfl)
theorem w51 {a0 : Array Value} {Z : State} (hw : HW a0 Z) : (Jvm.Cond.code ({ cls := "com/example/avain/avain/model/TypeFromKeywordPinLaw", name := "build", desc := "(Ljava/lang/String;IIC)Ljava/lang/String;" } : Jvm.MethodName) method_3_code (8 : Nat) (Option.some (Jvm.ClassFile.FieldType.object "java/lang/String"))).before a0 Z = true := hw _ (List.mem_of_getElem? (i := 51) rfl)
theorem w52 {a0 : Array Value} {Z : State} (hw : HW a0 Z) : (Jvm.Cond.methodLink "com/example/avain/avain/model/TypeFromKeywordPinLaw" (58 : Nat) ({ cls := "java/lang/Math", name := "min", desc := "(II)I" } : Jvm.MethodName)).before a0 Z = true := hw _ (List.mem_of_getElem? (i := 52) rfl)
theorem w53 {a0 : Array Value} {Z : State} (hw : HW a0 Z) : (Jvm.Cond.static ({ cls := "java/lang/Math", name := "min", desc := "(II)I" } : Jvm.MethodName)).before a0 Z = true := hw _ (List.mem_of_getElem? (i := 53) rfl)
theorem w54 {a0 : Array Value} {Z : State} (hw : HW a0 Z) : (Jvm.Cond.initialized "java/lang/Math").before a0 Z = true := hw _ (List.mem_of_getElem? (i := 54) rfl)
theorem w55 {a0 : Array Value} {Z : State} (hw : HW a0 Z) : (Jvm.Cond.code ({ cls := "java/lang/Math", name := "min", desc := "(II)I" } : Jvm.MethodName) jdk_29_method_69_code (2 : Nat) (Option.some Jvm.ClassFile.FieldType.int)).before a0 Z = true := hw _ (List.mem_of_getElem? (i := 55) rfl)
theorem w56 {a0 : Array Value} {Z : State} (hw : HW a0 Z) : (Jvm.Cond.arrayClass Jvm.ClassFile.FieldType.char).before a0 Z = true := hw _ (List.mem_of_getElem? (i := 56) rfl)
theorem w57 {a0 : Array Value} {Z : State} (hw : HW a0 Z) : (Jvm.Cond.methodLink "com/example/avain/avain/model/TypeFromKeywordPinLaw" (64 : Nat) ({ cls := "com/example/avain/avain/model/TypeFromKeywordPinLaw", name := "copy", desc := "([CLjava/lang/String;II)V" } : Jvm.MethodName)).before a0 Z = true := hw _ (List.mem_of_getElem? (i := 57) rfl)
theorem w58 {a0 : Array Value} {Z : State} (hw : HW a0 Z) : (Jvm.Cond.static ({ cls := "com/example/avain/avain/model/TypeFromKeywordPinLaw", name := "copy", desc := "([CLjava/lang/String;II)V" } : Jvm.MethodName)).before a0 Z = true := hw _ (List.mem_of_getElem? (i := 58) rfl)
theorem w59 {a0 : Array Value} {Z : State} (hw : HW a0 Z) : (Jvm.Cond.code ({ cls := "com/example/avain/avain/model/TypeFromKeywordPinLaw", name := "copy", desc := "([CLjava/lang/String;II)V" } : Jvm.MethodName) method_4_code (4 : Nat) (Option.none : Option Jvm.ClassFile.FieldType)).before a0 Z = true := hw _ (List.mem_of_getElem? (i := 59) rfl)
theorem w60 {a0 : Array Value} {Z : State} (hw : HW a0 Z) : (Jvm.Cond.classLink "com/example/avain/avain/model/TypeFromKeywordPinLaw" (31 : Nat) "java/lang/String").before a0 Z = true := hw _ (List.mem_of_getElem? (i := 60) rfl)
theorem w61 {a0 : Array Value} {Z : State} (hw : HW a0 Z) : (Jvm.Cond.methodLink "com/example/avain/avain/model/TypeFromKeywordPinLaw" (68 : Nat) ({ cls := "java/lang/String", name := "<init>", desc := "([C)V" } : Jvm.MethodName)).before a0 Z = true := hw _ (List.mem_of_getElem? (i := 61) rfl)
theorem w62 {a0 : Array Value} {Z : State} (hw : HW a0 Z) : (Jvm.Cond.instanceMethod ({ cls := "java/lang/String", name := "<init>", desc := "([C)V" } : Jvm.MethodName)).before a0 Z = true := hw _ (List.mem_of_getElem? (i := 62) rfl)
theorem w63 {a0 : Array Value} {Z : State} (hw : HW a0 Z) : (Jvm.Cond.code ({ cls := "java/lang/String", name := "<init>", desc := "([C)V" } : Jvm.MethodName) jdk_42_method_3_code (2 : Nat) (Option.none : Option Jvm.ClassFile.FieldType)).before a0 Z = true := hw _ (List.mem_of_getElem? (i := 63) rfl)
theorem w64 {a0 : Array Value} {Z : State} (hw : HW a0 Z) : (Jvm.Cond.methodLink "java/lang/String" (27 : Nat) ({ cls := "java/lang/String", name := "<init>", desc := "([CIILjava/lang/Void;)V" } : Jvm.MethodName)).before a0 Z = true := hw _ (List.mem_of_getElem? (i := 64) rfl)
theorem w65 {a0 : Array Value} {Z : State} (hw : HW a0 Z) : (Jvm.Cond.instanceMethod ({ cls := "java/lang/String", name := "<init>", desc := "([CIILjava/lang/Void;)V" } : Jvm.MethodName)).before a0 Z = true := hw _ (List.mem_of_getElem? (i := 65) rfl)
theorem w67 {a0 : Array Value} {Z : State} (hw : HW a0 Z) : (Jvm.Cond.code ({ cls := "java/lang/String", name := "<init>", desc := "([CIILjava/lang/Void;)V" } : Jvm.MethodName) jdk_42_method_149_code (6 : Nat) (Option.none : Option Jvm.ClassFile.FieldType)).before a0 Z = true := hw _ (List.mem_of_getElem? (i := 67) rfl)
theorem w68 {a0 : Array Value} {Z : State} (hw : HW a0 Z) : (Jvm.Cond.methodLink "java/lang/String" (1 : Nat) ({ cls := "java/lang/Object", name := "<init>", desc := "()V" } : Jvm.MethodName)).before a0 Z = true := hw _ (List.mem_of_getElem? (i := 68) rfl)
theorem w69 {a0 : Array Value} {Z : State} (hw : HW a0 Z) : (Jvm.Cond.instanceMethod ({ cls := "java/lang/Object", name := "<init>", desc := "()V" } : Jvm.MethodName)).before a0 Z = true := hw _ (List.mem_of_getElem? (i := 69) rfl)
theorem w70 {a0 : Array Value} {Z : State} (hw : HW a0 Z) : (Jvm.Cond.code ({ cls := "java/lang/Object", name := "<init>", desc := "()V" } : Jvm.MethodName) object_method_1_code (1 : Nat) (Option.none : Option Jvm.ClassFile.FieldType)).before a0 Z = true := hw _ (List.mem_of_getElem? (i := 70) rfl)
theorem w71 {a0 : Array Value} {Z : State} (hw : HW a0 Z) : (Jvm.Cond.methodLink "java/lang/String" (177 : Nat) ({ cls := "java/lang/StringUTF16", name := "compress", desc := "([CII)[B" } : Jvm.MethodName)).before a0 Z = true := hw _ (List.mem_of_getElem? (i := 71) rfl)
theorem w72 {a0 : Array Value} {Z : State} (hw : HW a0 Z) : (Jvm.Cond.static ({ cls := "java/lang/StringUTF16", name := "compress", desc := "([CII)[B" } : Jvm.MethodName)).before a0 Z = true := hw _ (List.mem_of_getElem? (i := 72) rfl)
theorem w73 {a0 : Array Value} {Z : State} (hw : HW a0 Z) : (Jvm.Cond.initialized "java/lang/StringUTF16").before a0 Z = true := hw _ (List.mem_of_getElem? (i := 73) rfl)
theorem w74 {a0 : Array Value} {Z : State} (hw : HW a0 Z) : (Jvm.Cond.code ({ cls := "java/lang/StringUTF16", name := "compress", desc := "([CII)[B" } : Jvm.MethodName) jdk_52_method_16_code (6 : Nat) (Option.some (Jvm.ClassFile.FieldType.array Jvm.ClassFile.FieldType.byte))).before a0 Z = true := hw _ (List.mem_of_getElem? (i := 74) rfl)
theorem w75 {a0 : Array Value} {Z : State} (hw : HW a0 Z) : (Jvm.Cond.methodLink "java/lang/StringUTF16" (115 : Nat) ({ cls := "java/lang/StringUTF16", name := "compress", desc := "([CI[BII)I" } : Jvm.MethodName)).before a0 Z = true := hw _ (List.mem_of_getElem? (i := 75) rfl)
theorem w76 {a0 : Array Value} {Z : State} (hw : HW a0 Z) : (Jvm.Cond.static ({ cls := "java/lang/StringUTF16", name := "compress", desc := "([CI[BII)I" } : Jvm.MethodName)).before a0 Z = true := hw _ (List.mem_of_getElem? (i := 76) rfl)
theorem w77 {a0 : Array Value} {Z : State} (hw : HW a0 Z) : (Jvm.Cond.code ({ cls := "java/lang/StringUTF16", name := "compress", desc := "([CI[BII)I" } : Jvm.MethodName) jdk_52_method_21_code (7 : Nat) (Option.some Jvm.ClassFile.FieldType.int)).before a0 Z = true := hw _ (List.mem_of_getElem? (i := 77) rfl)
theorem w78 {a0 : Array Value} {Z : State} (hw : HW a0 Z) : (Jvm.Cond.methodLink "java/lang/String" (47 : Nat) ({ cls := "java/lang/StringUTF16", name := "coderFromArrayLen", desc := "([BI)B" } : Jvm.MethodName)).before a0 Z = true := hw _ (List.mem_of_getElem? (i := 78) rfl)
theorem w79 {a0 : Array Value} {Z : State} (hw : HW a0 Z) : (Jvm.Cond.static ({ cls := "java/lang/StringUTF16", name := "coderFromArrayLen", desc := "([BI)B" } : Jvm.MethodName)).before a0 Z = true := hw _ (List.mem_of_getElem? (i := 79) rfl)
theorem w80 {a0 : Array Value} {Z : State} (hw : HW a0 Z) : (Jvm.Cond.code ({ cls := "java/lang/StringUTF16", name := "coderFromArrayLen", desc := "([BI)B" } : Jvm.MethodName) jdk_52_method_15_code (2 : Nat) (Option.some Jvm.ClassFile.FieldType.byte)).before a0 Z = true := hw _ (List.mem_of_getElem? (i := 80) rfl)
theorem w81 {a0 : Array Value} {Z : State} (hw : HW a0 Z) : (Jvm.Cond.methodLink "com/example/avain/avain/model/TypeFromKeywordPinLaw" (54 : Nat) ({ cls := "com/example/avain/avain/model/Type", name := "fromKeyword", desc := "(Ljava/lang/String;)Lcom/example/avain/avain/model/Type;" } : Jvm.MethodName)).before a0 Z = true := hw _ (List.mem_of_getElem? (i := 81) rfl)
theorem w82 {a0 : Array Value} {Z : State} (hw : HW a0 Z) : (Jvm.Cond.static ({ cls := "com/example/avain/avain/model/Type", name := "fromKeyword", desc := "(Ljava/lang/String;)Lcom/example/avain/avain/model/Type;" } : Jvm.MethodName)).before a0 Z = true := hw _ (List.mem_of_getElem? (i := 82) rfl)
theorem w83 {a0 : Array Value} {Z : State} (hw : HW a0 Z) : (Jvm.Cond.code ({ cls := "com/example/avain/avain/model/Type", name := "fromKeyword", desc := "(Ljava/lang/String;)Lcom/example/avain/avain/model/Type;" } : Jvm.MethodName) prog_59_method_5_code (5 : Nat) (Option.some (Jvm.ClassFile.FieldType.object "com/example/avain/avain/model/Type"))).before a0 Z = true := hw _ (List.mem_of_getElem? (i := 83) rfl)
theorem w84 {a0 : Array Value} {Z : State} (hw : HW a0 Z) : (Jvm.Cond.methodLink "com/example/avain/avain/model/Type" (39 : Nat) ({ cls := "com/example/avain/avain/model/Type", name := "values", desc := "()[Lcom/example/avain/avain/model/Type;" } : Jvm.MethodName)).before a0 Z = true := hw _ (List.mem_of_getElem? (i := 84) rfl)
theorem w85 {a0 : Array Value} {Z : State} (hw : HW a0 Z) : (Jvm.Cond.static ({ cls := "com/example/avain/avain/model/Type", name := "values", desc := "()[Lcom/example/avain/avain/model/Type;" } : Jvm.MethodName)).before a0 Z = true := hw _ (List.mem_of_getElem? (i := 85) rfl)
theorem w86 {a0 : Array Value} {Z : State} (hw : HW a0 Z) : (Jvm.Cond.code ({ cls := "com/example/avain/avain/model/Type", name := "values", desc := "()[Lcom/example/avain/avain/model/Type;" } : Jvm.MethodName) prog_59_method_1_code (0 : Nat) (Option.some (Jvm.ClassFile.FieldType.array (Jvm.ClassFile.FieldType.object "com/example/avain/avain/model/Type")))).before a0 Z = true := hw _ (List.mem_of_getElem? (i := 86) rfl)
theorem w87 {a0 : Array Value} {Z : State} (hw : HW a0 Z) : (Jvm.Cond.fieldLink "com/example/avain/avain/model/Type" (16 : Nat) "com/example/avain/avain/model/Type" "$VALUES" "[Lcom/example/avain/avain/model/Type;").before a0 Z = true := hw _ (List.mem_of_getElem? (i := 87) rfl)
theorem w88 {a0 : Array Value} {Z : State} (hw : HW a0 Z) : (Jvm.Cond.laysStatic "com/example/avain/avain/model/Type" "$VALUES" "[Lcom/example/avain/avain/model/Type;").before a0 Z = true := hw _ (List.mem_of_getElem? (i := 88) rfl)
theorem w89 {a0 : Array Value} {Z : State} (hw : HW a0 Z) : (Jvm.Cond.methodLink "com/example/avain/avain/model/Type" (20 : Nat) ({ cls := "[Lcom/example/avain/avain/model/Type;", name := "clone", desc := "()Ljava/lang/Object;" } : Jvm.MethodName)).before a0 Z = true := hw _ (List.mem_of_getElem? (i := 89) rfl)
theorem w90 {a0 : Array Value} {Z : State} (hw : HW a0 Z) : (Jvm.Cond.sameMethod "[Lcom/example/avain/avain/model/Type;" "java/lang/Object" "clone" "()Ljava/lang/Object;").before a0 Z = true := hw _ (List.mem_of_getElem? (i := 90) rfl)
theorem w92 {a0 : Array Value} {Z : State} (hw : HW a0 Z) : (Jvm.Cond.instanceMethod ({ cls := "java/lang/Object", name := "clone", desc := "()Ljava/lang/Object;" } : Jvm.MethodName)).before a0 Z = true := hw _ (List.mem_of_getElem? (i := 92) rfl)
theorem w93 {a0 : Array Value} {Z : State} (hw : HW a0 Z) : (Jvm.Cond.selects "[Lcom/example/avain/avain/model/Type;" ({ cls := "[Lcom/example/avain/avain/model/Type;", name := "clone", desc := "()Ljava/lang/Object;" } : Jvm.MethodName) ({ cls := "java/lang/Object", name := "clone", desc := "()Ljava/lang/Object;" } : Jvm.MethodName)).before a0 Z = true := hw _ (List.mem_of_getElem? (i := 93) rfl)
theorem w94 {a0 : Array Value} {Z : State} (hw : HW a0 Z) : (Jvm.Cond.native ({ cls := "java/lang/Object", name := "clone", desc := "()Ljava/lang/Object;" } : Jvm.MethodName)).before a0 Z = true := hw _ (List.mem_of_getElem? (i := 94) rfl)
theorem w95 {a0 : Array Value} {Z : State} (hw : HW a0 Z) : (Jvm.Cond.castable "[Lcom/example/avain/avain/model/Type;" "java/lang/Cloneable").before a0 Z = true := hw _ (List.mem_of_getElem? (i := 95) rfl)
theorem w96 {a0 : Array Value} {Z : State} (hw : HW a0 Z) : (Jvm.Cond.laysStatic "com/example/avain/avain/model/Type" "AGENT" "Lcom/example/avain/avain/model/Type;").before a0 Z = true := hw _ (List.mem_of_getElem? (i := 96) rfl)
theorem w97 {a0 : Array Value} {Z : State} (hw : HW a0 Z) : (Jvm.Cond.laysStatic "com/example/avain/avain/model/Type" "NUMBER" "Lcom/example/avain/avain/model/Type;").before a0 Z = true := hw _ (List.mem_of_getElem? (i := 97) rfl)
theorem w98 {a0 : Array Value} {Z : State} (hw : HW a0 Z) : (Jvm.Cond.laysStatic "com/example/avain/avain/model/Type" "SYMMETRIC_KEY" "Lcom/example/avain/avain/model/Type;").before a0 Z = true := hw _ (List.mem_of_getElem? (i := 98) rfl)
theorem w100 {a0 : Array Value} {Z : State} (hw : HW a0 Z) : (Jvm.Cond.classLink "com/example/avain/avain/model/Type" (21 : Nat) "[Lcom/example/avain/avain/model/Type;").before a0 Z = true := hw _ (List.mem_of_getElem? (i := 100) rfl)
theorem w102 {a0 : Array Value} {Z : State} (hw : HW a0 Z) : (Jvm.Cond.fieldLink "com/example/avain/avain/model/Type" (35 : Nat) "com/example/avain/avain/model/Type" "keyword" "Ljava/lang/String;").before a0 Z = true := hw _ (List.mem_of_getElem? (i := 102) rfl)
theorem w104 {a0 : Array Value} {Z : State} (hw : HW a0 Z) : (Jvm.Cond.methodLink "com/example/avain/avain/model/Type" (43 : Nat) ({ cls := "java/lang/String", name := "equals", desc := "(Ljava/lang/Object;)Z" } : Jvm.MethodName)).before a0 Z = true := hw _ (List.mem_of_getElem? (i := 104) rfl)
theorem w105 {a0 : Array Value} {Z : State} (hw : HW a0 Z) : (Jvm.Cond.declares ({ cls := "java/lang/String", name := "equals", desc := "(Ljava/lang/Object;)Z" } : Jvm.MethodName)).before a0 Z = true := hw _ (List.mem_of_getElem? (i := 105) rfl)
theorem w106 {a0 : Array Value} {Z : State} (hw : HW a0 Z) : (Jvm.Cond.instanceMethod ({ cls := "java/lang/String", name := "equals", desc := "(Ljava/lang/Object;)Z" } : Jvm.MethodName)).before a0 Z = true := hw _ (List.mem_of_getElem? (i := 106) rfl)
theorem w107 {a0 : Array Value} {Z : State} (hw : HW a0 Z) : (Jvm.Cond.selects "java/lang/String" ({ cls := "java/lang/String", name := "equals", desc := "(Ljava/lang/Object;)Z" } : Jvm.MethodName) ({ cls := "java/lang/String", name := "equals", desc := "(Ljava/lang/Object;)Z" } : Jvm.MethodName)).before a0 Z = true := hw _ (List.mem_of_getElem? (i := 107) rfl)
theorem w108 {a0 : Array Value} {Z : State} (hw : HW a0 Z) : (Jvm.Cond.code ({ cls := "java/lang/String", name := "equals", desc := "(Ljava/lang/Object;)Z" } : Jvm.MethodName) jdk_42_method_66_code (3 : Nat) (Option.some Jvm.ClassFile.FieldType.boolean)).before a0 Z = true := hw _ (List.mem_of_getElem? (i := 108) rfl)
theorem w109 {a0 : Array Value} {Z : State} (hw : HW a0 Z) : (Jvm.Cond.classLink "java/lang/String" (10 : Nat) "java/lang/String").before a0 Z = true := hw _ (List.mem_of_getElem? (i := 109) rfl)
theorem w113 {a0 : Array Value} {Z : State} (hw : HW a0 Z) : (Jvm.Cond.stringLink "com/example/avain/avain/model/TypeFromKeywordPinLaw" (20 : Nat) "SymmetricKey").before a0 Z = true := hw _ (List.mem_of_getElem? (i := 113) rfl)
theorem w114 {a0 : Array Value} {Z : State} (hw : HW a0 Z) : (Jvm.Cond.fieldLink "com/example/avain/avain/model/TypeFromKeywordPinLaw" (22 : Nat) "com/example/avain/avain/model/Type" "SYMMETRIC_KEY" "Lcom/example/avain/avain/model/Type;").before a0 Z = true := hw _ (List.mem_of_getElem? (i := 114) rfl)
theorem w115 {a0 : Array Value} {Z : State} (hw : HW a0 Z) : (Jvm.Cond.stringLink "com/example/avain/avain/model/TypeFromKeywordPinLaw" (52 : Nat) "").before a0 Z = true := hw _ (List.mem_of_getElem? (i := 115) rfl)
theorem w116 {a0 : Array Value} {Z : State} (hw : HW a0 Z) : (Jvm.Cond.stringLink "com/example/avain/avain/model/TypeFromKeywordPinLaw" (7 : Nat) "Agent").before a0 Z = true := hw _ (List.mem_of_getElem? (i := 116) rfl)
theorem w117 {a0 : Array Value} {Z : State} (hw : HW a0 Z) : (Jvm.Cond.fieldLink "com/example/avain/avain/model/TypeFromKeywordPinLaw" (9 : Nat) "com/example/avain/avain/model/Type" "AGENT" "Lcom/example/avain/avain/model/Type;").before a0 Z = true := hw _ (List.mem_of_getElem? (i := 117) rfl)
theorem w118 {a0 : Array Value} {Z : State} (hw : HW a0 Z) : (Jvm.Cond.methodLink "com/example/avain/avain/model/TypeFromKeywordPinLaw" (48 : Nat) ({ cls := "java/lang/String", name := "valueOf", desc := "(C)Ljava/lang/String;" } : Jvm.MethodName)).before a0 Z = true := hw _ (List.mem_of_getElem? (i := 118) rfl)
theorem w119 {a0 : Array Value} {Z : State} (hw : HW a0 Z) : (Jvm.Cond.static ({ cls := "java/lang/String", name := "valueOf", desc := "(C)Ljava/lang/String;" } : Jvm.MethodName)).before a0 Z = true := hw _ (List.mem_of_getElem? (i := 119) rfl)
theorem w120 {a0 : Array Value} {Z : State} (hw : HW a0 Z) : (Jvm.Cond.code ({ cls := "java/lang/String", name := "valueOf", desc := "(C)Ljava/lang/String;" } : Jvm.MethodName) jdk_42_method_139_code (1 : Nat) (Option.some (Jvm.ClassFile.FieldType.object "java/lang/String"))).before a0 Z = true := hw _ (List.mem_of_getElem? (i := 120) rfl)
theorem w121 {a0 : Array Value} {Z : State} (hw : HW a0 Z) : (Jvm.Cond.methodLink "java/lang/String" (1015 : Nat) ({ cls := "java/lang/StringLatin1", name := "canEncode", desc := "(C)Z" } : Jvm.MethodName)).before a0 Z = true := hw _ (List.mem_of_getElem? (i := 121) rfl)
theorem w122 {a0 : Array Value} {Z : State} (hw : HW a0 Z) : (Jvm.Cond.static ({ cls := "java/lang/StringLatin1", name := "canEncode", desc := "(C)Z" } : Jvm.MethodName)).before a0 Z = true := hw _ (List.mem_of_getElem? (i := 122) rfl)
theorem w123 {a0 : Array Value} {Z : State} (hw : HW a0 Z) : (Jvm.Cond.code ({ cls := "java/lang/StringLatin1", name := "canEncode", desc := "(C)Z" } : Jvm.MethodName) jdk_43_method_3_code (1 : Nat) (Option.some Jvm.ClassFile.FieldType.boolean)).before a0 Z = true := hw _ (List.mem_of_getElem? (i := 123) rfl)
theorem w124 {a0 : Array Value} {Z : State} (hw : HW a0 Z) : (Jvm.Cond.methodLink "java/lang/String" (1018 : Nat) ({ cls := "java/lang/StringLatin1", name := "toBytes", desc := "(C)[B" } : Jvm.MethodName)).before a0 Z = true := hw _ (List.mem_of_getElem? (i := 124) rfl)
theorem w125 {a0 : Array Value} {Z : State} (hw : HW a0 Z) : (Jvm.Cond.static ({ cls := "java/lang/StringLatin1", name := "toBytes", desc := "(C)[B" } : Jvm.MethodName)).before a0 Z = true := hw _ (List.mem_of_getElem? (i := 125) rfl)
theorem w126 {a0 : Array Value} {Z : State} (hw : HW a0 Z) : (Jvm.Cond.code ({ cls := "java/lang/StringLatin1", name := "toBytes", desc := "(C)[B" } : Jvm.MethodName) jdk_43_method_46_code (1 : Nat) (Option.some (Jvm.ClassFile.FieldType.array Jvm.ClassFile.FieldType.byte))).before a0 Z = true := hw _ (List.mem_of_getElem? (i := 126) rfl)
theorem w127 {a0 : Array Value} {Z : State} (hw : HW a0 Z) : (Jvm.Cond.methodLink "java/lang/String" (209 : Nat) ({ cls := "java/lang/String", name := "<init>", desc := "([BB)V" } : Jvm.MethodName)).before a0 Z = true := hw _ (List.mem_of_getElem? (i := 127) rfl)
theorem w128 {a0 : Array Value} {Z : State} (hw : HW a0 Z) : (Jvm.Cond.instanceMethod ({ cls := "java/lang/String", name := "<init>", desc := "([BB)V" } : Jvm.MethodName)).before a0 Z = true := hw _ (List.mem_of_getElem? (i := 128) rfl)
theorem w129 {a0 : Array Value} {Z : State} (hw : HW a0 Z) : (Jvm.Cond.code ({ cls := "java/lang/String", name := "<init>", desc := "([BB)V" } : Jvm.MethodName) jdk_42_method_151_code (3 : Nat) (Option.none : Option Jvm.ClassFile.FieldType)).before a0 Z = true := hw _ (List.mem_of_getElem? (i := 129) rfl)
theorem w130 {a0 : Array Value} {Z : State} (hw : HW a0 Z) : (Jvm.Cond.stringLink "com/example/avain/avain/model/TypeFromKeywordPinLaw" (15 : Nat) "Number").before a0 Z = true := hw _ (List.mem_of_getElem? (i := 130) rfl)
theorem w131 {a0 : Array Value} {Z : State} (hw : HW a0 Z) : (Jvm.Cond.fieldLink "com/example/avain/avain/model/TypeFromKeywordPinLaw" (17 : Nat) "com/example/avain/avain/model/Type" "NUMBER" "Lcom/example/avain/avain/model/Type;").before a0 Z = true := hw _ (List.mem_of_getElem? (i := 131) rfl)
theorem w132 {a0 : Array Value} {Z : State} (hw : HW a0 Z) : (Jvm.Cond.methodLink "java/lang/StringUTF16" (119 : Nat) ({ cls := "java/lang/StringUTF16", name := "toBytes", desc := "([CII)[B" } : Jvm.MethodName)).before a0 Z = true := hw _ (List.mem_of_getElem? (i := 132) rfl)
theorem w133 {a0 : Array Value} {Z : State} (hw : HW a0 Z) : (Jvm.Cond.static ({ cls := "java/lang/StringUTF16", name := "toBytes", desc := "([CII)[B" } : Jvm.MethodName)).before a0 Z = true := hw _ (List.mem_of_getElem? (i := 133) rfl)
theorem w134 {a0 : Array Value} {Z : State} (hw : HW a0 Z) : (Jvm.Cond.code ({ cls := "java/lang/StringUTF16", name := "toBytes", desc := "([CII)[B" } : Jvm.MethodName) jdk_52_method_14_code (5 : Nat) (Option.some (Jvm.ClassFile.FieldType.array Jvm.ClassFile.FieldType.byte))).before a0 Z = true := hw _ (List.mem_of_getElem? (i := 134) rfl)
theorem w135 {a0 : Array Value} {Z : State} (hw : HW a0 Z) : (Jvm.Cond.methodLink "java/lang/StringUTF16" (107 : Nat) ({ cls := "java/lang/StringUTF16", name := "newBytesFor", desc := "(I)[B" } : Jvm.MethodName)).before a0 Z = true := hw _ (List.mem_of_getElem? (i := 135) rfl)
theorem w136 {a0 : Array Value} {Z : State} (hw : HW a0 Z) : (Jvm.Cond.static ({ cls := "java/lang/StringUTF16", name := "newBytesFor", desc := "(I)[B" } : Jvm.MethodName)).before a0 Z = true := hw _ (List.mem_of_getElem? (i := 136) rfl)
theorem w137 {a0 : Array Value} {Z : State} (hw : HW a0 Z) : (Jvm.Cond.code ({ cls := "java/lang/StringUTF16", name := "newBytesFor", desc := "(I)[B" } : Jvm.MethodName) jdk_52_method_2_code (1 : Nat) (Option.some (Jvm.ClassFile.FieldType.array Jvm.ClassFile.FieldType.byte))).before a0 Z = true := hw _ (List.mem_of_getElem? (i := 137) rfl)
theorem w138 {a0 : Array Value} {Z : State} (hw : HW a0 Z) : (Jvm.Cond.methodLink "java/lang/StringUTF16" (11 : Nat) ({ cls := "java/lang/StringUTF16", name := "newBytesLength", desc := "(I)I" } : Jvm.MethodName)).before a0 Z = true := hw _ (List.mem_of_getElem? (i := 138) rfl)
theorem w139 {a0 : Array Value} {Z : State} (hw : HW a0 Z) : (Jvm.Cond.static ({ cls := "java/lang/StringUTF16", name := "newBytesLength", desc := "(I)I" } : Jvm.MethodName)).before a0 Z = true := hw _ (List.mem_of_getElem? (i := 139) rfl)
theorem w140 {a0 : Array Value} {Z : State} (hw : HW a0 Z) : (Jvm.Cond.code ({ cls := "java/lang/StringUTF16", name := "newBytesLength", desc := "(I)I" } : Jvm.MethodName) jdk_52_method_3_code (1 : Nat) (Option.some Jvm.ClassFile.FieldType.int)).before a0 Z = true := hw _ (List.mem_of_getElem? (i := 140) rfl)
theorem w141 {a0 : Array Value} {Z : State} (hw : HW a0 Z) : (Jvm.Cond.constant "java/lang/StringUTF16" (20 : Nat) (1073741823 : Int32)).before a0 Z = true := hw _ (List.mem_of_getElem? (i := 141) rfl)
theorem w142 {a0 : Array Value} {Z : State} (hw : HW a0 Z) : (Jvm.Cond.methodLink "java/lang/StringUTF16" (111 : Nat) ({ cls := "java/lang/StringUTF16", name := "putChar", desc := "([BII)V" } : Jvm.MethodName)).before a0 Z = true := hw _ (List.mem_of_getElem? (i := 142) rfl)
theorem w143 {a0 : Array Value} {Z : State} (hw : HW a0 Z) : (Jvm.Cond.static ({ cls := "java/lang/StringUTF16", name := "putChar", desc := "([BII)V" } : Jvm.MethodName)).before a0 Z = true := hw _ (List.mem_of_getElem? (i := 143) rfl)
theorem w144 {a0 : Array Value} {Z : State} (hw : HW a0 Z) : (Jvm.Cond.code ({ cls := "java/lang/StringUTF16", name := "putChar", desc := "([BII)V" } : Jvm.MethodName) jdk_52_method_4_code (3 : Nat) (Option.none : Option Jvm.ClassFile.FieldType)).before a0 Z = true := hw _ (List.mem_of_getElem? (i := 144) rfl)
theorem w145 {a0 : Array Value} {Z : State} (hw : HW a0 Z) : (Jvm.Cond.fieldLink "java/lang/StringUTF16" (44 : Nat) "java/lang/StringUTF16" "$assertionsDisabled" "Z").before a0 Z = true := hw _ (List.mem_of_getElem? (i := 145) rfl)
theorem w146 {a0 : Array Value} {Z : State} (hw : HW a0 Z) : (Jvm.Cond.fieldLink "java/lang/StringUTF16" (59 : Nat) "java/lang/StringUTF16" "HI_BYTE_SHIFT" "I").before a0 Z = true := hw _ (List.mem_of_getElem? (i := 146) rfl)
theorem w147 {a0 : Array Value} {Z : State} (hw : HW a0 Z) : (Jvm.Cond.fieldLink "java/lang/StringUTF16" (63 : Nat) "java/lang/StringUTF16" "LO_BYTE_SHIFT" "I").before a0 Z = true := hw _ (List.mem_of_getElem? (i := 147) rfl)
theorem w148 {a0 : Array Value} {Z : State} (hw : HW a0 Z) : (Jvm.Cond.methodLink "java/lang/StringUTF16" (71 : Nat) ({ cls := "java/lang/StringUTF16", name := "getChar", desc := "([BI)C" } : Jvm.MethodName)).before a0 Z = true := hw _ (List.mem_of_getElem? (i := 148) rfl)
theorem w149 {a0 : Array Value} {Z : State} (hw : HW a0 Z) : (Jvm.Cond.static ({ cls := "java/lang/StringUTF16", name := "getChar", desc := "([BI)C" } : Jvm.MethodName)).before a0 Z = true := hw _ (List.mem_of_getElem? (i := 149) rfl)
theorem w150 {a0 : Array Value} {Z : State} (hw : HW a0 Z) : (Jvm.Cond.code ({ cls := "java/lang/StringUTF16", name := "getChar", desc := "([BI)C" } : Jvm.MethodName) jdk_52_method_5_code (2 : Nat) (Option.some Jvm.ClassFile.FieldType.char)).before a0 Z = true := hw _ (List.mem_of_getElem? (i := 150) rfl)
theorem w151 {a0 : Array Value} {Z : State} (hw : HW a0 Z) : (Jvm.Cond.methodLink "java/lang/String" (1021 : Nat) ({ cls := "java/lang/StringUTF16", name := "toBytes", desc := "(C)[B" } : Jvm.MethodName)).before a0 Z = true := hw _ (List.mem_of_getElem? (i := 151) rfl)
theorem w152 {a0 : Array Value} {Z : State} (hw : HW a0 Z) : (Jvm.Cond.static ({ cls := "java/lang/StringUTF16", name := "toBytes", desc := "(C)[B" } : Jvm.MethodName)).before a0 Z = true := hw _ (List.mem_of_getElem? (i := 152) rfl)
theorem w153 {a0 : Array Value} {Z : State} (hw : HW a0 Z) : (Jvm.Cond.code ({ cls := "java/lang/StringUTF16", name := "toBytes", desc := "(C)[B" } : Jvm.MethodName) jdk_52_method_24_code (2 : Nat) (Option.some (Jvm.ClassFile.FieldType.array Jvm.ClassFile.FieldType.byte))).before a0 Z = true := hw _ (List.mem_of_getElem? (i := 153) rfl)
theorem d1_0 : decode jdk_42_method_54_code 0 = .ok (.aload_n 0, 1) := by decide +kernel
theorem d1_1 : decode jdk_42_method_54_code 1 = .ok (.getfield 9, 3) := by decide +kernel
theorem d1_4 : decode jdk_42_method_54_code 4 = .ok (.arraylength, 1) := by decide +kernel
theorem d1_5 : decode jdk_42_method_54_code 5 = .ok (.aload_n 0, 1) := by decide +kernel
theorem d1_6 : decode jdk_42_method_54_code 6 = .ok (.invokevirtual 335, 3) := by decide +kernel
theorem d1_9 : decode jdk_42_method_54_code 9 = .ok (.ishr, 1) := by decide +kernel
theorem d1_10 : decode jdk_42_method_54_code 10 = .ok (.ireturn, 1) := by decide +kernel
theorem d2_0 : decode jdk_42_method_152_code 0 = .ok (.getstatic 38, 3) := by decide +kernel
theorem d2_3 : decode jdk_42_method_152_code 3 = .ok (.ifCond .eq 10, 3) := by decide +kernel
theorem d2_6 : decode jdk_42_method_152_code 6 = .ok (.aload_n 0, 1) := by decide +kernel
theorem d2_7 : decode jdk_42_method_152_code 7 = .ok (.getfield 15, 3) := by decide +kernel
theorem d2_10 : decode jdk_42_method_152_code 10 = .ok (.goto 4, 3) := by decide +kernel
theorem d2_14 : decode jdk_42_method_152_code 14 = .ok (.ireturn, 1) := by decide +kernel
theorem d8_0 : decode method_3_code 0 = .ok (.aload_n 0, 1) := by decide +kernel
theorem d8_1 : decode method_3_code 1 = .ok (.invokevirtual 30, 3) := by decide +kernel
theorem d8_4 : decode method_3_code 4 = .ok (.istore 4, 2) := by decide +kernel
theorem d8_6 : decode method_3_code 6 = .ok (.iload 4, 2) := by decide +kernel
theorem d8_8 : decode method_3_code 8 = .ok (.iload_n 1, 1) := by decide +kernel
theorem d8_9 : decode method_3_code 9 = .ok (.iadd, 1) := by decide +kernel
theorem d8_10 : decode method_3_code 10 = .ok (.istore 5, 2) := by decide +kernel
theorem d8_12 : decode method_3_code 12 = .ok (.iload 4, 2) := by decide +kernel
theorem d8_14 : decode method_3_code 14 = .ok (.iload 5, 2) := by decide +kernel
theorem d8_16 : decode method_3_code 16 = .ok (.invokestatic 58, 3) := by decide +kernel
theorem d8_19 : decode method_3_code 19 = .ok (.istore 6, 2) := by decide +kernel
theorem d8_21 : decode method_3_code 21 = .ok (.iload 5, 2) := by decide +kernel
theorem d8_23 : decode method_3_code 23 = .ok (.newarray .char, 2) := by decide +kernel
theorem d8_25 : decode method_3_code 25 = .ok (.astore 7, 2) := by decide +kernel
theorem d8_27 : decode method_3_code 27 = .ok (.aload 7, 2) := by decide +kernel
theorem d8_29 : decode method_3_code 29 = .ok (.aload_n 0, 1) := by decide +kernel
theorem d8_30 : decode method_3_code 30 = .ok (.iconst 0, 1) := by decide +kernel
theorem d8_31 : decode method_3_code 31 = .ok (.iload 6, 2) := by decide +kernel
theorem d8_33 : decode method_3_code 33 = .ok (.invokestatic 64, 3) := by decide +kernel
theorem d8_36 : decode method_3_code 36 = .ok (.aload 7, 2) := by decide +kernel
theorem d8_38 : decode method_3_code 38 = .ok (.aload_n 0, 1) := by decide +kernel
theorem d8_39 : decode method_3_code 39 = .ok (.iconst 1, 1) := by decide +kernel
theorem d8_40 : decode method_3_code 40 = .ok (.iload 6, 2) := by decide +kernel
theorem d8_42 : decode method_3_code 42 = .ok (.invokestatic 64, 3) := by decide +kernel
theorem d8_45 : decode method_3_code 45 = .ok (.aload 7, 2) := by decide +kernel
theorem d8_47 : decode method_3_code 47 = .ok (.aload_n 0, 1) := by decide +kernel
theorem d8_48 : decode method_3_code 48 = .ok (.iconst 2, 1) := by decide +kernel
theorem d8_49 : decode method_3_code 49 = .ok (.iload 6, 2) := by decide +kernel
theorem d8_51 : decode method_3_code 51 = .ok (.invokestatic 64, 3) := by decide +kernel
theorem d8_54 : decode method_3_code 54 = .ok (.aload 7, 2) := by decide +kernel
theorem d8_56 : decode method_3_code 56 = .ok (.aload_n 0, 1) := by decide +kernel
theorem d8_57 : decode method_3_code 57 = .ok (.iconst 3, 1) := by decide +kernel
theorem d8_58 : decode method_3_code 58 = .ok (.iload 6, 2) := by decide +kernel
theorem d8_60 : decode method_3_code 60 = .ok (.invokestatic 64, 3) := by decide +kernel
theorem d8_63 : decode method_3_code 63 = .ok (.aload 7, 2) := by decide +kernel
theorem d8_65 : decode method_3_code 65 = .ok (.aload_n 0, 1) := by decide +kernel
theorem d8_66 : decode method_3_code 66 = .ok (.iconst 4, 1) := by decide +kernel
theorem d8_67 : decode method_3_code 67 = .ok (.iload 6, 2) := by decide +kernel
theorem d8_69 : decode method_3_code 69 = .ok (.invokestatic 64, 3) := by decide +kernel
theorem d8_72 : decode method_3_code 72 = .ok (.aload 7, 2) := by decide +kernel
theorem d8_74 : decode method_3_code 74 = .ok (.aload_n 0, 1) := by decide +kernel
theorem d8_75 : decode method_3_code 75 = .ok (.iconst 5, 1) := by decide +kernel
theorem d8_76 : decode method_3_code 76 = .ok (.iload 6, 2) := by decide +kernel
theorem d8_78 : decode method_3_code 78 = .ok (.invokestatic 64, 3) := by decide +kernel
theorem d8_81 : decode method_3_code 81 = .ok (.aload 7, 2) := by decide +kernel
theorem d8_83 : decode method_3_code 83 = .ok (.aload_n 0, 1) := by decide +kernel
theorem d8_84 : decode method_3_code 84 = .ok (.bipush 6, 2) := by decide +kernel
theorem d8_86 : decode method_3_code 86 = .ok (.iload 6, 2) := by decide +kernel
theorem d8_88 : decode method_3_code 88 = .ok (.invokestatic 64, 3) := by decide +kernel
theorem d8_91 : decode method_3_code 91 = .ok (.aload 7, 2) := by decide +kernel
theorem d8_93 : decode method_3_code 93 = .ok (.aload_n 0, 1) := by decide +kernel
theorem d8_94 : decode method_3_code 94 = .ok (.bipush 7, 2) := by decide +kernel
theorem d8_96 : decode method_3_code 96 = .ok (.iload 6, 2) := by decide +kernel
theorem d8_98 : decode method_3_code 98 = .ok (.invokestatic 64, 3) := by decide +kernel
theorem d8_101 : decode method_3_code 101 = .ok (.aload 7, 2) := by decide +kernel
theorem d8_103 : decode method_3_code 103 = .ok (.aload_n 0, 1) := by decide +kernel
theorem d8_104 : decode method_3_code 104 = .ok (.bipush 8, 2) := by decide +kernel
theorem d8_106 : decode method_3_code 106 = .ok (.iload 6, 2) := by decide +kernel
theorem d8_108 : decode method_3_code 108 = .ok (.invokestatic 64, 3) := by decide +kernel
theorem d8_111 : decode method_3_code 111 = .ok (.aload 7, 2) := by decide +kernel
theorem d8_113 : decode method_3_code 113 = .ok (.aload_n 0, 1) := by decide +kernel
theorem d8_114 : decode method_3_code 114 = .ok (.bipush 9, 2) := by decide +kernel
theorem d8_116 : decode method_3_code 116 = .ok (.iload 6, 2) := by decide +kernel
theorem d8_118 : decode method_3_code 118 = .ok (.invokestatic 64, 3) := by decide +kernel
theorem d8_121 : decode method_3_code 121 = .ok (.aload 7, 2) := by decide +kernel
theorem d8_123 : decode method_3_code 123 = .ok (.aload_n 0, 1) := by decide +kernel
theorem d8_124 : decode method_3_code 124 = .ok (.bipush 10, 2) := by decide +kernel
theorem d8_126 : decode method_3_code 126 = .ok (.iload 6, 2) := by decide +kernel
theorem d8_128 : decode method_3_code 128 = .ok (.invokestatic 64, 3) := by decide +kernel
theorem d8_131 : decode method_3_code 131 = .ok (.aload 7, 2) := by decide +kernel
theorem d8_133 : decode method_3_code 133 = .ok (.aload_n 0, 1) := by decide +kernel
theorem d8_134 : decode method_3_code 134 = .ok (.bipush 11, 2) := by decide +kernel
theorem d8_136 : decode method_3_code 136 = .ok (.iload 6, 2) := by decide +kernel
theorem d8_138 : decode method_3_code 138 = .ok (.invokestatic 64, 3) := by decide +kernel
theorem d8_141 : decode method_3_code 141 = .ok (.iload_n 1, 1) := by decide +kernel
theorem d8_142 : decode method_3_code 142 = .ok (.ifCond .ne 8, 3) := by decide +kernel
theorem d8_145 : decode method_3_code 145 = .ok (.aload 7, 2) := by decide +kernel
theorem d8_147 : decode method_3_code 147 = .ok (.iload_n 2, 1) := by decide +kernel
theorem d8_148 : decode method_3_code 148 = .ok (.iload_n 3, 1) := by decide +kernel
theorem d8_149 : decode method_3_code 149 = .ok (.castore, 1) := by decide +kernel
theorem d8_150 : decode method_3_code 150 = .ok (.iload_n 1, 1) := by decide +kernel
theorem d8_151 : decode method_3_code 151 = .ok (.iconst 1, 1) := by decide +kernel
theorem d8_152 : decode method_3_code 152 = .ok (.if_icmp .ne 9, 3) := by decide +kernel
theorem d8_155 : decode method_3_code 155 = .ok (.aload 7, 2) := by decide +kernel
theorem d8_157 : decode method_3_code 157 = .ok (.iload 4, 2) := by decide +kernel
theorem d8_159 : decode method_3_code 159 = .ok (.iload_n 3, 1) := by decide +kernel
theorem d8_160 : decode method_3_code 160 = .ok (.castore, 1) := by decide +kernel
theorem d8_161 : decode method_3_code 161 = .ok (.new 31, 3) := by decide +kernel
theorem d8_164 : decode method_3_code 164 = .ok (.dup, 1) := by decide +kernel
theorem d8_165 : decode method_3_code 165 = .ok (.aload 7, 2) := by decide +kernel
theorem d8_167 : decode method_3_code 167 = .ok (.invokespecial 68, 3) := by decide +kernel
theorem d8_170 : decode method_3_code 170 = .ok (.areturn, 1) := by decide +kernel
theorem d9_0 : decode jdk_29_method_69_code 0 = .ok (.iload_n 0, 1) := by decide +kernel
theorem d9_1 : decode jdk_29_method_69_code 1 = .ok (.iload_n 1, 1) := by decide +kernel
theorem d9_2 : decode jdk_29_method_69_code 2 = .ok (.if_icmp .gt 7, 3) := by decide +kernel
theorem d9_5 : decode jdk_29_method_69_code 5 = .ok (.iload_n 0, 1) := by decide +kernel
theorem d9_6 : decode jdk_29_method_69_code 6 = .ok (.goto 4, 3) := by decide +kernel
theorem d9_9 : decode jdk_29_method_69_code 9 = .ok (.iload_n 1, 1) := by decide +kernel
theorem d9_10 : decode jdk_29_method_69_code 10 = .ok (.ireturn, 1) := by decide +kernel
theorem d10_0 : decode method_4_code 0 = .ok (.iload_n 2, 1) := by decide +kernel
theorem d10_1 : decode method_4_code 1 = .ok (.iload_n 3, 1) := by decide +kernel
theorem d10_2 : decode method_4_code 2 = .ok (.if_icmp .ge 11, 3) := by decide +kernel
theorem d10_5 : decode method_4_code 5 = .ok (.aload_n 0, 1) := by decide +kernel
theorem d10_6 : decode method_4_code 6 = .ok (.iload_n 2, 1) := by decide +kernel
theorem d10_7 : decode method_4_code 7 = .ok (.aload_n 1, 1) := by decide +kernel
theorem d10_8 : decode method_4_code 8 = .ok (.iload_n 2, 1) := by decide +kernel
theorem d10_9 : decode method_4_code 9 = .ok (.invokevirtual 38, 3) := by decide +kernel
theorem d10_12 : decode method_4_code 12 = .ok (.castore, 1) := by decide +kernel
theorem d10_13 : decode method_4_code 13 = .ok (.return_, 1) := by decide +kernel
theorem d11_0 : decode jdk_42_method_3_code 0 = .ok (.aload_n 0, 1) := by decide +kernel
theorem d11_1 : decode jdk_42_method_3_code 1 = .ok (.aload_n 1, 1) := by decide +kernel
theorem d11_2 : decode jdk_42_method_3_code 2 = .ok (.iconst 0, 1) := by decide +kernel
theorem d11_3 : decode jdk_42_method_3_code 3 = .ok (.aload_n 1, 1) := by decide +kernel
theorem d11_4 : decode jdk_42_method_3_code 4 = .ok (.arraylength, 1) := by decide +kernel
theorem d11_5 : decode jdk_42_method_3_code 5 = .ok (.aconst_null, 1) := by decide +kernel
theorem d11_6 : decode jdk_42_method_3_code 6 = .ok (.invokespecial 27, 3) := by decide +kernel
theorem d11_9 : decode jdk_42_method_3_code 9 = .ok (.return_, 1) := by decide +kernel
theorem d12_0 : decode jdk_42_method_149_code 0 = .ok (.aload_n 0, 1) := by decide +kernel
theorem d12_1 : decode jdk_42_method_149_code 1 = .ok (.invokespecial 1, 3) := by decide +kernel
theorem d12_4 : decode jdk_42_method_149_code 4 = .ok (.iload_n 3, 1) := by decide +kernel
theorem d12_5 : decode jdk_42_method_149_code 5 = .ok (.ifCond .ne 22, 3) := by decide +kernel
theorem d12_27 : decode jdk_42_method_149_code 27 = .ok (.getstatic 38, 3) := by decide +kernel
theorem d12_30 : decode jdk_42_method_149_code 30 = .ok (.ifCond .eq 28, 3) := by decide +kernel
theorem d12_33 : decode jdk_42_method_149_code 33 = .ok (.aload_n 1, 1) := by decide +kernel
theorem d12_34 : decode jdk_42_method_149_code 34 = .ok (.iload_n 2, 1) := by decide +kernel
theorem d12_35 : decode jdk_42_method_149_code 35 = .ok (.iload_n 3, 1) := by decide +kernel
theorem d12_36 : decode jdk_42_method_149_code 36 = .ok (.invokestatic 177, 3) := by decide +kernel
theorem d12_39 : decode jdk_42_method_149_code 39 = .ok (.astore 5, 2) := by decide +kernel
theorem d12_41 : decode jdk_42_method_149_code 41 = .ok (.aload_n 0, 1) := by decide +kernel
theorem d12_42 : decode jdk_42_method_149_code 42 = .ok (.aload 5, 2) := by decide +kernel
theorem d12_44 : decode jdk_42_method_149_code 44 = .ok (.iload_n 3, 1) := by decide +kernel
theorem d12_45 : decode jdk_42_method_149_code 45 = .ok (.invokestatic 47, 3) := by decide +kernel
theorem d12_48 : decode jdk_42_method_149_code 48 = .ok (.putfield 15, 3) := by decide +kernel
theorem d12_51 : decode jdk_42_method_149_code 51 = .ok (.aload_n 0, 1) := by decide +kernel
theorem d12_52 : decode jdk_42_method_149_code 52 = .ok (.aload 5, 2) := by decide +kernel
theorem d12_54 : decode jdk_42_method_149_code 54 = .ok (.putfield 9, 3) := by decide +kernel
theorem d12_57 : decode jdk_42_method_149_code 57 = .ok (.return_, 1) := by decide +kernel
theorem d14_0 : decode jdk_52_method_16_code 0 = .ok (.iload_n 2, 1) := by decide +kernel
theorem d14_1 : decode jdk_52_method_16_code 1 = .ok (.newarray .byte, 2) := by decide +kernel
theorem d14_3 : decode jdk_52_method_16_code 3 = .ok (.astore_n 3, 1) := by decide +kernel
theorem d14_4 : decode jdk_52_method_16_code 4 = .ok (.aload_n 0, 1) := by decide +kernel
theorem d14_5 : decode jdk_52_method_16_code 5 = .ok (.iload_n 1, 1) := by decide +kernel
theorem d14_6 : decode jdk_52_method_16_code 6 = .ok (.aload_n 3, 1) := by decide +kernel
theorem d14_7 : decode jdk_52_method_16_code 7 = .ok (.iconst 0, 1) := by decide +kernel
theorem d14_8 : decode jdk_52_method_16_code 8 = .ok (.iload_n 2, 1) := by decide +kernel
theorem d14_9 : decode jdk_52_method_16_code 9 = .ok (.invokestatic 115, 3) := by decide +kernel
theorem d14_12 : decode jdk_52_method_16_code 12 = .ok (.istore 4, 2) := by decide +kernel
theorem d14_14 : decode jdk_52_method_16_code 14 = .ok (.iload 4, 2) := by decide +kernel
theorem d14_16 : decode jdk_52_method_16_code 16 = .ok (.iload_n 2, 1) := by decide +kernel
theorem d14_17 : decode jdk_52_method_16_code 17 = .ok (.if_icmp .eq 40, 3) := by decide +kernel
theorem d14_20 : decode jdk_52_method_16_code 20 = .ok (.aload_n 0, 1) := by decide +kernel
theorem d14_21 : decode jdk_52_method_16_code 21 = .ok (.iload_n 1, 1) := by decide +kernel
theorem d14_22 : decode jdk_52_method_16_code 22 = .ok (.iload_n 2, 1) := by decide +kernel
theorem d14_23 : decode jdk_52_method_16_code 23 = .ok (.invokestatic 119, 3) := by decide +kernel
theorem d14_26 : decode jdk_52_method_16_code 26 = .ok (.astore 5, 2) := by decide +kernel
theorem d14_28 : decode jdk_52_method_16_code 28 = .ok (.aload 5, 2) := by decide +kernel
theorem d14_30 : decode jdk_52_method_16_code 30 = .ok (.iload 4, 2) := by decide +kernel
theorem d14_32 : decode jdk_52_method_16_code 32 = .ok (.invokestatic 71, 3) := by decide +kernel
theorem d14_35 : decode jdk_52_method_16_code 35 = .ok (.sipush 255, 3) := by decide +kernel
theorem d14_38 : decode jdk_52_method_16_code 38 = .ok (.if_icmp .gt 16, 3) := by decide +kernel
theorem d14_54 : decode jdk_52_method_16_code 54 = .ok (.aload 5, 2) := by decide +kernel
theorem d14_56 : decode jdk_52_method_16_code 56 = .ok (.areturn, 1) := by decide +kernel
theorem d14_57 : decode jdk_52_method_16_code 57 = .ok (.aload_n 3, 1) := by decide +kernel
theorem d14_58 : decode jdk_52_method_16_code 58 = .ok (.areturn, 1) := by decide +kernel
theorem d15_0 : decode jdk_52_method_21_code 0 = .ok (.iconst 0, 1) := by decide +kernel
theorem d15_1 : decode jdk_52_method_21_code 1 = .ok (.istore 5, 2) := by decide +kernel
theorem d15_3 : decode jdk_52_method_21_code 3 = .ok (.iload 5, 2) := by decide +kernel
theorem d15_5 : decode jdk_52_method_21_code 5 = .ok (.iload 4, 2) := by decide +kernel
theorem d15_7 : decode jdk_52_method_21_code 7 = .ok (.if_icmp .ge 37, 3) := by decide +kernel
theorem d15_10 : decode jdk_52_method_21_code 10 = .ok (.aload_n 0, 1) := by decide +kernel
theorem d15_11 : decode jdk_52_method_21_code 11 = .ok (.iload_n 1, 1) := by decide +kernel
theorem d15_12 : decode jdk_52_method_21_code 12 = .ok (.caload, 1) := by decide +kernel
theorem d15_13 : decode jdk_52_method_21_code 13 = .ok (.istore 6, 2) := by decide +kernel
theorem d15_15 : decode jdk_52_method_21_code 15 = .ok (.iload 6, 2) := by decide +kernel
theorem d15_17 : decode jdk_52_method_21_code 17 = .ok (.sipush 255, 3) := by decide +kernel
theorem d15_20 : decode jdk_52_method_21_code 20 = .ok (.if_icmp .le 6, 3) := by decide +kernel
theorem d15_23 : decode jdk_52_method_21_code 23 = .ok (.iload 5, 2) := by decide +kernel
theorem d15_25 : decode jdk_52_method_21_code 25 = .ok (.ireturn, 1) := by decide +kernel
theorem d15_26 : decode jdk_52_method_21_code 26 = .ok (.aload_n 2, 1) := by decide +kernel
theorem d15_27 : decode jdk_52_method_21_code 27 = .ok (.iload_n 3, 1) := by decide +kernel
theorem d15_28 : decode jdk_52_method_21_code 28 = .ok (.iload 6, 2) := by decide +kernel
theorem d15_30 : decode jdk_52_method_21_code 30 = .ok (.i2b, 1) := by decide +kernel
theorem d15_31 : decode jdk_52_method_21_code 31 = .ok (.bastore, 1) := by decide +kernel
theorem d15_32 : decode jdk_52_method_21_code 32 = .ok (.iinc 1 1, 3) := by decide +kernel
theorem d15_35 : decode jdk_52_method_21_code 35 = .ok (.iinc 3 1, 3) := by decide +kernel
theorem d15_38 : decode jdk_52_method_21_code 38 = .ok (.iinc 5 1, 3) := by decide +kernel
theorem d15_41 : decode jdk_52_method_21_code 41 = .ok (.goto (-38), 3) := by decide +kernel
theorem d15_44 : decode jdk_52_method_21_code 44 = .ok (.iload 4, 2) := by decide +kernel
theorem d15_46 : decode jdk_52_method_21_code 46 = .ok (.ireturn, 1) := by decide +kernel
theorem d16_0 : decode jdk_52_method_15_code 0 = .ok (.iload_n 1, 1) := by decide +kernel
theorem d16_1 : decode jdk_52_method_15_code 1 = .ok (.aload_n 0, 1) := by decide +kernel
theorem d16_2 : decode jdk_52_method_15_code 2 = .ok (.arraylength, 1) := by decide +kernel
theorem d16_3 : decode jdk_52_method_15_code 3 = .ok (.isub, 1) := by decide +kernel
theorem d16_4 : decode jdk_52_method_15_code 4 = .ok (.bipush 31, 2) := by decide +kernel
theorem d16_6 : decode jdk_52_method_15_code 6 = .ok (.iushr, 1) := by decide +kernel
theorem d16_7 : decode jdk_52_method_15_code 7 = .ok (.i2b, 1) := by decide +kernel
theorem d16_8 : decode jdk_52_method_15_code 8 = .ok (.ireturn, 1) := by decide +kernel
theorem d17_0 : decode prog_59_method_5_code 0 = .ok (.invokestatic 39, 3) := by decide +kernel
theorem d17_3 : decode prog_59_method_5_code 3 = .ok (.astore_n 1, 1) := by decide +kernel
theorem d17_4 : decode prog_59_method_5_code 4 = .ok (.aload_n 1, 1) := by decide +kernel
theorem d17_5 : decode prog_59_method_5_code 5 = .ok (.arraylength, 1) := by decide +kernel
theorem d17_6 : decode prog_59_method_5_code 6 = .ok (.istore_n 2, 1) := by decide +kernel
theorem d17_7 : decode prog_59_method_5_code 7 = .ok (.iconst 0, 1) := by decide +kernel
theorem d17_8 : decode prog_59_method_5_code 8 = .ok (.istore_n 3, 1) := by decide +kernel
theorem d17_9 : decode prog_59_method_5_code 9 = .ok (.iload_n 3, 1) := by decide +kernel
theorem d17_10 : decode prog_59_method_5_code 10 = .ok (.iload_n 2, 1) := by decide +kernel
theorem d17_11 : decode prog_59_method_5_code 11 = .ok (.if_icmp .ge 29, 3) := by decide +kernel
theorem d17_14 : decode prog_59_method_5_code 14 = .ok (.aload_n 1, 1) := by decide +kernel
theorem d17_15 : decode prog_59_method_5_code 15 = .ok (.iload_n 3, 1) := by decide +kernel
theorem d17_16 : decode prog_59_method_5_code 16 = .ok (.aaload, 1) := by decide +kernel
theorem d17_17 : decode prog_59_method_5_code 17 = .ok (.astore 4, 2) := by decide +kernel
theorem d17_19 : decode prog_59_method_5_code 19 = .ok (.aload 4, 2) := by decide +kernel
theorem d17_21 : decode prog_59_method_5_code 21 = .ok (.getfield 35, 3) := by decide +kernel
theorem d17_24 : decode prog_59_method_5_code 24 = .ok (.aload_n 0, 1) := by decide +kernel
theorem d17_25 : decode prog_59_method_5_code 25 = .ok (.invokevirtual 43, 3) := by decide +kernel
theorem d17_28 : decode prog_59_method_5_code 28 = .ok (.ifCond .eq 6, 3) := by decide +kernel
theorem d17_31 : decode prog_59_method_5_code 31 = .ok (.aload 4, 2) := by decide +kernel
theorem d17_33 : decode prog_59_method_5_code 33 = .ok (.areturn, 1) := by decide +kernel
theorem d17_34 : decode prog_59_method_5_code 34 = .ok (.iinc 3 1, 3) := by decide +kernel
theorem d17_37 : decode prog_59_method_5_code 37 = .ok (.goto (-28), 3) := by decide +kernel
theorem d17_40 : decode prog_59_method_5_code 40 = .ok (.aconst_null, 1) := by decide +kernel
theorem d17_41 : decode prog_59_method_5_code 41 = .ok (.areturn, 1) := by decide +kernel
theorem d18_0 : decode prog_59_method_1_code 0 = .ok (.getstatic 16, 3) := by decide +kernel
theorem d18_3 : decode prog_59_method_1_code 3 = .ok (.invokevirtual 20, 3) := by decide +kernel
theorem d18_6 : decode prog_59_method_1_code 6 = .ok (.checkcast 21, 3) := by decide +kernel
theorem d18_9 : decode prog_59_method_1_code 9 = .ok (.areturn, 1) := by decide +kernel
theorem d19_0 : decode jdk_42_method_66_code 0 = .ok (.aload_n 0, 1) := by decide +kernel
theorem d19_1 : decode jdk_42_method_66_code 1 = .ok (.aload_n 1, 1) := by decide +kernel
theorem d19_2 : decode jdk_42_method_66_code 2 = .ok (.if_acmp .ne 5, 3) := by decide +kernel
theorem d19_7 : decode jdk_42_method_66_code 7 = .ok (.aload_n 1, 1) := by decide +kernel
theorem d19_8 : decode jdk_42_method_66_code 8 = .ok (.instanceof 10, 3) := by decide +kernel
theorem d19_11 : decode jdk_42_method_66_code 11 = .ok (.ifCond .eq 43, 3) := by decide +kernel
theorem d19_14 : decode jdk_42_method_66_code 14 = .ok (.aload_n 1, 1) := by decide +kernel
theorem d19_15 : decode jdk_42_method_66_code 15 = .ok (.checkcast 10, 3) := by decide +kernel
theorem d19_18 : decode jdk_42_method_66_code 18 = .ok (.astore_n 2, 1) := by decide +kernel
theorem d19_19 : decode jdk_42_method_66_code 19 = .ok (.getstatic 38, 3) := by decide +kernel
theorem d19_22 : decode jdk_42_method_66_code 22 = .ok (.ifCond .eq 14, 3) := by decide +kernel
theorem d19_25 : decode jdk_42_method_66_code 25 = .ok (.aload_n 0, 1) := by decide +kernel
theorem d19_26 : decode jdk_42_method_66_code 26 = .ok (.getfield 15, 3) := by decide +kernel
theorem d19_29 : decode jdk_42_method_66_code 29 = .ok (.aload_n 2, 1) := by decide +kernel
theorem d19_30 : decode jdk_42_method_66_code 30 = .ok (.getfield 15, 3) := by decide +kernel
theorem d19_33 : decode jdk_42_method_66_code 33 = .ok (.if_icmp .ne 21, 3) := by decide +kernel
theorem d19_54 : decode jdk_42_method_66_code 54 = .ok (.iconst 0, 1) := by decide +kernel
theorem d19_55 : decode jdk_42_method_66_code 55 = .ok (.ireturn, 1) := by decide +kernel
theorem d21_0 : decode jdk_42_method_139_code 0 = .ok (.getstatic 38, 3) := by decide +kernel
theorem d21_3 : decode jdk_42_method_139_code 3 = .ok (.ifCond .eq 23, 3) := by decide +kernel
theorem d21_6 : decode jdk_42_method_139_code 6 = .ok (.iload_n 0, 1) := by decide +kernel
theorem d21_7 : decode jdk_42_method_139_code 7 = .ok (.invokestatic 1015, 3) := by decide +kernel
theorem d21_10 : decode jdk_42_method_139_code 10 = .ok (.ifCond .eq 16, 3) := by decide +kernel
theorem d21_13 : decode jdk_42_method_139_code 13 = .ok (.new 10, 3) := by decide +kernel
theorem d21_16 : decode jdk_42_method_139_code 16 = .ok (.dup, 1) := by decide +kernel
theorem d21_17 : decode jdk_42_method_139_code 17 = .ok (.iload_n 0, 1) := by decide +kernel
theorem d21_18 : decode jdk_42_method_139_code 18 = .ok (.invokestatic 1018, 3) := by decide +kernel
theorem d21_21 : decode jdk_42_method_139_code 21 = .ok (.iconst 0, 1) := by decide +kernel
theorem d21_22 : decode jdk_42_method_139_code 22 = .ok (.invokespecial 209, 3) := by decide +kernel
theorem d21_25 : decode jdk_42_method_139_code 25 = .ok (.areturn, 1) := by decide +kernel
theorem d21_26 : decode jdk_42_method_139_code 26 = .ok (.new 10, 3) := by decide +kernel
theorem d21_29 : decode jdk_42_method_139_code 29 = .ok (.dup, 1) := by decide +kernel
theorem d21_30 : decode jdk_42_method_139_code 30 = .ok (.iload_n 0, 1) := by decide +kernel
theorem d21_31 : decode jdk_42_method_139_code 31 = .ok (.invokestatic 1021, 3) := by decide +kernel
theorem d21_34 : decode jdk_42_method_139_code 34 = .ok (.iconst 1, 1) := by decide +kernel
theorem d21_35 : decode jdk_42_method_139_code 35 = .ok (.invokespecial 209, 3) := by decide +kernel
theorem d21_38 : decode jdk_42_method_139_code 38 = .ok (.areturn, 1) := by decide +kernel
theorem d22_0 : decode jdk_43_method_3_code 0 = .ok (.iload_n 0, 1) := by decide +kernel
theorem d22_1 : decode jdk_43_method_3_code 1 = .ok (.sipush 255, 3) := by decide +kernel
theorem d22_4 : decode jdk_43_method_3_code 4 = .ok (.if_icmp .gt 7, 3) := by decide +kernel
theorem d22_7 : decode jdk_43_method_3_code 7 = .ok (.iconst 1, 1) := by decide +kernel
theorem d22_8 : decode jdk_43_method_3_code 8 = .ok (.goto 4, 3) := by decide +kernel
theorem d22_11 : decode jdk_43_method_3_code 11 = .ok (.iconst 0, 1) := by decide +kernel
theorem d22_12 : decode jdk_43_method_3_code 12 = .ok (.ireturn, 1) := by decide +kernel
theorem d23_0 : decode jdk_43_method_46_code 0 = .ok (.iconst 1, 1) := by decide +kernel
theorem d23_1 : decode jdk_43_method_46_code 1 = .ok (.newarray .byte, 2) := by decide +kernel
theorem d23_3 : decode jdk_43_method_46_code 3 = .ok (.dup, 1) := by decide +kernel
theorem d23_4 : decode jdk_43_method_46_code 4 = .ok (.iconst 0, 1) := by decide +kernel
theorem d23_5 : decode jdk_43_method_46_code 5 = .ok (.iload_n 0, 1) := by decide +kernel
theorem d23_6 : decode jdk_43_method_46_code 6 = .ok (.i2b, 1) := by decide +kernel
theorem d23_7 : decode jdk_43_method_46_code 7 = .ok (.bastore, 1) := by decide +kernel
theorem d23_8 : decode jdk_43_method_46_code 8 = .ok (.areturn, 1) := by decide +kernel
theorem d24_0 : decode jdk_42_method_151_code 0 = .ok (.aload_n 0, 1) := by decide +kernel
theorem d24_1 : decode jdk_42_method_151_code 1 = .ok (.invokespecial 1, 3) := by decide +kernel
theorem d24_4 : decode jdk_42_method_151_code 4 = .ok (.aload_n 0, 1) := by decide +kernel
theorem d24_5 : decode jdk_42_method_151_code 5 = .ok (.aload_n 1, 1) := by decide +kernel
theorem d24_6 : decode jdk_42_method_151_code 6 = .ok (.putfield 9, 3) := by decide +kernel
theorem d24_9 : decode jdk_42_method_151_code 9 = .ok (.aload_n 0, 1) := by decide +kernel
theorem d24_10 : decode jdk_42_method_151_code 10 = .ok (.iload_n 2, 1) := by decide +kernel
theorem d24_11 : decode jdk_42_method_151_code 11 = .ok (.putfield 15, 3) := by decide +kernel
theorem d24_14 : decode jdk_42_method_151_code 14 = .ok (.return_, 1) := by decide +kernel
theorem d25_0 : decode jdk_52_method_14_code 0 = .ok (.iload_n 2, 1) := by decide +kernel
theorem d25_1 : decode jdk_52_method_14_code 1 = .ok (.invokestatic 107, 3) := by decide +kernel
theorem d25_4 : decode jdk_52_method_14_code 4 = .ok (.astore_n 3, 1) := by decide +kernel
theorem d25_5 : decode jdk_52_method_14_code 5 = .ok (.iconst 0, 1) := by decide +kernel
theorem d25_6 : decode jdk_52_method_14_code 6 = .ok (.istore 4, 2) := by decide +kernel
theorem d25_8 : decode jdk_52_method_14_code 8 = .ok (.iload 4, 2) := by decide +kernel
theorem d25_10 : decode jdk_52_method_14_code 10 = .ok (.iload_n 2, 1) := by decide +kernel
theorem d25_11 : decode jdk_52_method_14_code 11 = .ok (.if_icmp .ge 21, 3) := by decide +kernel
theorem d25_14 : decode jdk_52_method_14_code 14 = .ok (.aload_n 3, 1) := by decide +kernel
theorem d25_15 : decode jdk_52_method_14_code 15 = .ok (.iload 4, 2) := by decide +kernel
theorem d25_17 : decode jdk_52_method_14_code 17 = .ok (.aload_n 0, 1) := by decide +kernel
theorem d25_18 : decode jdk_52_method_14_code 18 = .ok (.iload_n 1, 1) := by decide +kernel
theorem d25_19 : decode jdk_52_method_14_code 19 = .ok (.caload, 1) := by decide +kernel
theorem d25_20 : decode jdk_52_method_14_code 20 = .ok (.invokestatic 111, 3) := by decide +kernel
theorem d25_23 : decode jdk_52_method_14_code 23 = .ok (.iinc 1 1, 3) := by decide +kernel
theorem d25_26 : decode jdk_52_method_14_code 26 = .ok (.iinc 4 1, 3) := by decide +kernel
theorem d25_29 : decode jdk_52_method_14_code 29 = .ok (.goto (-21), 3) := by decide +kernel
theorem d25_32 : decode jdk_52_method_14_code 32 = .ok (.aload_n 3, 1) := by decide +kernel
theorem d25_33 : decode jdk_52_method_14_code 33 = .ok (.areturn, 1) := by decide +kernel
theorem d26_0 : decode jdk_52_method_2_code 0 = .ok (.iload_n 0, 1) := by decide +kernel
theorem d26_1 : decode jdk_52_method_2_code 1 = .ok (.invokestatic 11, 3) := by decide +kernel
theorem d26_4 : decode jdk_52_method_2_code 4 = .ok (.newarray .byte, 2) := by decide +kernel
theorem d26_6 : decode jdk_52_method_2_code 6 = .ok (.areturn, 1) := by decide +kernel
theorem d27_0 : decode jdk_52_method_3_code 0 = .ok (.iload_n 0, 1) := by decide +kernel
theorem d27_1 : decode jdk_52_method_3_code 1 = .ok (.ifCond .ge 11, 3) := by decide +kernel
theorem d27_12 : decode jdk_52_method_3_code 12 = .ok (.iload_n 0, 1) := by decide +kernel
theorem d27_13 : decode jdk_52_method_3_code 13 = .ok (.ldc 20, 2) := by decide +kernel
theorem d27_15 : decode jdk_52_method_3_code 15 = .ok (.if_icmp .lt 40, 3) := by decide +kernel
theorem d27_55 : decode jdk_52_method_3_code 55 = .ok (.iload_n 0, 1) := by decide +kernel
theorem d27_56 : decode jdk_52_method_3_code 56 = .ok (.iconst 1, 1) := by decide +kernel
theorem d27_57 : decode jdk_52_method_3_code 57 = .ok (.ishl, 1) := by decide +kernel
theorem d27_58 : decode jdk_52_method_3_code 58 = .ok (.ireturn, 1) := by decide +kernel
theorem d28_0 : decode jdk_52_method_4_code 0 = .ok (.getstatic 44, 3) := by decide +kernel
theorem d28_3 : decode jdk_52_method_4_code 3 = .ok (.ifCond .ne 25, 3) := by decide +kernel
theorem d28_28 : decode jdk_52_method_4_code 28 = .ok (.iload_n 1, 1) := by decide +kernel
theorem d28_29 : decode jdk_52_method_4_code 29 = .ok (.iconst 1, 1) := by decide +kernel
theorem d28_30 : decode jdk_52_method_4_code 30 = .ok (.ishl, 1) := by decide +kernel
theorem d28_31 : decode jdk_52_method_4_code 31 = .ok (.istore_n 1, 1) := by decide +kernel
theorem d28_32 : decode jdk_52_method_4_code 32 = .ok (.aload_n 0, 1) := by decide +kernel
theorem d28_33 : decode jdk_52_method_4_code 33 = .ok (.iload_n 1, 1) := by decide +kernel
theorem d28_34 : decode jdk_52_method_4_code 34 = .ok (.iinc 1 1, 3) := by decide +kernel
theorem d28_37 : decode jdk_52_method_4_code 37 = .ok (.iload_n 2, 1) := by decide +kernel
theorem d28_38 : decode jdk_52_method_4_code 38 = .ok (.getstatic 59, 3) := by decide +kernel
theorem d28_41 : decode jdk_52_method_4_code 41 = .ok (.ishr, 1) := by decide +kernel
theorem d28_42 : decode jdk_52_method_4_code 42 = .ok (.i2b, 1) := by decide +kernel
theorem d28_43 : decode jdk_52_method_4_code 43 = .ok (.bastore, 1) := by decide +kernel
theorem d28_44 : decode jdk_52_method_4_code 44 = .ok (.aload_n 0, 1) := by decide +kernel
theorem d28_45 : decode jdk_52_method_4_code 45 = .ok (.iload_n 1, 1) := by decide +kernel
theorem d28_46 : decode jdk_52_method_4_code 46 = .ok (.iload_n 2, 1) := by decide +kernel
theorem d28_47 : decode jdk_52_method_4_code 47 = .ok (.getstatic 63, 3) := by decide +kernel
theorem d28_50 : decode jdk_52_method_4_code 50 = .ok (.ishr, 1) := by decide +kernel
theorem d28_51 : decode jdk_52_method_4_code 51 = .ok (.i2b, 1) := by decide +kernel
theorem d28_52 : decode jdk_52_method_4_code 52 = .ok (.bastore, 1) := by decide +kernel
theorem d28_53 : decode jdk_52_method_4_code 53 = .ok (.return_, 1) := by decide +kernel
theorem d29_0 : decode jdk_52_method_5_code 0 = .ok (.getstatic 44, 3) := by decide +kernel
theorem d29_3 : decode jdk_52_method_5_code 3 = .ok (.ifCond .ne 25, 3) := by decide +kernel
theorem d29_28 : decode jdk_52_method_5_code 28 = .ok (.iload_n 1, 1) := by decide +kernel
theorem d29_29 : decode jdk_52_method_5_code 29 = .ok (.iconst 1, 1) := by decide +kernel
theorem d29_30 : decode jdk_52_method_5_code 30 = .ok (.ishl, 1) := by decide +kernel
theorem d29_31 : decode jdk_52_method_5_code 31 = .ok (.istore_n 1, 1) := by decide +kernel
theorem d29_32 : decode jdk_52_method_5_code 32 = .ok (.aload_n 0, 1) := by decide +kernel
theorem d29_33 : decode jdk_52_method_5_code 33 = .ok (.iload_n 1, 1) := by decide +kernel
theorem d29_34 : decode jdk_52_method_5_code 34 = .ok (.iinc 1 1, 3) := by decide +kernel
theorem d29_37 : decode jdk_52_method_5_code 37 = .ok (.baload, 1) := by decide +kernel
theorem d29_38 : decode jdk_52_method_5_code 38 = .ok (.sipush 255, 3) := by decide +kernel
theorem d29_41 : decode jdk_52_method_5_code 41 = .ok (.iand, 1) := by decide +kernel
theorem d29_42 : decode jdk_52_method_5_code 42 = .ok (.getstatic 59, 3) := by decide +kernel
theorem d29_45 : decode jdk_52_method_5_code 45 = .ok (.ishl, 1) := by decide +kernel
theorem d29_46 : decode jdk_52_method_5_code 46 = .ok (.aload_n 0, 1) := by decide +kernel
theorem d29_47 : decode jdk_52_method_5_code 47 = .ok (.iload_n 1, 1) := by decide +kernel
theorem d29_48 : decode jdk_52_method_5_code 48 = .ok (.baload, 1) := by decide +kernel
theorem d29_49 : decode jdk_52_method_5_code 49 = .ok (.sipush 255, 3) := by decide +kernel
theorem d29_52 : decode jdk_52_method_5_code 52 = .ok (.iand, 1) := by decide +kernel
theorem d29_53 : decode jdk_52_method_5_code 53 = .ok (.getstatic 63, 3) := by decide +kernel
theorem d29_56 : decode jdk_52_method_5_code 56 = .ok (.ishl, 1) := by decide +kernel
theorem d29_57 : decode jdk_52_method_5_code 57 = .ok (.ior, 1) := by decide +kernel
theorem d29_58 : decode jdk_52_method_5_code 58 = .ok (.i2c, 1) := by decide +kernel
theorem d29_59 : decode jdk_52_method_5_code 59 = .ok (.ireturn, 1) := by decide +kernel
theorem d30_0 : decode jdk_52_method_24_code 0 = .ok (.iconst 2, 1) := by decide +kernel
theorem d30_1 : decode jdk_52_method_24_code 1 = .ok (.newarray .byte, 2) := by decide +kernel
theorem d30_3 : decode jdk_52_method_24_code 3 = .ok (.astore_n 1, 1) := by decide +kernel
theorem d30_4 : decode jdk_52_method_24_code 4 = .ok (.aload_n 1, 1) := by decide +kernel
theorem d30_5 : decode jdk_52_method_24_code 5 = .ok (.iconst 0, 1) := by decide +kernel
theorem d30_6 : decode jdk_52_method_24_code 6 = .ok (.iload_n 0, 1) := by decide +kernel
theorem d30_7 : decode jdk_52_method_24_code 7 = .ok (.invokestatic 111, 3) := by decide +kernel
theorem d30_10 : decode jdk_52_method_24_code 10 = .ok (.aload_n 1, 1) := by decide +kernel
theorem d30_11 : decode jdk_52_method_24_code 11 = .ok (.areturn, 1) := by decide +kernel
theorem pd_0 : parseMethodDescriptor "(I)I" = some ⟨[.int], (some .int)⟩ := by decide +kernel
theorem pd_1 : parseMethodDescriptor "(I)[B" = some ⟨[.int], (some (.array .byte))⟩ := by decide +kernel
theorem pd_2 : parseMethodDescriptor "([BII)V" = some ⟨[(.array .byte), .int, .int], none⟩ := by decide +kernel
theorem pd_3 : parseMethodDescriptor "([CI[BII)I" = some ⟨[(.array .char), .int, (.array .byte), .int, .int], (some .int)⟩ := by decide +kernel
theorem pd_4 : parseMethodDescriptor "([CII)[B" = some ⟨[(.array .char), .int, .int], (some (.array .byte))⟩ := by decide +kernel
theorem pd_5 : parseMethodDescriptor "([BI)C" = some ⟨[(.array .byte), .int], (some .char)⟩ := by decide +kernel
theorem pd_6 : parseMethodDescriptor "([BI)B" = some ⟨[(.array .byte), .int], (some .byte)⟩ := by decide +kernel
theorem pd_7 : parseMethodDescriptor "([CIILjava/lang/Void;)V" = some ⟨[(.array .char), .int, .int, (.object "java/lang/Void")], none⟩ := by decide +kernel
theorem pd_8 : parseMethodDescriptor "(C)Z" = some ⟨[.char], (some .boolean)⟩ := by decide +kernel
theorem pd_9 : parseMethodDescriptor "(C)[B" = some ⟨[.char], (some (.array .byte))⟩ := by decide +kernel
theorem pd_10 : parseMethodDescriptor "([BB)V" = some ⟨[(.array .byte), .byte], none⟩ := by decide +kernel
theorem pd_11 : parseMethodDescriptor "()B" = some ⟨[], (some .byte)⟩ := by decide +kernel
theorem pd_12 : parseMethodDescriptor "(I)C" = some ⟨[.int], (some .char)⟩ := by decide +kernel
theorem pd_13 : parseMethodDescriptor "()I" = some ⟨[], (some .int)⟩ := by decide +kernel
theorem pd_14 : parseMethodDescriptor "(II)I" = some ⟨[.int, .int], (some .int)⟩ := by decide +kernel
theorem pd_15 : parseMethodDescriptor "([CLjava/lang/String;II)V" = some ⟨[(.array .char), (.object "java/lang/String"), .int, .int], none⟩ := by decide +kernel
theorem pd_16 : parseMethodDescriptor "([C)V" = some ⟨[(.array .char)], none⟩ := by decide +kernel
theorem pd_17 : parseMethodDescriptor "()[Lcom/example/avain/avain/model/Type;" = some ⟨[], (some (.array (.object "com/example/avain/avain/model/Type")))⟩ := by decide +kernel
theorem pd_18 : parseMethodDescriptor "(Ljava/lang/Object;)Z" = some ⟨[(.object "java/lang/Object")], (some .boolean)⟩ := by decide +kernel
theorem pd_19 : parseMethodDescriptor "(Ljava/lang/String;)Lcom/example/avain/avain/model/Type;" = some ⟨[(.object "java/lang/String")], (some (.object "com/example/avain/avain/model/Type"))⟩ := by decide +kernel
theorem pd_20 : parseMethodDescriptor "(Ljava/lang/String;IIC)Ljava/lang/String;" = some ⟨[(.object "java/lang/String"), .int, .int, .char], (some (.object "java/lang/String"))⟩ := by decide +kernel
theorem pd_21 : parseMethodDescriptor "(C)Ljava/lang/String;" = some ⟨[.char], (some (.object "java/lang/String"))⟩ := by decide +kernel
theorem pf_0 : plainFor (⟨"java/lang/Math", "min", "(II)I"⟩ : MethodName) = true := by decide +kernel
theorem pn_0 : plainName "java/lang/StringUTF16" = true := by first | (simp [plainName, overriddenIn]; done) | decide +kernel
theorem pn_1 : plainName "java/lang/String" = true := by first | (simp [plainName, overriddenIn]; done) | decide +kernel
theorem pn_2 : plainName "java/lang/StringLatin1" = true := by first | (simp [plainName, overriddenIn]; done) | decide +kernel
theorem pn_3 : plainName "com/example/avain/avain/model/TypeFromKeywordPinLaw" = true := by first | (simp [plainName, overriddenIn]; done) | decide +kernel
theorem pn_4 : plainName "com/example/avain/avain/model/Type" = true := by first | (simp [plainName, overriddenIn]; done) | decide +kernel
theorem hws {a0 : Array Value} {Z : State} (hw : HW a0 Z) : ∀ d ∈ StrChars.Road.words, d.before a0 Z = true := fun d hd => hw d ((by decide +kernel : ∀ d ∈ StrChars.Road.words, d ∈ tables_1) d hd)
theorem hln {a0 : Array Value} {Z : State} (hw : HW a0 Z) : ∀ d ∈ StrChars.Road.wordsLen, d.before a0 Z = true := fun d hd => hw d ((by decide +kernel : ∀ d ∈ StrChars.Road.wordsLen, d ∈ tables_1) d hd)
theorem hch {a0 : Array Value} {Z : State} (hw : HW a0 Z) : ∀ d ∈ StrChars.Road.wordsChN, d.before a0 Z = true := fun d hd => hw d ((by decide +kernel : ∀ d ∈ StrChars.Road.wordsChN, d ∈ tables_1) d hd)
theorem heq {a0 : Array Value} {Z : State} (hw : HW a0 Z) : ∀ d ∈ StrChars.Road.wordsEq, d.before a0 Z = true := fun d hd => hw d ((by decide +kernel : ∀ d ∈ StrChars.Road.wordsEq, d ∈ tables_1) d hd)
theorem ew {a0 : Array Value} {Z : State} (hw : HW a0 Z) : EW Z a0 consts_1 := (EW.cons (w116 hw) (by decide) (EW.cons (w130 hw) (by decide) (EW.cons (w113 hw) (by decide) (EW.cons (w0 hw) (by decide) (EW.cons (w115 hw) (by decide) EW.nil)))))
theorem wS {a0 : Array Value} {Z : State} (hw : HW a0 Z) : ∀ a ∈ Bundle.stringAtoms, a.before a0 Z = true := fun d hd => hw d ((by decide +kernel : ∀ d ∈ Bundle.stringAtoms, d ∈ tables_1) d hd)
def cpf (m : Nat) (ks zs : List Int32) (k : Nat) : List Int32 := if k < m then zs.set k (ks.getD k 0) else zs
def cpn (m : Nat) (ks zs : List Int32) : Nat → List Int32
  | 0 => zs
  | i + 1 => cpf m ks (cpn m ks zs i) i
theorem cpn_len (m : Nat) (ks zs : List Int32) : ∀ i, (cpn m ks zs i).length = zs.length
  | 0 => rfl
  | i + 1 => by
    have e := cpn_len m ks zs i
    unfold cpn cpf
    split
    · rw [List.length_set]; exact e
    · exact e
theorem getD_lat {ks : List Int32} (q : Lat ks) (k : Nat) : ¬ ks.getD k 0 < 0 ∧ ¬ (255 : Int32) < ks.getD k 0 := by
  rw [List.getD_eq_getElem?_getD]
  cases h : ks[k]? with
  | none => simp
  | some y => exact q y (List.mem_of_getElem? h)
theorem chp_set {l : List Int32} {k : Nat} {ch : Int32} (q : ∀ c ∈ l, CHP c) (b : CHP ch) : ∀ c ∈ l.set k ch, CHP c := fun c hc => (List.mem_or_eq_of_mem_set hc).elim (q c) (fun e => e ▸ b)
theorem chp_snoc {a : List Int32} {ch : Int32} (q : ∀ c ∈ a, CHP c) (b : CHP ch) : ∀ c ∈ a ++ [ch], CHP c := fun c hc => (List.mem_append.mp hc).elim (q c) (fun e => (List.mem_singleton.mp e) ▸ b)
theorem kw_chp {l : List Int32} (q : ∀ c ∈ l, CHP c) (k : Nat) : CHP (l.getD k 0) := by
  rw [List.getD_eq_getElem?_getD]
  cases h : l[k]? with
  | none => exact ⟨by decide, by decide⟩
  | some y => exact q y (List.mem_of_getElem? h)
theorem wide_ne {ws kw : List Int32} (h : ∃ c ∈ ws, (255 : Int32) < c) (q : ∀ c ∈ kw, ¬ (255 : Int32) < c) : ¬ ws = kw := fun e => by
  obtain ⟨c, hc, hb⟩ := h
  exact q c (e ▸ hc) hb
theorem set_same {l : List Int32} {k : Nat} {og : Int32} (e : og = l.getD k 0) : l.set k og = l := by
  rw [e, List.getD_eq_getElem?_getD]
  refine List.ext_getElem? fun i => ?_
  rw [List.getElem?_set]
  split
  · rename_i h
    subst h
    split
    · rename_i h2
      rw [List.getElem?_eq_getElem h2]; rfl
    · rename_i h2
      rw [List.getElem?_eq_none (by omega)]
  · rfl
theorem set_ne {l : List Int32} {k : Nat} {og dr : Int32} (e : og = l.getD k 0) (h : ¬ dr = og) (hk : k < l.length) : ¬ l.set k dr = l := fun q => by
  have := congrArg (fun z => z[k]?) q
  simp only [List.getElem?_set_self hk, List.getElem?_eq_getElem hk] at this
  rw [List.getD_eq_getElem?_getD, List.getElem?_eq_getElem hk] at e
  exact h (by rw [e]; exact Option.some.inj this)
theorem len_ne {ws kw : List Int32} (h : ¬ ws.length = kw.length) : ¬ ws = kw := fun e => h (e ▸ rfl)
theorem eq_ref {args : Array Value} {s : State} {A B : Term} {y : Addr} (h : (Jvm.Cond.eq A B).value args s none s [] = some true) (eb : B.eval args s none [] s = some (.ref y)) : A.eval args s none [] s = some (.ref y) := by
  cases ha : A.eval args s none [] s with
  | none => simp [Cond.value, ha] at h
  | some x =>
    cases x <;> simp [Cond.value, ha, eb] at h
    rw [h]
theorem ary_of {args : Array Value} {s : State} {t : Term} {va : Addr} {ty : FieldType} {vs : List Value} {n : Int32} (ev : t.eval args s none [] s = some (.ref va)) (hA : (Jvm.Cond.arrayOf t ty).value args s none s [] = some true) (hL : (Jvm.Cond.eq (Term.length t) (Term.int n)).value args s none s [] = some true) (hn : n.toInt = (vs.length : Int)) (hs : vs.length ≤ 4000)
    (hE : ∀ (i : Nat) (v : Value), vs[i]? = some v → (Term.elem t (Term.int (Int32.ofNat i))).eval args s none [] s = some v) (hf : ∀ v ∈ vs, fits ty v = true) : Ary s s.heap va ty vs := by
  obtain ⟨c, A⟩ := Arr.start ev hA
  have hc := A.fin (Vm.Alike.refl _)
  obtain ⟨x, y, e1, e2, k1, k2⟩ := cmp_v (Or.inl hL)
  cases (Term.int_eval n).symm.trans e2
  obtain ⟨z, rfl⟩ := k2
  have hz := gotT (Cond.eq_ints e1 (Term.int_eval n)) hL
  subst hz
  have hl : c.slots.size = vs.length := by
    by_cases q : c.slots.size < 2 ^ 31
    · rw [len_f ev hc q] at e1
      have e3 := Value.int.inj (Option.some.inj e1)
      have e4 := congrArg Int32.toInt e3
      rw [len_toInt q, hn] at e4
      omega
    · exfalso
      rw [Term.eval] at e1
      simp [ev, hc, q] at e1
  refine ⟨c, A, ?_, by omega, hf⟩
  refine List.ext_getElem? fun i => ?_
  by_cases hi : i < vs.length
  · have e5 := hE i _ (List.getElem?_eq_getElem hi)
    have hi2 : (Int32.ofNat i).toInt = (i : Int) := ofNat_toInt (by omega)
    obtain ⟨q1, q2⟩ := clamp_of hi2
    rw [elem_f ev (Term.int_eval _) hc q1, q2] at e5
    rw [List.getElem?_eq_getElem hi, ← e5]; simp
  · rw [List.getElem?_eq_none (by simpa using by omega), List.getElem?_eq_none (by omega)]
def kw0 : List Int32 := [(65 : Int32), (103 : Int32), (101 : Int32), (110 : Int32), (116 : Int32)]
def kw1 : List Int32 := [(78 : Int32), (117 : Int32), (109 : Int32), (98 : Int32), (101 : Int32), (114 : Int32)]
def kw2 : List Int32 := [(83 : Int32), (121 : Int32), (109 : Int32), (109 : Int32), (101 : Int32), (116 : Int32), (114 : Int32), (105 : Int32), (99 : Int32), (75 : Int32), (101 : Int32), (121 : Int32)]
def kw3 : List Int32 := [(70 : Int32), (117 : Int32), (110 : Int32), (99 : Int32), (116 : Int32), (105 : Int32), (111 : Int32), (110 : Int32)]
theorem tail_eq {u e : Value} {ws : List Int32} {a0 a1 a2 a3 : Addr} (hu : ((u = .ref a0 ∧ ws = kw0) ∨ (u = .ref a1 ∧ ws = kw1) ∨ (u = .ref a2 ∧ ws = kw2) ∨ (u = .ref a3 ∧ ws = kw3) ∨ (u = .null ∧ ¬ ws = kw0 ∧ ¬ ws = kw1 ∧ ¬ ws = kw2 ∧ ¬ ws = kw3))) (hw : ((e = .null ∧ ¬ ws = kw0 ∧ ¬ ws = kw1 ∧ ¬ ws = kw2 ∧ ¬ ws = kw3) ∨ (e = .ref a0 ∧ ws = kw0) ∨ (e = .ref a1 ∧ ws = kw1) ∨ (e = .ref a2 ∧ ws = kw2) ∨ (e = .ref a3 ∧ ws = kw3))) : u = e := by
  rcases hu with ⟨rfl, h⟩ | ⟨rfl, h⟩ | ⟨rfl, h⟩ | ⟨rfl, h⟩ | ⟨rfl, n0, n1, n2, n3⟩ <;> rcases hw with ⟨rfl, m0, m1, m2, m3⟩ | ⟨rfl, g⟩ | ⟨rfl, g⟩ | ⟨rfl, g⟩ | ⟨rfl, g⟩ <;> first | rfl | exact absurd h (by assumption) | exact absurd g (by assumption) | exact absurd (h.symm.trans g) (by decide)
theorem flip0 {pk : Nat} (h : pk < 5) : ¬ ([(65 : Int32), (103 : Int32), (101 : Int32), (110 : Int32), (116 : Int32)].set pk (chr (([(65 : Int32), (103 : Int32), (101 : Int32), (110 : Int32), (116 : Int32)].getD pk 0) ^^^ (32 : Int32)))) = kw0 := (by decide +kernel : ∀ q : Fin 5, ¬ ([(65 : Int32), (103 : Int32), (101 : Int32), (110 : Int32), (116 : Int32)].set q.val (chr (([(65 : Int32), (103 : Int32), (101 : Int32), (110 : Int32), (116 : Int32)].getD q.val 0) ^^^ (32 : Int32)))) = kw0) ⟨pk, h⟩
theorem flip1 {pk : Nat} (h : pk < 6) : ¬ ([(78 : Int32), (117 : Int32), (109 : Int32), (98 : Int32), (101 : Int32), (114 : Int32)].set pk (chr (([(78 : Int32), (117 : Int32), (109 : Int32), (98 : Int32), (101 : Int32), (114 : Int32)].getD pk 0) ^^^ (32 : Int32)))) = kw1 := (by decide +kernel : ∀ q : Fin 6, ¬ ([(78 : Int32), (117 : Int32), (109 : Int32), (98 : Int32), (101 : Int32), (114 : Int32)].set q.val (chr (([(78 : Int32), (117 : Int32), (109 : Int32), (98 : Int32), (101 : Int32), (114 : Int32)].getD q.val 0) ^^^ (32 : Int32)))) = kw1) ⟨pk, h⟩
theorem flip2 {pk : Nat} (h : pk < 12) : ¬ ([(83 : Int32), (121 : Int32), (109 : Int32), (109 : Int32), (101 : Int32), (116 : Int32), (114 : Int32), (105 : Int32), (99 : Int32), (75 : Int32), (101 : Int32), (121 : Int32)].set pk (chr (([(83 : Int32), (121 : Int32), (109 : Int32), (109 : Int32), (101 : Int32), (116 : Int32), (114 : Int32), (105 : Int32), (99 : Int32), (75 : Int32), (101 : Int32), (121 : Int32)].getD pk 0) ^^^ (32 : Int32)))) = kw2 := (by decide +kernel : ∀ q : Fin 12, ¬ ([(83 : Int32), (121 : Int32), (109 : Int32), (109 : Int32), (101 : Int32), (116 : Int32), (114 : Int32), (105 : Int32), (99 : Int32), (75 : Int32), (101 : Int32), (121 : Int32)].set q.val (chr (([(83 : Int32), (121 : Int32), (109 : Int32), (109 : Int32), (101 : Int32), (116 : Int32), (114 : Int32), (105 : Int32), (99 : Int32), (75 : Int32), (101 : Int32), (121 : Int32)].getD q.val 0) ^^^ (32 : Int32)))) = kw2) ⟨pk, h⟩
theorem flip3 {pk : Nat} (h : pk < 8) : ¬ ([(70 : Int32), (117 : Int32), (110 : Int32), (99 : Int32), (116 : Int32), (105 : Int32), (111 : Int32), (110 : Int32)].set pk (chr (([(70 : Int32), (117 : Int32), (110 : Int32), (99 : Int32), (116 : Int32), (105 : Int32), (111 : Int32), (110 : Int32)].getD pk 0) ^^^ (32 : Int32)))) = kw3 := (by decide +kernel : ∀ q : Fin 8, ¬ ([(70 : Int32), (117 : Int32), (110 : Int32), (99 : Int32), (116 : Int32), (105 : Int32), (111 : Int32), (110 : Int32)].set q.val (chr (([(70 : Int32), (117 : Int32), (110 : Int32), (99 : Int32), (116 : Int32), (105 : Int32), (111 : Int32), (110 : Int32)].getD q.val 0) ^^^ (32 : Int32)))) = kw3) ⟨pk, h⟩
theorem sta_int {args : Array Value} {s : State} {C n d : String} {v : Int32} (hv : (Jvm.Cond.eq (Term.static C n d) (Term.int v)).value args s none s [] = some true) (hi : (Jvm.Cond.initializedFor C n d).before args s = true) : Sta s s.heap C n d (.int v) := by
  obtain ⟨x, y, e1, e2, k1, k2⟩ := cmp_v (Or.inl hv)
  cases (Term.int_eval v).symm.trans e2
  obtain ⟨z, rfl⟩ := k2
  have := gotT (Cond.eq_ints e1 (Term.int_eval v)) hv
  subst this
  exact Sta.start e1 (Or.inl hi)
abbrev G_putc0 (md : Md) (l : Launch) (Z : State) (n0 : Nat) (b : Addr) (c : Int32) (vs : List Value) (h0 : Heap) := Go md l Z n0 ({ frames := 0, cells := 0, slots := 0, locals := 0 } : Room) jdk_52_method_4_code 3 none "java/lang/StringUTF16" "putChar" (fun v h' _ => v = none ∧ Keep h0 h' [b] ∧ Ary Z h' b .byte ((vs.set 0 (.int (lo16 c))).set 1 (.int (hi16 c))))
theorem ef_putc0 (mid : MethodId) (b : Addr) (c : Int32) (vs : List Value)  : entryFrame mid #[(.ref b), (.int (0 : Int32)), (.int c)] 3 = mkF mid 0 #[.val (.ref b), .val (.int (0 : Int32)), .val (.int c)] [] := by first | (simp [entryFrame, mkF, argsToLocals, Value.category]; done) | rfl
set_option maxRecDepth 65536 in
set_option maxHeartbeats 40000000 in
theorem c_putc0 {md : Md} {l : Launch} {Z : State} {n0 : Nat} {a0 : Array Value} (hw : HW a0 Z) (b : Addr) (c : Int32) (vs : List Value) {h0 : Heap} (A : Ary Z h0 b .byte vs) (n0b : n0 ≤ b) (hl : 1 < vs.length) (UA : Sta Z Z.heap "java/lang/StringUTF16" "$assertionsDisabled" "Z" (.int 1)) (UH : Sta Z Z.heap "java/lang/StringUTF16" "HI_BYTE_SHIFT" "I" (.int 0)) (UL : Sta Z Z.heap "java/lang/StringUTF16" "LO_BYTE_SHIFT" "I" (.int 8))  : G_putc0 md l Z n0 b c vs h0 0 0 [b] h0 0 #[.val (.ref b), .val (.int (0 : Int32)), .val (.int c)] [] := by
  refine Go.getS 3 d28_0 rfl (w145 hw) Via.refl UA ?_
  refine Go.ifY 28 d28_3 (by decide) (by decide) (feq (by decide)).2 ?_
  refine Go.iloadN 29 d28_28 rfl rfl ?_
  refine Go.iconst 30 (1 : Int32) d28_29 rfl rfl ?_
  refine Go.ishl 31 d28_30 rfl ?_
  rw [show ((0 : Int32) <<< ((1 : Int32) &&& 31)) = (0 : Int32) from by decide]
  refine Go.istoreN 32 #[.val (.ref b), .val (.int (0 : Int32)), .val (.int c)] d28_31 rfl rfl ?_
  refine Go.aloadN 33 d28_32 rfl rfl rfl ?_
  refine Go.iloadN 34 d28_33 rfl rfl ?_
  refine Go.iinc 37 #[.val (.ref b), .val (.int ((0 : Int32) + (1 : Int32))), .val (.int c)] (1 : Int32) d28_34 rfl rfl rfl rfl ?_
  rw [show ((0 : Int32) + (1 : Int32)) = (1 : Int32) from by decide]
  refine Go.iloadN 38 d28_37 rfl rfl ?_
  refine Go.getS 41 d28_38 rfl (w146 hw) Via.refl UH ?_
  refine Go.ishr 42 d28_41 rfl ?_
  refine Go.i2b 43 d28_42 rfl ?_
  refine Go.bastore 0 44 d28_43 rfl A (by decide) (by first | omega | (simp; omega)) (List.mem_of_getElem? (i := 0) rfl) n0b (fun h_1 W_2 A_3 => ?_)
  have A_4 : Ary Z h_1 b .byte (vs.set 0 (.int (lo16 c))) := by have q_ := A_3; rw [i8_idem] at q_; exact q_
  refine Go.aloadN 45 d28_44 rfl rfl rfl ?_
  refine Go.iloadN 46 d28_45 rfl rfl ?_
  refine Go.iloadN 47 d28_46 rfl rfl ?_
  refine Go.getS 50 d28_47 rfl (w147 hw) Via.refl UL ?_
  refine Go.ishr 51 d28_50 rfl ?_
  refine Go.i2b 52 d28_51 rfl ?_
  refine Go.bastore 1 53 d28_52 rfl A_4 (by decide) (by first | omega | (simp; omega)) (List.mem_of_getElem? (i := 0) rfl) n0b (fun h_5 W_6 A_7 => ?_)
  have A_8 : Ary Z h_5 b .byte ((vs.set 0 (.int (lo16 c))).set 1 (.int (hi16 c))) := by have q_ := A_7; rw [i8_idem] at q_; exact q_
  exact Go.ret0 d28_53 rfl (sf' := []) (⟨rfl, (((Keep.refl h0 [b]).wr W_2 (Or.inl (List.mem_of_getElem? (i := 0) rfl))).wr W_6 (Or.inl (List.mem_of_getElem? (i := 0) rfl))), A_8⟩) (fun _ q => nomatch q) (Nat.le_of_ble_eq_true rfl) (Nat.le_of_ble_eq_true rfl)
abbrev G_getc0 (md : Md) (l : Launch) (Z : State) (n0 : Nat) (b : Addr) (x y : Int32) (vs : List Value) (h0 : Heap) := Go md l Z n0 ({ frames := 0, cells := 0, slots := 0, locals := 0 } : Room) jdk_52_method_5_code 2 (some .char) "java/lang/StringUTF16" "getChar" (fun v h' _ => h0 = h' ∧ v = some (.int (getc x y)))
theorem ef_getc0 (mid : MethodId) (b : Addr) (x y : Int32) (vs : List Value)  : entryFrame mid #[(.ref b), (.int (0 : Int32))] 2 = mkF mid 0 #[.val (.ref b), .val (.int (0 : Int32))] [] := by first | (simp [entryFrame, mkF, argsToLocals, Value.category]; done) | rfl
set_option maxRecDepth 65536 in
set_option maxHeartbeats 40000000 in
theorem c_getc0 {md : Md} {l : Launch} {Z : State} {n0 : Nat} {a0 : Array Value} (hw : HW a0 Z) (b : Addr) (x y : Int32) (vs : List Value) {h0 : Heap} (A : Ary Z h0 b .byte vs) (hx : vs[0]? = some (.int x)) (hy : vs[1]? = some (.int y)) (UA : Sta Z Z.heap "java/lang/StringUTF16" "$assertionsDisabled" "Z" (.int 1)) (UH : Sta Z Z.heap "java/lang/StringUTF16" "HI_BYTE_SHIFT" "I" (.int 0)) (UL : Sta Z Z.heap "java/lang/StringUTF16" "LO_BYTE_SHIFT" "I" (.int 8))  : G_getc0 md l Z n0 b x y vs h0 0 0 [] h0 0 #[.val (.ref b), .val (.int (0 : Int32))] [] := by
  refine Go.getS 3 d29_0 rfl (w145 hw) Via.refl UA ?_
  refine Go.ifY 28 d29_3 (by decide) (by decide) (feq (by decide)).2 ?_
  refine Go.iloadN 29 d29_28 rfl rfl ?_
  refine Go.iconst 30 (1 : Int32) d29_29 rfl rfl ?_
  refine Go.ishl 31 d29_30 rfl ?_
  rw [show ((0 : Int32) <<< ((1 : Int32) &&& 31)) = (0 : Int32) from by decide]
  refine Go.istoreN 32 #[.val (.ref b), .val (.int (0 : Int32))] d29_31 rfl rfl ?_
  refine Go.aloadN 33 d29_32 rfl rfl rfl ?_
  refine Go.iloadN 34 d29_33 rfl rfl ?_
  refine Go.iinc 37 #[.val (.ref b), .val (.int ((0 : Int32) + (1 : Int32)))] (1 : Int32) d29_34 rfl rfl rfl rfl ?_
  rw [show ((0 : Int32) + (1 : Int32)) = (1 : Int32) from by decide]
  refine Go.baload 0 38 d29_37 rfl A (by decide) hx ?_
  refine Go.sipush 41 (255 : Int32) d29_38 rfl rfl ?_
  refine Go.iand 42 d29_41 rfl ?_
  refine Go.getS 45 d29_42 rfl (w146 hw) Via.refl UH ?_
  refine Go.ishl 46 d29_45 rfl ?_
  refine Go.aloadN 47 d29_46 rfl rfl rfl ?_
  refine Go.iloadN 48 d29_47 rfl rfl ?_
  refine Go.baload 1 49 d29_48 rfl A (by decide) hy ?_
  refine Go.sipush 52 (255 : Int32) d29_49 rfl rfl ?_
  refine Go.iand 53 d29_52 rfl ?_
  refine Go.getS 56 d29_53 rfl (w147 hw) Via.refl UL ?_
  refine Go.ishl 57 d29_56 rfl ?_
  refine Go.ior 58 d29_57 rfl ?_
  refine Go.i2c 59 d29_58 rfl ?_
  exact Go.retN (getc x y) d29_59 rfl (t := .char) (by simp) (nar_cc (chp_chr _)) (sf' := []) (⟨rfl, rfl⟩) (fun _ q => nomatch q) (Nat.le_of_ble_eq_true rfl) (Nat.le_of_ble_eq_true rfl)
abbrev G_nbl1 (md : Md) (l : Launch) (Z : State) (n0 : Nat)  (h0 : Heap) := Go md l Z n0 ({ frames := 0, cells := 0, slots := 0, locals := 0 } : Room) jdk_52_method_3_code 1 (some .int) "java/lang/StringUTF16" "newBytesLength" (fun v h' _ => h0 = h' ∧ v = some (.int (2 : Int32)))
theorem ef_nbl1 (mid : MethodId)   : entryFrame mid #[(.int (1 : Int32))] 1 = mkF mid 0 #[.val (.int (1 : Int32))] [] := by first | (simp [entryFrame, mkF, argsToLocals, Value.category]; done) | rfl
set_option maxRecDepth 65536 in
set_option maxHeartbeats 40000000 in
theorem c_nbl1 {md : Md} {l : Launch} {Z : State} {n0 : Nat} {a0 : Array Value} (hw : HW a0 Z)  {h0 : Heap}  : G_nbl1 md l Z n0  h0 0 0 [] h0 0 #[.val (.int (1 : Int32))] [] := by
  refine Go.iloadN 1 d27_0 rfl rfl ?_
  refine Go.ifY 12 d27_1 (by decide) (by decide) (flt (by decide)).2.1 ?_
  refine Go.iloadN 13 d27_12 rfl rfl ?_
  refine Go.ldcI 15 d27_13 rfl (w141 hw) ?_
  refine Go.icmpY 55 d27_15 (by decide) (by decide) (tlt (by decide)).1 ?_
  refine Go.iloadN 56 d27_55 rfl rfl ?_
  refine Go.iconst 57 (1 : Int32) d27_56 rfl rfl ?_
  refine Go.ishl 58 d27_57 rfl ?_
  rw [show ((1 : Int32) <<< ((1 : Int32) &&& 31)) = (2 : Int32) from by decide]
  exact Go.retI d27_58 rfl (sf' := []) (⟨rfl, rfl⟩) (fun _ q => nomatch q) (Nat.le_of_ble_eq_true rfl) (Nat.le_of_ble_eq_true rfl)
abbrev G_nbf1 (md : Md) (l : Launch) (Z : State) (n0 : Nat)  (h0 : Heap) := Go md l Z n0 ({ frames := 1, cells := 1, slots := 2, locals := 12 } : Room) jdk_52_method_2_code 1 (some (.array .byte)) "java/lang/StringUTF16" "newBytesFor" (fun v h' sf' => ∃ x, v = some (.ref x) ∧ Ext h0 h' ∧ h0.size ≤ x ∧ Ary Z h' x .byte [(.int (0 : Int32)), (.int (0 : Int32))] ∧ sf' = [x] ∧ n0 ≤ x)
theorem ef_nbf1 (mid : MethodId)   : entryFrame mid #[(.int (1 : Int32))] 1 = mkF mid 0 #[.val (.int (1 : Int32))] [] := by first | (simp [entryFrame, mkF, argsToLocals, Value.category]; done) | rfl
set_option maxRecDepth 65536 in
set_option maxHeartbeats 40000000 in
theorem c_nbf1 {md : Md} {l : Launch} {Z : State} {n0 : Nat} {a0 : Array Value} (hw : HW a0 Z)  {h0 : Heap}  : G_nbf1 md l Z n0  h0 0 0 [] h0 0 #[.val (.int (1 : Int32))] [] := by
  refine Go.iloadN 1 d26_0 rfl rfl ?_
  refine Go.callS (S := []) 4 [(.int (1 : Int32))] d26_1 rfl rfl (w138 hw) (w139 hw) (w73 hw) (w140 hw) (by decide) (call_of_go (R := _) (len := 3) (W := 0) (plainFor_of_name pn_0) (fun mid => ef_nbl1 mid  ) (c_nbl1 hw  ) (w140 hw) (w73 hw) (by decide) (by decide)) (lenOf pd_0 rfl) (Nat.le_of_ble_eq_true rfl) rfl (Nat.le_of_ble_eq_true rfl) (Nat.le_of_ble_eq_true rfl) (fun _ q => nomatch q) (fun v h_1 sf_2 hq => ?_)
  obtain ⟨rfl, rfl⟩ := hq
  refine Go.more (sf' := []) ?_ (Nat.le_refl _) (Nat.le_refl _) (fun _ q => List.mem_append_right _ q)
  show G_nbf1 md l Z n0  h0 0 0 [] h0 4 #[.val (.int (1 : Int32))] [(.int (2 : Int32))]
  refine Go.newA 2 6 d26_4 rfl rfl (w3 hw) (by decide) 2 (Nat.le_refl _) (by decide) (Nat.le_of_ble_eq_true rfl) (Nat.le_of_ble_eq_true rfl) (fun h_3 x_4 g_5 q_6 E_7 lt_8 A_9 => ?_)
  have A_10 : Ary Z h_3 x_4 .byte [(.int (0 : Int32)), (.int (0 : Int32))] := A_9
  show G_nbf1 md l Z n0  h0 1 2 [x_4] h_3 6 #[.val (.int (1 : Int32))] [(.ref x_4)]
  exact Go.retA d26_6 rfl rfl rfl (sf' := [x_4]) (⟨_, rfl, E_7, (Nat.le_of_eq g_5), A_10, rfl, q_6⟩) (sub1 (List.mem_of_getElem? (i := 0) rfl)) (Nat.le_of_ble_eq_true rfl) (Nat.le_of_ble_eq_true rfl)
abbrev G_tob1 (md : Md) (l : Launch) (Z : State) (n0 : Nat) (b : Addr) (c0 : Int32) (h0 : Heap) := Go md l Z n0 ({ frames := 2, cells := 1, slots := 2, locals := 24 } : Room) jdk_52_method_14_code 5 (some (.array .byte)) "java/lang/StringUTF16" "toBytes" (fun v h' _ => ∃ x, v = some (.ref x) ∧ Ext h0 h' ∧ h0.size ≤ x ∧ Ary Z h' x .byte [(.int (lo16 c0)), (.int (hi16 c0))])
theorem ef_tob1 (mid : MethodId) (b : Addr) (c0 : Int32)  : entryFrame mid #[(.ref b), (.int (0 : Int32)), (.int (1 : Int32))] 5 = mkF mid 0 #[.val (.ref b), .val (.int (0 : Int32)), .val (.int (1 : Int32)), .unset, .unset] [] := by first | (simp [entryFrame, mkF, argsToLocals, Value.category]; done) | rfl
set_option maxRecDepth 65536 in
set_option maxHeartbeats 40000000 in
theorem c_tob1 {md : Md} {l : Launch} {Z : State} {n0 : Nat} {a0 : Array Value} (hw : HW a0 Z) (b : Addr) (c0 : Int32) {h0 : Heap} (A : Ary Z h0 b .char [(.int c0)]) (UA : Sta Z Z.heap "java/lang/StringUTF16" "$assertionsDisabled" "Z" (.int 1)) (UH : Sta Z Z.heap "java/lang/StringUTF16" "HI_BYTE_SHIFT" "I" (.int 0)) (UL : Sta Z Z.heap "java/lang/StringUTF16" "LO_BYTE_SHIFT" "I" (.int 8))  : G_tob1 md l Z n0 b c0 h0 0 0 [] h0 0 #[.val (.ref b), .val (.int (0 : Int32)), .val (.int (1 : Int32)), .unset, .unset] [] := by
  refine Go.iloadN 1 d25_0 rfl rfl ?_
  refine Go.callS (S := []) 4 [(.int (1 : Int32))] d25_1 rfl rfl (w135 hw) (w136 hw) (w73 hw) (w137 hw) (by decide) (call_of_go (R := _) (len := 3) (W := 0) (plainFor_of_name pn_0) (fun mid => ef_nbf1 mid  ) (c_nbf1 hw  ) (w137 hw) (w73 hw) (by decide) (by decide)) (lenOf pd_1 rfl) (Nat.le_of_ble_eq_true rfl) rfl (Nat.le_of_ble_eq_true rfl) (Nat.le_of_ble_eq_true rfl) (fun _ q => nomatch q) (fun v h_1 sf_2 hq => ?_)
  obtain ⟨d, rfl, X_d, le_d, A_d, rfl, n0d⟩ := hq
  have nd : d ≠ b := Nat.ne_of_gt (Nat.lt_of_lt_of_le A.lt le_d)
  show G_tob1 md l Z n0 b c0 h0 1 2 [d] h_1 4 #[.val (.ref b), .val (.int (0 : Int32)), .val (.int (1 : Int32)), .unset, .unset] [(.ref d)]
  refine Go.astoreN 5 #[.val (.ref b), .val (.int (0 : Int32)), .val (.int (1 : Int32)), .val (.ref d), .unset] d25_4 rfl rfl rfl ?_
  refine Go.iconst 6 (0 : Int32) d25_5 rfl rfl ?_
  refine Go.istore 8 #[.val (.ref b), .val (.int (0 : Int32)), .val (.int (1 : Int32)), .val (.ref d), .val (.int (0 : Int32))] d25_6 rfl rfl ?_
  refine Go.iload 10 d25_8 rfl rfl ?_
  refine Go.iloadN 11 d25_10 rfl rfl ?_
  refine Go.icmpN 14 d25_11 rfl (tlt (by decide)).2.1 ?_
  refine Go.aloadN 15 d25_14 rfl rfl rfl ?_
  refine Go.iload 17 d25_15 rfl rfl ?_
  refine Go.aloadN 18 d25_17 rfl rfl rfl ?_
  refine Go.iloadN 19 d25_18 rfl rfl ?_
  have f_3 := A.ext X_d
  refine Go.caload 0 20 d25_19 rfl f_3 (by decide) rfl ?_
  refine Go.callS (S := []) 23 [(.ref d), (.int (0 : Int32)), (.int c0)] d25_20 rfl rfl (w142 hw) (w143 hw) (w73 hw) (w144 hw) (by decide) (call_of_go (R := _) (len := 3) (W := 0) (plainFor_of_name pn_0) (fun mid => ef_putc0 mid d c0 [(.int (0 : Int32)), (.int (0 : Int32))] ) (c_putc0 hw d c0 [(.int (0 : Int32)), (.int (0 : Int32))] A_d n0d (Nat.le_of_ble_eq_true rfl) UA UH UL) (w144 hw) (w73 hw) (by decide) (by decide)) (lenOf pd_2 rfl) (Nat.le_of_ble_eq_true rfl) rfl (Nat.le_of_ble_eq_true rfl) (Nat.le_of_ble_eq_true rfl) (fun _ q => q) (fun v h_7 sf_8 hq => ?_)
  obtain ⟨rfl, K_4, A_5⟩ := hq
  have A_6 : Ary Z h_7 d .byte [(.int (lo16 c0)), (.int (hi16 c0))] := A_5
  refine Go.more (sf' := [d]) ?_ (Nat.le_refl _) (Nat.le_refl _) (fun _ q => List.mem_append_right _ q)
  show G_tob1 md l Z n0 b c0 h0 1 2 [d] h_7 23 #[.val (.ref b), .val (.int (0 : Int32)), .val (.int (1 : Int32)), .val (.ref d), .val (.int (0 : Int32))] []
  refine Go.iinc 26 #[.val (.ref b), .val (.int ((0 : Int32) + (1 : Int32))), .val (.int (1 : Int32)), .val (.ref d), .val (.int (0 : Int32))] (1 : Int32) d25_23 rfl rfl rfl rfl ?_
  rw [show ((0 : Int32) + (1 : Int32)) = (1 : Int32) from by decide]
  refine Go.iinc 29 #[.val (.ref b), .val (.int (1 : Int32)), .val (.int (1 : Int32)), .val (.ref d), .val (.int ((0 : Int32) + (1 : Int32)))] (1 : Int32) d25_26 rfl rfl rfl rfl ?_
  rw [show ((0 : Int32) + (1 : Int32)) = (1 : Int32) from by decide]
  refine Go.goto 8 d25_29 (by decide) (by decide) ?_
  refine Go.iload 10 d25_8 rfl rfl ?_
  refine Go.iloadN 11 d25_10 rfl rfl ?_
  refine Go.icmpY 32 d25_11 (by decide) (by decide) (flt (by decide)).2.1 ?_
  refine Go.aloadN 33 d25_32 rfl rfl rfl ?_
  have X_9 : Ext h0 h_7 := extK X_d K_4 (allS le_d all0)
  exact Go.retA d25_33 rfl rfl rfl (sf' := []) (⟨_, rfl, X_9, le_d, A_6⟩) (fun _ q => nomatch q) (Nat.le_of_ble_eq_true rfl) (Nat.le_of_ble_eq_true rfl)
abbrev G_cmp5_1 (md : Md) (l : Launch) (Z : State) (n0 : Nat) (b d : Addr) (c0 : Int32) (h0 : Heap) := Go md l Z n0 ({ frames := 0, cells := 0, slots := 0, locals := 0 } : Room) jdk_52_method_21_code 7 (some .int) "java/lang/StringUTF16" "compress" (fun v h' _ => ∃ r : Int32, v = some (.int r) ∧ Keep h0 h' [d] ∧ ((r = (1 : Int32) ∧ (¬ (255 : Int32) < c0) ∧ Ary Z h' d .byte [(.int c0.toInt8.toInt32)]) ∨ (r = (0 : Int32) ∧ (255 : Int32) < c0)))
theorem ef_cmp5_1 (mid : MethodId) (b d : Addr) (c0 : Int32)  : entryFrame mid #[(.ref b), (.int (0 : Int32)), (.ref d), (.int (0 : Int32)), (.int (1 : Int32))] 7 = mkF mid 0 #[.val (.ref b), .val (.int (0 : Int32)), .val (.ref d), .val (.int (0 : Int32)), .val (.int (1 : Int32)), .unset, .unset] [] := by first | (simp [entryFrame, mkF, argsToLocals, Value.category]; done) | rfl
set_option maxRecDepth 65536 in
set_option maxHeartbeats 40000000 in
theorem c_cmp5_1 {md : Md} {l : Launch} {Z : State} {n0 : Nat} {a0 : Array Value} (hw : HW a0 Z) (b d : Addr) (c0 : Int32) {h0 : Heap} (A : Ary Z h0 b .char [(.int c0)]) (D : Ary Z h0 d .byte [(.int (0 : Int32))]) (n0d : n0 ≤ d) (nbd : b ≠ d) : G_cmp5_1 md l Z n0 b d c0 h0 0 0 [d] h0 0 #[.val (.ref b), .val (.int (0 : Int32)), .val (.ref d), .val (.int (0 : Int32)), .val (.int (1 : Int32)), .unset, .unset] [] := by
  refine Go.iconst 1 (0 : Int32) d15_0 rfl rfl ?_
  refine Go.istore 3 #[.val (.ref b), .val (.int (0 : Int32)), .val (.ref d), .val (.int (0 : Int32)), .val (.int (1 : Int32)), .val (.int (0 : Int32)), .unset] d15_1 rfl rfl ?_
  refine Go.iload 5 d15_3 rfl rfl ?_
  refine Go.iload 7 d15_5 rfl rfl ?_
  refine Go.icmpN 10 d15_7 rfl (tlt (by decide)).2.1 ?_
  refine Go.aloadN 11 d15_10 rfl rfl rfl ?_
  refine Go.iloadN 12 d15_11 rfl rfl ?_
  refine Go.caload 0 13 d15_12 rfl A (by decide) rfl ?_
  refine Go.istore 15 #[.val (.ref b), .val (.int (0 : Int32)), .val (.ref d), .val (.int (0 : Int32)), .val (.int (1 : Int32)), .val (.int (0 : Int32)), .val (.int c0)] d15_13 rfl rfl ?_
  refine Go.iload 17 d15_15 rfl rfl ?_
  refine Go.sipush 20 (255 : Int32) d15_17 rfl rfl ?_
  by_cases hb_0 : (255 : Int32) < c0
  · skip
    refine Go.icmpN 23 d15_20 rfl (tlt hb_0).2.2.2 ?_
    refine Go.iload 25 d15_23 rfl rfl ?_
    exact Go.retI d15_25 rfl (sf' := []) (⟨_, rfl, (Keep.refl h0 [d]), Or.inr (⟨rfl, hb_0⟩)⟩) (fun _ q => nomatch q) (Nat.le_of_ble_eq_true rfl) (Nat.le_of_ble_eq_true rfl)
  · skip
    refine Go.icmpY 26 d15_20 (by decide) (by decide) (flt hb_0).2.2.2 ?_
    refine Go.aloadN 27 d15_26 rfl rfl rfl ?_
    refine Go.iloadN 28 d15_27 rfl rfl ?_
    refine Go.iload 30 d15_28 rfl rfl ?_
    refine Go.i2b 31 d15_30 rfl ?_
    refine Go.bastore 0 32 d15_31 rfl D (by decide) (Nat.le_of_ble_eq_true rfl) (List.mem_of_getElem? (i := 0) rfl) n0d (fun h_1 W_2 A_3 => ?_)
    have A_4 : Ary Z h_1 d .byte [(.int (c0).toInt8.toInt32)] := by have := A_3; rw [i8_idem _] at this; exact this
    refine Go.iinc 35 #[.val (.ref b), .val (.int ((0 : Int32) + (1 : Int32))), .val (.ref d), .val (.int (0 : Int32)), .val (.int (1 : Int32)), .val (.int (0 : Int32)), .val (.int c0)] (1 : Int32) d15_32 rfl rfl rfl rfl ?_
    rw [show ((0 : Int32) + (1 : Int32)) = (1 : Int32) from by decide]
    refine Go.iinc 38 #[.val (.ref b), .val (.int (1 : Int32)), .val (.ref d), .val (.int ((0 : Int32) + (1 : Int32))), .val (.int (1 : Int32)), .val (.int (0 : Int32)), .val (.int c0)] (1 : Int32) d15_35 rfl rfl rfl rfl ?_
    rw [show ((0 : Int32) + (1 : Int32)) = (1 : Int32) from by decide]
    refine Go.iinc 41 #[.val (.ref b), .val (.int (1 : Int32)), .val (.ref d), .val (.int (1 : Int32)), .val (.int (1 : Int32)), .val (.int ((0 : Int32) + (1 : Int32))), .val (.int c0)] (1 : Int32) d15_38 rfl rfl rfl rfl ?_
    rw [show ((0 : Int32) + (1 : Int32)) = (1 : Int32) from by decide]
    refine Go.goto 3 d15_41 (by decide) (by decide) ?_
    refine Go.iload 5 d15_3 rfl rfl ?_
    refine Go.iload 7 d15_5 rfl rfl ?_
    refine Go.icmpY 44 d15_7 (by decide) (by decide) (flt (by decide)).2.1 ?_
    refine Go.iload 46 d15_44 rfl rfl ?_
    exact Go.retI d15_46 rfl (sf' := []) (⟨_, rfl, ((Keep.refl h0 [d]).wr W_2 (Or.inl (List.mem_of_getElem? (i := 0) rfl))), Or.inl ⟨rfl, hb_0, A_4⟩⟩) (fun _ q => nomatch q) (Nat.le_of_ble_eq_true rfl) (Nat.le_of_ble_eq_true rfl)
abbrev G_cmp3_1 (md : Md) (l : Launch) (Z : State) (n0 : Nat) (b : Addr) (c0 : Int32) (h0 : Heap) := Go md l Z n0 ({ frames := 3, cells := 2, slots := 3, locals := 40 } : Room) jdk_52_method_16_code 6 (some (.array .byte)) "java/lang/StringUTF16" "compress" (fun v h' _ => ∃ x, v = some (.ref x) ∧ Ext h0 h' ∧ h0.size ≤ x ∧ (((¬ (255 : Int32) < c0) ∧ Ary Z h' x .byte [(.int c0.toInt8.toInt32)]) ∨ (((255 : Int32) < c0) ∧ Ary Z h' x .byte [(.int (lo16 c0)), (.int (hi16 c0))])))
theorem ef_cmp3_1 (mid : MethodId) (b : Addr) (c0 : Int32)  : entryFrame mid #[(.ref b), (.int (0 : Int32)), (.int (1 : Int32))] 6 = mkF mid 0 #[.val (.ref b), .val (.int (0 : Int32)), .val (.int (1 : Int32)), .unset, .unset, .unset] [] := by first | (simp [entryFrame, mkF, argsToLocals, Value.category]; done) | rfl
set_option maxRecDepth 65536 in
set_option maxHeartbeats 40000000 in
theorem c_cmp3_1 {md : Md} {l : Launch} {Z : State} {n0 : Nat} {a0 : Array Value} (hw : HW a0 Z) (b : Addr) (c0 : Int32) {h0 : Heap} (A : Ary Z h0 b .char [(.int c0)]) (b_c0 : CHP c0) (UA : Sta Z Z.heap "java/lang/StringUTF16" "$assertionsDisabled" "Z" (.int 1)) (UH : Sta Z Z.heap "java/lang/StringUTF16" "HI_BYTE_SHIFT" "I" (.int 0)) (UL : Sta Z Z.heap "java/lang/StringUTF16" "LO_BYTE_SHIFT" "I" (.int 8))  : G_cmp3_1 md l Z n0 b c0 h0 0 0 [] h0 0 #[.val (.ref b), .val (.int (0 : Int32)), .val (.int (1 : Int32)), .unset, .unset, .unset] [] := by
  refine Go.iloadN 1 d14_0 rfl rfl ?_
  refine Go.newA 1 3 d14_1 rfl rfl (w3 hw) (by decide) 1 (Nat.le_refl _) (by decide) (Nat.le_of_ble_eq_true rfl) (Nat.le_of_ble_eq_true rfl) (fun h_1 x_2 g_3 q_4 E_5 lt_6 A_7 => ?_)
  have A_8 : Ary Z h_1 x_2 .byte [(.int (0 : Int32))] := A_7
  show G_cmp3_1 md l Z n0 b c0 h0 1 1 [x_2] h_1 3 #[.val (.ref b), .val (.int (0 : Int32)), .val (.int (1 : Int32)), .unset, .unset, .unset] [(.ref x_2)]
  refine Go.astoreN 4 #[.val (.ref b), .val (.int (0 : Int32)), .val (.int (1 : Int32)), .val (.ref x_2), .unset, .unset] d14_3 rfl rfl rfl ?_
  refine Go.aloadN 5 d14_4 rfl rfl rfl ?_
  refine Go.iloadN 6 d14_5 rfl rfl ?_
  refine Go.aloadN 7 d14_6 rfl rfl rfl ?_
  refine Go.iconst 8 (0 : Int32) d14_7 rfl rfl ?_
  refine Go.iloadN 9 d14_8 rfl rfl ?_
  have f_9 := A.ext E_5
  have nbd : b ≠ x_2 := Nat.ne_of_lt (Nat.lt_of_lt_of_le A.lt (Nat.le_of_eq g_3))
  refine Go.callS (S := []) 12 [(.ref b), (.int (0 : Int32)), (.ref x_2), (.int (0 : Int32)), (.int (1 : Int32))] d14_9 rfl rfl (w75 hw) (w76 hw) (w73 hw) (w77 hw) (by decide) (call_of_go (R := _) (len := 3) (W := 0) (plainFor_of_name pn_0) (fun mid => ef_cmp5_1 mid b x_2 c0 ) (c_cmp5_1 hw b x_2 c0 f_9 A_8 q_4 nbd) (w77 hw) (w73 hw) (by decide) (by decide)) (lenOf pd_3 rfl) (Nat.le_of_ble_eq_true rfl) rfl (Nat.le_of_ble_eq_true rfl) (Nat.le_of_ble_eq_true rfl) (fun _ q => q) (fun v h_10 sf_11 hq => ?_)
  obtain ⟨r, rfl, K5, ⟨rfl, hlat, D5⟩ | ⟨rfl, hbig⟩⟩ := hq
  · skip
    refine Go.more (sf' := [x_2]) ?_ (Nat.le_refl _) (Nat.le_refl _) (fun _ q => List.mem_append_right _ q)
    show G_cmp3_1 md l Z n0 b c0 h0 1 1 [x_2] h_10 12 #[.val (.ref b), .val (.int (0 : Int32)), .val (.int (1 : Int32)), .val (.ref x_2), .unset, .unset] [(.int (1 : Int32))]
    refine Go.istore 14 #[.val (.ref b), .val (.int (0 : Int32)), .val (.int (1 : Int32)), .val (.ref x_2), .val (.int (1 : Int32)), .unset] d14_12 rfl rfl ?_
    refine Go.iload 16 d14_14 rfl rfl ?_
    refine Go.iloadN 17 d14_16 rfl rfl ?_
    refine Go.icmpY 57 d14_17 (by decide) (by decide) (teq (by decide)).1 ?_
    refine Go.aloadN 58 d14_57 rfl rfl rfl ?_
    have X_12 : Ext h0 h_10 := extK E_5 K5 (allS (Nat.le_of_eq g_3) all0)
    exact Go.retA d14_58 rfl rfl rfl (sf' := []) (⟨_, rfl, X_12, (Nat.le_of_eq g_3), Or.inl ⟨hlat, D5⟩⟩) (fun _ q => nomatch q) (Nat.le_of_ble_eq_true rfl) (Nat.le_of_ble_eq_true rfl)
  · skip
    refine Go.more (sf' := [x_2]) ?_ (Nat.le_refl _) (Nat.le_refl _) (fun _ q => List.mem_append_right _ q)
    show G_cmp3_1 md l Z n0 b c0 h0 1 1 [x_2] h_10 12 #[.val (.ref b), .val (.int (0 : Int32)), .val (.int (1 : Int32)), .val (.ref x_2), .unset, .unset] [(.int (0 : Int32))]
    refine Go.istore 14 #[.val (.ref b), .val (.int (0 : Int32)), .val (.int (1 : Int32)), .val (.ref x_2), .val (.int (0 : Int32)), .unset] d14_12 rfl rfl ?_
    refine Go.iload 16 d14_14 rfl rfl ?_
    refine Go.iloadN 17 d14_16 rfl rfl ?_
    refine Go.icmpN 20 d14_17 rfl (feq (by decide)).1 ?_
    refine Go.aloadN 21 d14_20 rfl rfl rfl ?_
    refine Go.iloadN 22 d14_21 rfl rfl ?_
    refine Go.iloadN 23 d14_22 rfl rfl ?_
    have X_13 : Ext h0 h_10 := extK E_5 K5 (allS (Nat.le_of_eq g_3) all0)
    have f_14 := A.ext X_13
    refine Go.callS (S := []) 26 [(.ref b), (.int (0 : Int32)), (.int (1 : Int32))] d14_23 rfl rfl (w132 hw) (w133 hw) (w73 hw) (w134 hw) (by decide) (call_of_go (R := _) (len := 3) (W := 0) (plainFor_of_name pn_0) (fun mid => ef_tob1 mid b c0 ) (c_tob1 hw b c0 f_14 UA UH UL) (w134 hw) (w73 hw) (by decide) (by decide)) (lenOf pd_4 rfl) (Nat.le_of_ble_eq_true rfl) rfl (Nat.le_of_ble_eq_true rfl) (Nat.le_of_ble_eq_true rfl) (fun _ q => nomatch q) (fun v h_15 sf_20 hq => ?_)
    obtain ⟨x_16, rfl, E_17, le_18, A_19⟩ := hq
    refine Go.more (sf' := [x_2]) ?_ (Nat.le_refl _) (Nat.le_refl _) (fun _ q => List.mem_append_right _ q)
    show G_cmp3_1 md l Z n0 b c0 h0 2 3 [x_2] h_15 26 #[.val (.ref b), .val (.int (0 : Int32)), .val (.int (1 : Int32)), .val (.ref x_2), .val (.int (0 : Int32)), .unset] [(.ref x_16)]
    refine Go.astore 28 #[.val (.ref b), .val (.int (0 : Int32)), .val (.int (1 : Int32)), .val (.ref x_2), .val (.int (0 : Int32)), .val (.ref x_16)] d14_26 rfl rfl rfl ?_
    refine Go.aload 30 d14_28 rfl rfl rfl ?_
    refine Go.iload 32 d14_30 rfl rfl ?_
    refine Go.callS (S := []) 35 [(.ref x_16), (.int (0 : Int32))] d14_32 rfl rfl (w148 hw) (w149 hw) (w73 hw) (w150 hw) (by decide) (call_of_go (R := _) (len := 3) (W := 0) (plainFor_of_name pn_0) (fun mid => ef_getc0 mid x_16 (lo16 c0) (hi16 c0) [(.int (lo16 c0)), (.int (hi16 c0))] ) (c_getc0 hw x_16 (lo16 c0) (hi16 c0) [(.int (lo16 c0)), (.int (hi16 c0))] A_19 rfl rfl UA UH UL) (w150 hw) (w73 hw) (by decide) (by decide)) (lenOf pd_5 rfl) (Nat.le_of_ble_eq_true rfl) rfl (Nat.le_of_ble_eq_true rfl) (Nat.le_of_ble_eq_true rfl) (fun _ q => nomatch q) (fun v h_21 sf_22 hq => ?_)
    obtain ⟨rfl, rfl⟩ := hq
    rw [rt16 b_c0]
    refine Go.more (sf' := [x_2]) ?_ (Nat.le_refl _) (Nat.le_refl _) (fun _ q => List.mem_append_right _ q)
    show G_cmp3_1 md l Z n0 b c0 h0 2 3 [x_2] h_15 35 #[.val (.ref b), .val (.int (0 : Int32)), .val (.int (1 : Int32)), .val (.ref x_2), .val (.int (0 : Int32)), .val (.ref x_16)] [(.int c0)]
    refine Go.sipush 38 (255 : Int32) d14_35 rfl rfl ?_
    refine Go.icmpY 54 d14_38 (by decide) (by decide) (tlt hbig).2.2.1 ?_
    refine Go.aload 56 d14_54 rfl rfl rfl ?_
    have X_23 : Ext h0 h_15 := extT X_13 E_17
    exact Go.retA d14_56 rfl rfl rfl (sf' := []) (⟨_, rfl, X_23, (Nat.le_trans X_13.1 le_18), Or.inr ⟨hbig, A_19⟩⟩) (fun _ q => nomatch q) (Nat.le_of_ble_eq_true rfl) (Nat.le_of_ble_eq_true rfl)
abbrev G_cfl1_0 (md : Md) (l : Launch) (Z : State) (n0 : Nat) (d : Addr) (vs : List Value) (h0 : Heap) := Go md l Z n0 ({ frames := 0, cells := 0, slots := 0, locals := 0 } : Room) jdk_52_method_15_code 2 (some .byte) "java/lang/StringUTF16" "coderFromArrayLen" (fun v h' _ => h0 = h' ∧ v = some (.int 0))
theorem ef_cfl1_0 (mid : MethodId) (d : Addr) (vs : List Value)  : entryFrame mid #[(.ref d), (.int (1 : Int32))] 2 = mkF mid 0 #[.val (.ref d), .val (.int (1 : Int32))] [] := by first | (simp [entryFrame, mkF, argsToLocals, Value.category]; done) | rfl
set_option maxRecDepth 65536 in
set_option maxHeartbeats 40000000 in
theorem c_cfl1_0 {md : Md} {l : Launch} {Z : State} {n0 : Nat} {a0 : Array Value} (hw : HW a0 Z) (d : Addr) (vs : List Value) {h0 : Heap} (A : Ary Z h0 d .byte vs) (hl : vs.length = 1) : G_cfl1_0 md l Z n0 d vs h0 0 0 [] h0 0 #[.val (.ref d), .val (.int (1 : Int32))] [] := by
  refine Go.iloadN 1 d16_0 rfl rfl ?_
  refine Go.aloadN 2 d16_1 rfl rfl rfl ?_
  refine Go.alen 3 (1 : Int32) d16_2 rfl A (by rw [hl]; rfl) ?_
  refine Go.isub 4 d16_3 rfl ?_
  rw [show ((1 : Int32) - (1 : Int32)) = (0 : Int32) from by decide]
  refine Go.bipush 6 (31 : Int32) d16_4 rfl rfl ?_
  refine Go.iushr 7 d16_6 rfl ?_
  refine Go.i2b 8 d16_7 rfl ?_
  exact Go.retN (0 : Int32) d16_8 rfl (t := .byte) (by simp) (by decide) (sf' := []) (⟨rfl, rfl⟩) (fun _ q => nomatch q) (Nat.le_of_ble_eq_true rfl) (Nat.le_of_ble_eq_true rfl)
abbrev G_cfl1_1 (md : Md) (l : Launch) (Z : State) (n0 : Nat) (d : Addr) (vs : List Value) (h0 : Heap) := Go md l Z n0 ({ frames := 0, cells := 0, slots := 0, locals := 0 } : Room) jdk_52_method_15_code 2 (some .byte) "java/lang/StringUTF16" "coderFromArrayLen" (fun v h' _ => h0 = h' ∧ v = some (.int 1))
theorem ef_cfl1_1 (mid : MethodId) (d : Addr) (vs : List Value)  : entryFrame mid #[(.ref d), (.int (1 : Int32))] 2 = mkF mid 0 #[.val (.ref d), .val (.int (1 : Int32))] [] := by first | (simp [entryFrame, mkF, argsToLocals, Value.category]; done) | rfl
set_option maxRecDepth 65536 in
set_option maxHeartbeats 40000000 in
theorem c_cfl1_1 {md : Md} {l : Launch} {Z : State} {n0 : Nat} {a0 : Array Value} (hw : HW a0 Z) (d : Addr) (vs : List Value) {h0 : Heap} (A : Ary Z h0 d .byte vs) (hl : vs.length = 2) : G_cfl1_1 md l Z n0 d vs h0 0 0 [] h0 0 #[.val (.ref d), .val (.int (1 : Int32))] [] := by
  refine Go.iloadN 1 d16_0 rfl rfl ?_
  refine Go.aloadN 2 d16_1 rfl rfl rfl ?_
  refine Go.alen 3 (2 : Int32) d16_2 rfl A (by rw [hl]; rfl) ?_
  refine Go.isub 4 d16_3 rfl ?_
  rw [show ((1 : Int32) - (2 : Int32)) = (-1 : Int32) from by decide]
  refine Go.bipush 6 (31 : Int32) d16_4 rfl rfl ?_
  refine Go.iushr 7 d16_6 rfl ?_
  refine Go.i2b 8 d16_7 rfl ?_
  exact Go.retN (1 : Int32) d16_8 rfl (t := .byte) (by simp) (by decide) (sf' := []) (⟨rfl, rfl⟩) (fun _ q => nomatch q) (Nat.le_of_ble_eq_true rfl) (Nat.le_of_ble_eq_true rfl)
abbrev G_new4_1 (md : Md) (l : Launch) (Z : State) (n0 : Nat) (x b : Addr) (z : Int32) (c0 : Int32) (h0 : Heap) := Go md l Z n0 ({ frames := 4, cells := 2, slots := 3, locals := 57 } : Room) jdk_42_method_149_code 6 none "java/lang/String" "<init>" (fun v h' _ => v = none ∧ Keep h0 h' [x] ∧ Gst Z h' x [c0])
theorem ef_new4_1 (mid : MethodId) (x b : Addr) (z : Int32) (c0 : Int32)  : entryFrame mid #[(.ref x), (.ref b), (.int (0 : Int32)), (.int (1 : Int32)), .null] 6 = mkF mid 0 #[.val (.ref x), .val (.ref b), .val (.int (0 : Int32)), .val (.int (1 : Int32)), .val .null, .unset] [] := by first | (simp [entryFrame, mkF, argsToLocals, Value.category]; done) | rfl
set_option maxRecDepth 65536 in
set_option maxHeartbeats 40000000 in
theorem c_new4_1 {md : Md} {l : Launch} {Z : State} {n0 : Nat} {a0 : Array Value} (hw : HW a0 Z) (x b : Addr) (z : Int32) (c0 : Int32) {h0 : Heap} (E : Exa Z h0 x "java/lang/String") (n0x : n0 ≤ x) {v0 c0_ : Value} (V : Fld Z h0 x "java/lang/String" "value" "[B" v0) (C : Fld Z h0 x "java/lang/String" "coder" "B" c0_) (A : Ary Z h0 b .char [(.int c0)]) (b_c0 : CHP c0) (SC : Sta Z Z.heap "java/lang/String" "COMPACT_STRINGS" "Z" (.int z)) (hz : ¬ z = 0) (UA : Sta Z Z.heap "java/lang/StringUTF16" "$assertionsDisabled" "Z" (.int 1)) (UH : Sta Z Z.heap "java/lang/StringUTF16" "HI_BYTE_SHIFT" "I" (.int 0)) (UL : Sta Z Z.heap "java/lang/StringUTF16" "LO_BYTE_SHIFT" "I" (.int 8))  : G_new4_1 md l Z n0 x b z c0 h0 0 0 [x] h0 0 #[.val (.ref x), .val (.ref b), .val (.int (0 : Int32)), .val (.int (1 : Int32)), .val .null, .unset] [] := by
  refine Go.aloadN 1 d12_0 rfl rfl rfl ?_
  refine Go.initO (W := 0) 4 d12_1 rfl (w68 hw) (w69 hw) (w70 hw) rfl (by decide) (Nat.le_of_ble_eq_true rfl) (by decide) ?_
  refine Go.iloadN 5 d12_4 rfl rfl ?_
  refine Go.ifY 27 d12_5 (by decide) (by decide) (feq (by decide)).2 ?_
  refine Go.getS 30 d12_27 rfl (w22 hw) Via.refl SC ?_
  refine Go.ifN 33 d12_30 rfl (feq hz).1 ?_
  refine Go.aloadN 34 d12_33 rfl rfl rfl ?_
  refine Go.iloadN 35 d12_34 rfl rfl ?_
  refine Go.iloadN 36 d12_35 rfl rfl ?_
  refine Go.callS (S := []) 39 [(.ref b), (.int (0 : Int32)), (.int (1 : Int32))] d12_36 rfl rfl (w71 hw) (w72 hw) (w73 hw) (w74 hw) (by decide) (call_of_go (R := _) (len := 3) (W := 0) (plainFor_of_name pn_0) (fun mid => ef_cmp3_1 mid b c0 ) (c_cmp3_1 hw b c0 A b_c0 UA UH UL) (w74 hw) (w73 hw) (by decide) (by decide)) (lenOf pd_4 rfl) (Nat.le_of_ble_eq_true rfl) rfl (Nat.le_of_ble_eq_true rfl) (Nat.le_of_ble_eq_true rfl) (fun _ q => nomatch q) (fun v h_1 sf_2 hq => ?_)
  obtain ⟨y, rfl, X3, le3, ⟨hlat, A3⟩ | ⟨hbig, A3⟩⟩ := hq
  · skip
    refine Go.more (sf' := [x]) ?_ (Nat.le_refl _) (Nat.le_refl _) (fun _ q => List.mem_append_right _ q)
    show G_new4_1 md l Z n0 x b z c0 h0 2 3 [x] h_1 39 #[.val (.ref x), .val (.ref b), .val (.int (0 : Int32)), .val (.int (1 : Int32)), .val .null, .unset] [(.ref y)]
    have nyx : y ≠ x := Nat.ne_of_gt (Nat.lt_of_lt_of_le E.lt le3)
    refine Go.astore 41 #[.val (.ref x), .val (.ref b), .val (.int (0 : Int32)), .val (.int (1 : Int32)), .val .null, .val (.ref y)] d12_39 rfl rfl rfl ?_
    refine Go.aloadN 42 d12_41 rfl rfl rfl ?_
    refine Go.aload 44 d12_42 rfl rfl rfl ?_
    refine Go.iloadN 45 d12_44 rfl rfl ?_
    refine Go.callS (S := [(.ref x)]) 48 [(.ref y), (.int (1 : Int32))] d12_45 rfl rfl (w78 hw) (w79 hw) (w73 hw) (w80 hw) (by decide) (call_of_go (R := _) (len := 3) (W := 1) (plainFor_of_name pn_0) (fun mid => ef_cfl1_0 mid y [(.int c0.toInt8.toInt32)] ) (c_cfl1_0 hw y [(.int c0.toInt8.toInt32)] A3 rfl) (w80 hw) (w73 hw) (by decide) (by decide)) (lenOf pd_6 rfl) (Nat.le_of_ble_eq_true rfl) rfl (Nat.le_of_ble_eq_true rfl) (Nat.le_of_ble_eq_true rfl) (fun _ q => nomatch q) (fun v h_3 sf_4 hq => ?_)
    obtain ⟨rfl, rfl⟩ := hq
    refine Go.more (sf' := [x]) ?_ (Nat.le_refl _) (Nat.le_refl _) (fun _ q => List.mem_append_right _ q)
    show G_new4_1 md l Z n0 x b z c0 h0 2 3 [x] h_1 48 #[.val (.ref x), .val (.ref b), .val (.int (0 : Int32)), .val (.int (1 : Int32)), .val .null, .val (.ref y)] [(.int (0 : Int32)), (.ref x)]
    have f_5 := E.ext X3
    have f_6 := C.ext X3
    refine Go.putF 51 (.int (0 : Int32)) d12_48 rfl (w23 hw) Via.refl f_6 f_5 (Or.inr ⟨(w5 hw), rfl, rfl⟩) (w2 hw) (ty := .byte) (by decide) rfl rfl (List.mem_of_getElem? (i := 0) rfl) n0x (fun h_7 W_8 => ?_)
    refine Go.aloadN 52 d12_51 rfl rfl rfl ?_
    refine Go.aload 54 d12_52 rfl rfl rfl ?_
    have f_9 := (f_5.wr W_8)
    have f_10 := ((V.ext X3).other W_8 (Or.inr (slot_ne (Or.inr (w4 hw)) (Or.inr (w5 hw)) (by decide) (t := (.array .byte)) (t' := .byte) (by decide) (by decide))))
    refine Go.putF 57 (.ref y) d12_54 rfl (w16 hw) Via.refl f_10 f_9 (Or.inr ⟨(w4 hw), rfl, rfl⟩) (w2 hw) (ty := (.array .byte)) (by decide) rfl rfl (List.mem_of_getElem? (i := 0) rfl) n0x (fun h_11 W_12 => ?_)
    have f_13 := (f_9.wr W_12)
    have f_14 := ((f_6.same W_8).other W_12 (Or.inr (slot_ne (Or.inr (w5 hw)) (Or.inr (w4 hw)) (by decide) (t := .byte) (t' := (.array .byte)) (by decide) (by decide))))
    have f_15 := ((A3.other W_8 nyx).other W_12 nyx)
    exact Go.ret0 d12_57 rfl (sf' := []) (⟨rfl, ((((Keep.refl h0 [x]).ext X3).wr W_8 (Or.inl (List.mem_of_getElem? (i := 0) rfl))).wr W_12 (Or.inl (List.mem_of_getElem? (i := 0) rfl))), y, (0 : Int32), _, f_13, f_14, (f_10.same W_12), f_15, Or.inl ⟨rfl, rfl, (latC ⟨chp0 b_c0, hlat⟩ latN)⟩⟩) (fun _ q => nomatch q) (Nat.le_of_ble_eq_true rfl) (Nat.le_of_ble_eq_true rfl)
  · skip
    refine Go.more (sf' := [x]) ?_ (Nat.le_refl _) (Nat.le_refl _) (fun _ q => List.mem_append_right _ q)
    show G_new4_1 md l Z n0 x b z c0 h0 2 3 [x] h_1 39 #[.val (.ref x), .val (.ref b), .val (.int (0 : Int32)), .val (.int (1 : Int32)), .val .null, .unset] [(.ref y)]
    have nyx : y ≠ x := Nat.ne_of_gt (Nat.lt_of_lt_of_le E.lt le3)
    refine Go.astore 41 #[.val (.ref x), .val (.ref b), .val (.int (0 : Int32)), .val (.int (1 : Int32)), .val .null, .val (.ref y)] d12_39 rfl rfl rfl ?_
    refine Go.aloadN 42 d12_41 rfl rfl rfl ?_
    refine Go.aload 44 d12_42 rfl rfl rfl ?_
    refine Go.iloadN 45 d12_44 rfl rfl ?_
    refine Go.callS (S := [(.ref x)]) 48 [(.ref y), (.int (1 : Int32))] d12_45 rfl rfl (w78 hw) (w79 hw) (w73 hw) (w80 hw) (by decide) (call_of_go (R := _) (len := 3) (W := 1) (plainFor_of_name pn_0) (fun mid => ef_cfl1_1 mid y [(.int (lo16 c0)), (.int (hi16 c0))] ) (c_cfl1_1 hw y [(.int (lo16 c0)), (.int (hi16 c0))] A3 rfl) (w80 hw) (w73 hw) (by decide) (by decide)) (lenOf pd_6 rfl) (Nat.le_of_ble_eq_true rfl) rfl (Nat.le_of_ble_eq_true rfl) (Nat.le_of_ble_eq_true rfl) (fun _ q => nomatch q) (fun v h_16 sf_17 hq => ?_)
    obtain ⟨rfl, rfl⟩ := hq
    refine Go.more (sf' := [x]) ?_ (Nat.le_refl _) (Nat.le_refl _) (fun _ q => List.mem_append_right _ q)
    show G_new4_1 md l Z n0 x b z c0 h0 2 3 [x] h_1 48 #[.val (.ref x), .val (.ref b), .val (.int (0 : Int32)), .val (.int (1 : Int32)), .val .null, .val (.ref y)] [(.int (1 : Int32)), (.ref x)]
    have f_18 := E.ext X3
    have f_19 := C.ext X3
    refine Go.putF 51 (.int (1 : Int32)) d12_48 rfl (w23 hw) Via.refl f_19 f_18 (Or.inr ⟨(w5 hw), rfl, rfl⟩) (w2 hw) (ty := .byte) (by decide) rfl rfl (List.mem_of_getElem? (i := 0) rfl) n0x (fun h_20 W_21 => ?_)
    refine Go.aloadN 52 d12_51 rfl rfl rfl ?_
    refine Go.aload 54 d12_52 rfl rfl rfl ?_
    have f_22 := (f_18.wr W_21)
    have f_23 := ((V.ext X3).other W_21 (Or.inr (slot_ne (Or.inr (w4 hw)) (Or.inr (w5 hw)) (by decide) (t := (.array .byte)) (t' := .byte) (by decide) (by decide))))
    refine Go.putF 57 (.ref y) d12_54 rfl (w16 hw) Via.refl f_23 f_22 (Or.inr ⟨(w4 hw), rfl, rfl⟩) (w2 hw) (ty := (.array .byte)) (by decide) rfl rfl (List.mem_of_getElem? (i := 0) rfl) n0x (fun h_24 W_25 => ?_)
    have f_26 := (f_22.wr W_25)
    have f_27 := ((f_19.same W_21).other W_25 (Or.inr (slot_ne (Or.inr (w5 hw)) (Or.inr (w4 hw)) (by decide) (t := .byte) (t' := (.array .byte)) (by decide) (by decide))))
    have f_28 := ((A3.other W_21 nyx).other W_25 nyx)
    exact Go.ret0 d12_57 rfl (sf' := []) (⟨rfl, ((((Keep.refl h0 [x]).ext X3).wr W_21 (Or.inl (List.mem_of_getElem? (i := 0) rfl))).wr W_25 (Or.inl (List.mem_of_getElem? (i := 0) rfl))), y, (1 : Int32), _, f_26, f_27, (f_23.same W_25), f_28, Or.inr ⟨rfl, rfl, ⟨_, List.mem_singleton.mpr rfl, hbig⟩⟩⟩) (fun _ q => nomatch q) (Nat.le_of_ble_eq_true rfl) (Nat.le_of_ble_eq_true rfl)
abbrev G_new1_1 (md : Md) (l : Launch) (Z : State) (n0 : Nat) (x b : Addr) (z : Int32) (c0 : Int32) (h0 : Heap) := Go md l Z n0 ({ frames := 5, cells := 2, slots := 3, locals := 74 } : Room) jdk_42_method_3_code 2 none "java/lang/String" "<init>" (fun v h' _ => v = none ∧ Keep h0 h' [x] ∧ Gst Z h' x [c0])
theorem ef_new1_1 (mid : MethodId) (x b : Addr) (z : Int32) (c0 : Int32)  : entryFrame mid #[(.ref x), (.ref b)] 2 = mkF mid 0 #[.val (.ref x), .val (.ref b)] [] := by first | (simp [entryFrame, mkF, argsToLocals, Value.category]; done) | rfl
set_option maxRecDepth 65536 in
set_option maxHeartbeats 40000000 in
theorem c_new1_1 {md : Md} {l : Launch} {Z : State} {n0 : Nat} {a0 : Array Value} (hw : HW a0 Z) (x b : Addr) (z : Int32) (c0 : Int32) {h0 : Heap} (E : Exa Z h0 x "java/lang/String") (n0x : n0 ≤ x) {v0 c0_ : Value} (V : Fld Z h0 x "java/lang/String" "value" "[B" v0) (C : Fld Z h0 x "java/lang/String" "coder" "B" c0_) (A : Ary Z h0 b .char [(.int c0)]) (b_c0 : CHP c0) (SC : Sta Z Z.heap "java/lang/String" "COMPACT_STRINGS" "Z" (.int z)) (hz : ¬ z = 0) (UA : Sta Z Z.heap "java/lang/StringUTF16" "$assertionsDisabled" "Z" (.int 1)) (UH : Sta Z Z.heap "java/lang/StringUTF16" "HI_BYTE_SHIFT" "I" (.int 0)) (UL : Sta Z Z.heap "java/lang/StringUTF16" "LO_BYTE_SHIFT" "I" (.int 8))  : G_new1_1 md l Z n0 x b z c0 h0 0 0 [x] h0 0 #[.val (.ref x), .val (.ref b)] [] := by
  refine Go.aloadN 1 d11_0 rfl rfl rfl ?_
  refine Go.aloadN 2 d11_1 rfl rfl rfl ?_
  refine Go.iconst 3 (0 : Int32) d11_2 rfl rfl ?_
  refine Go.aloadN 4 d11_3 rfl rfl rfl ?_
  refine Go.alen 5 (1 : Int32) d11_4 rfl A rfl ?_
  refine Go.aconstNull 6 d11_5 rfl ?_
  refine Go.callC (S := []) (a := x) 9 [(.ref b), (.int (0 : Int32)), (.int (1 : Int32)), .null] d11_6 rfl rfl rfl (w64 hw) (w65 hw) (w67 hw) (by decide) (call_of_go (R := _) (len := 3) (W := 0) (plainFor_of_name pn_1) (fun mid => ef_new4_1 mid x b z c0 ) (c_new4_1 hw x b z c0 E n0x V C A b_c0 SC hz UA UH UL) (w67 hw) (w1 hw) (by decide) (by decide)) (lenOf pd_7 rfl) (Nat.le_of_ble_eq_true rfl) rfl (Nat.le_of_ble_eq_true rfl) (Nat.le_of_ble_eq_true rfl) (fun _ q => q) (fun v h_1 sf_2 hq => ?_)
  obtain ⟨rfl, K2, S2⟩ := hq
  refine Go.more (sf' := [x]) ?_ (Nat.le_refl _) (Nat.le_refl _) (fun _ q => List.mem_append_right _ q)
  show G_new1_1 md l Z n0 x b z c0 h0 2 3 [x] h_1 9 #[.val (.ref x), .val (.ref b)] []
  exact Go.ret0 d11_9 rfl (sf' := []) (⟨rfl, K2, S2⟩) (fun _ q => nomatch q) (Nat.le_of_ble_eq_true rfl) (Nat.le_of_ble_eq_true rfl)
abbrev G_canenc (md : Md) (l : Launch) (Z : State) (n0 : Nat) (c : Int32) (h0 : Heap) := Go md l Z n0 ({ frames := 0, cells := 0, slots := 0, locals := 0 } : Room) jdk_43_method_3_code 1 (some .boolean) "java/lang/StringLatin1" "canEncode" (fun v h' _ => h0 = h' ∧ ∃ r : Int32, v = some (.int r) ∧ ((r = 1 ∧ ¬ (255 : Int32) < c) ∨ (r = 0 ∧ (255 : Int32) < c)))
theorem ef_canenc (mid : MethodId) (c : Int32)  : entryFrame mid #[(.int c)] 1 = mkF mid 0 #[.val (.int c)] [] := by first | (simp [entryFrame, mkF, argsToLocals, Value.category]; done) | rfl
set_option maxRecDepth 65536 in
set_option maxHeartbeats 40000000 in
theorem c_canenc {md : Md} {l : Launch} {Z : State} {n0 : Nat} {a0 : Array Value} (hw : HW a0 Z) (c : Int32) {h0 : Heap}  : G_canenc md l Z n0 c h0 0 0 [] h0 0 #[.val (.int c)] [] := by
  refine Go.iloadN 1 d22_0 rfl rfl ?_
  refine Go.sipush 4 (255 : Int32) d22_1 rfl rfl ?_
  by_cases hc4 : (255 : Int32) < c
  · skip
    refine Go.icmpY 11 d22_4 (by decide) (by decide) (tlt hc4).2.2.1 ?_
    refine Go.iconst 12 (0 : Int32) d22_11 rfl rfl ?_
    exact Go.retN (0 : Int32) d22_12 rfl (t := .boolean) (by simp) rfl (sf' := []) (⟨rfl, _, rfl, Or.inr ⟨rfl, hc4⟩⟩) (fun _ q => nomatch q) (Nat.le_of_ble_eq_true rfl) (Nat.le_of_ble_eq_true rfl)
  · skip
    refine Go.icmpN 7 d22_4 rfl (flt hc4).2.2.1 ?_
    refine Go.iconst 8 (1 : Int32) d22_7 rfl rfl ?_
    refine Go.goto 12 d22_8 (by decide) (by decide) ?_
    exact Go.retN (1 : Int32) d22_12 rfl (t := .boolean) (by simp) rfl (sf' := []) (⟨rfl, _, rfl, Or.inl ⟨rfl, hc4⟩⟩) (fun _ q => nomatch q) (Nat.le_of_ble_eq_true rfl) (Nat.le_of_ble_eq_true rfl)
abbrev G_l1tob (md : Md) (l : Launch) (Z : State) (n0 : Nat) (c : Int32) (h0 : Heap) := Go md l Z n0 ({ frames := 0, cells := 1, slots := 1, locals := 0 } : Room) jdk_43_method_46_code 1 (some (.array .byte)) "java/lang/StringLatin1" "toBytes" (fun v h' _ => ∃ x, v = some (.ref x) ∧ Ext h0 h' ∧ h0.size ≤ x ∧ Ary Z h' x .byte [(.int c.toInt8.toInt32)])
theorem ef_l1tob (mid : MethodId) (c : Int32)  : entryFrame mid #[(.int c)] 1 = mkF mid 0 #[.val (.int c)] [] := by first | (simp [entryFrame, mkF, argsToLocals, Value.category]; done) | rfl
set_option maxRecDepth 65536 in
set_option maxHeartbeats 40000000 in
theorem c_l1tob {md : Md} {l : Launch} {Z : State} {n0 : Nat} {a0 : Array Value} (hw : HW a0 Z) (c : Int32) {h0 : Heap}  : G_l1tob md l Z n0 c h0 0 0 [] h0 0 #[.val (.int c)] [] := by
  refine Go.iconst 1 (1 : Int32) d23_0 rfl rfl ?_
  refine Go.newA 1 3 d23_1 rfl rfl (w3 hw) (by decide) 1 (Nat.le_refl _) (by decide) (Nat.le_of_ble_eq_true rfl) (Nat.le_of_ble_eq_true rfl) (fun h_1 x_2 g_3 q_4 E_5 lt_6 A_7 => ?_)
  have A_8 : Ary Z h_1 x_2 .byte [(.int (0 : Int32))] := A_7
  show G_l1tob md l Z n0 c h0 1 1 [x_2] h_1 3 #[.val (.int c)] [(.ref x_2)]
  refine Go.dup 4 d23_3 rfl rfl ?_
  refine Go.iconst 5 (0 : Int32) d23_4 rfl rfl ?_
  refine Go.iloadN 6 d23_5 rfl rfl ?_
  refine Go.i2b 7 d23_6 rfl ?_
  refine Go.bastore 0 8 d23_7 rfl A_8 (by decide) (Nat.le_of_ble_eq_true rfl) (List.mem_of_getElem? (i := 0) rfl) q_4 (fun h_9 W_10 A_11 => ?_)
  have A_12 : Ary Z h_9 x_2 .byte [(.int (c).toInt8.toInt32)] := by have := A_11; rw [i8_idem _] at this; exact this
  have X_13 : Ext h0 h_9 := extW E_5 W_10 (Nat.le_of_eq g_3)
  exact Go.retA d23_8 rfl rfl rfl (sf' := []) (⟨_, rfl, X_13, (Nat.le_of_eq g_3), A_12⟩) (fun _ q => nomatch q) (Nat.le_of_ble_eq_true rfl) (Nat.le_of_ble_eq_true rfl)
abbrev G_u16tob (md : Md) (l : Launch) (Z : State) (n0 : Nat) (c : Int32) (h0 : Heap) := Go md l Z n0 ({ frames := 1, cells := 1, slots := 2, locals := 14 } : Room) jdk_52_method_24_code 2 (some (.array .byte)) "java/lang/StringUTF16" "toBytes" (fun v h' _ => ∃ x, v = some (.ref x) ∧ Ext h0 h' ∧ h0.size ≤ x ∧ Ary Z h' x .byte [(.int (lo16 c)), (.int (hi16 c))])
theorem ef_u16tob (mid : MethodId) (c : Int32)  : entryFrame mid #[(.int c)] 2 = mkF mid 0 #[.val (.int c), .unset] [] := by first | (simp [entryFrame, mkF, argsToLocals, Value.category]; done) | rfl
set_option maxRecDepth 65536 in
set_option maxHeartbeats 40000000 in
theorem c_u16tob {md : Md} {l : Launch} {Z : State} {n0 : Nat} {a0 : Array Value} (hw : HW a0 Z) (c : Int32) {h0 : Heap} (UA : Sta Z Z.heap "java/lang/StringUTF16" "$assertionsDisabled" "Z" (.int 1)) (UH : Sta Z Z.heap "java/lang/StringUTF16" "HI_BYTE_SHIFT" "I" (.int 0)) (UL : Sta Z Z.heap "java/lang/StringUTF16" "LO_BYTE_SHIFT" "I" (.int 8))  : G_u16tob md l Z n0 c h0 0 0 [] h0 0 #[.val (.int c), .unset] [] := by
  refine Go.iconst 1 (2 : Int32) d30_0 rfl rfl ?_
  refine Go.newA 2 3 d30_1 rfl rfl (w3 hw) (by decide) 2 (Nat.le_refl _) (by decide) (Nat.le_of_ble_eq_true rfl) (Nat.le_of_ble_eq_true rfl) (fun h_1 x_2 g_3 q_4 E_5 lt_6 A_7 => ?_)
  have A_8 : Ary Z h_1 x_2 .byte [(.int (0 : Int32)), (.int (0 : Int32))] := A_7
  show G_u16tob md l Z n0 c h0 1 2 [x_2] h_1 3 #[.val (.int c), .unset] [(.ref x_2)]
  refine Go.astoreN 4 #[.val (.int c), .val (.ref x_2)] d30_3 rfl rfl rfl ?_
  refine Go.aloadN 5 d30_4 rfl rfl rfl ?_
  refine Go.iconst 6 (0 : Int32) d30_5 rfl rfl ?_
  refine Go.iloadN 7 d30_6 rfl rfl ?_
  refine Go.callS (S := []) 10 [(.ref x_2), (.int (0 : Int32)), (.int c)] d30_7 rfl rfl (w142 hw) (w143 hw) (w73 hw) (w144 hw) (by decide) (call_of_go (R := _) (len := 3) (W := 0) (plainFor_of_name pn_0) (fun mid => ef_putc0 mid x_2 c [(.int (0 : Int32)), (.int (0 : Int32))] ) (c_putc0 hw x_2 c [(.int (0 : Int32)), (.int (0 : Int32))] A_8 q_4 (Nat.le_of_ble_eq_true rfl) UA UH UL) (w144 hw) (w73 hw) (by decide) (by decide)) (lenOf pd_2 rfl) (Nat.le_of_ble_eq_true rfl) rfl (Nat.le_of_ble_eq_true rfl) (Nat.le_of_ble_eq_true rfl) (fun _ q => q) (fun v h_12 sf_13 hq => ?_)
  obtain ⟨rfl, K_9, A_10⟩ := hq
  have A_11 : Ary Z h_12 x_2 .byte [(.int (lo16 c)), (.int (hi16 c))] := A_10
  refine Go.more (sf' := [x_2]) ?_ (Nat.le_refl _) (Nat.le_refl _) (fun _ q => List.mem_append_right _ q)
  show G_u16tob md l Z n0 c h0 1 2 [x_2] h_12 10 #[.val (.int c), .val (.ref x_2)] []
  refine Go.aloadN 11 d30_10 rfl rfl rfl ?_
  have X_14 : Ext h0 h_12 := extK E_5 K_9 (allS (Nat.le_of_eq g_3) all0)
  exact Go.retA d30_11 rfl rfl rfl (sf' := []) (⟨_, rfl, X_14, (Nat.le_of_eq g_3), A_11⟩) (fun _ q => nomatch q) (Nat.le_of_ble_eq_true rfl) (Nat.le_of_ble_eq_true rfl)
abbrev G_strbb0 (md : Md) (l : Launch) (Z : State) (n0 : Nat) (x t : Addr) (h0 : Heap) := Go md l Z n0 ({ frames := 1, cells := 0, slots := 0, locals := 12 } : Room) jdk_42_method_151_code 3 none "java/lang/String" "<init>" (fun v h' _ => v = none ∧ Keep h0 h' [x] ∧ Exa Z h' x "java/lang/String" ∧ Fld Z h' x "java/lang/String" "coder" "B" (.int 0) ∧ Fld Z h' x "java/lang/String" "value" "[B" (.ref t))
theorem ef_strbb0 (mid : MethodId) (x t : Addr)  : entryFrame mid #[(.ref x), (.ref t), (.int (0 : Int32))] 3 = mkF mid 0 #[.val (.ref x), .val (.ref t), .val (.int (0 : Int32))] [] := by first | (simp [entryFrame, mkF, argsToLocals, Value.category]; done) | rfl
set_option maxRecDepth 65536 in
set_option maxHeartbeats 40000000 in
theorem c_strbb0 {md : Md} {l : Launch} {Z : State} {n0 : Nat} {a0 : Array Value} (hw : HW a0 Z) (x t : Addr) {h0 : Heap} (E : Exa Z h0 x "java/lang/String") (n0x : n0 ≤ x) {v0 c0 : Value} (V : Fld Z h0 x "java/lang/String" "value" "[B" v0) (C : Fld Z h0 x "java/lang/String" "coder" "B" c0) : G_strbb0 md l Z n0 x t h0 0 0 [x] h0 0 #[.val (.ref x), .val (.ref t), .val (.int (0 : Int32))] [] := by
  refine Go.aloadN 1 d24_0 rfl rfl rfl ?_
  refine Go.initO (W := 0) 4 d24_1 rfl (w68 hw) (w69 hw) (w70 hw) rfl (by decide) (Nat.le_of_ble_eq_true rfl) (by decide) ?_
  refine Go.aloadN 5 d24_4 rfl rfl rfl ?_
  refine Go.aloadN 6 d24_5 rfl rfl rfl ?_
  refine Go.putF 9 (.ref t) d24_6 rfl (w16 hw) Via.refl V E (Or.inr ⟨(w4 hw), rfl, rfl⟩) (w2 hw) (ty := (.array .byte)) (by decide) rfl rfl (List.mem_of_getElem? (i := 0) rfl) n0x (fun h_1 W_2 => ?_)
  refine Go.aloadN 10 d24_9 rfl rfl rfl ?_
  refine Go.iloadN 11 d24_10 rfl rfl ?_
  have f_3 := (E.wr W_2)
  have f_4 := (C.other W_2 (Or.inr (slot_ne (Or.inr (w5 hw)) (Or.inr (w4 hw)) (by decide) (t := .byte) (t' := (.array .byte)) (by decide) (by decide))))
  refine Go.putF 14 (.int (0 : Int32)) d24_11 rfl (w23 hw) Via.refl f_4 f_3 (Or.inr ⟨(w5 hw), rfl, rfl⟩) (w2 hw) (ty := .byte) (by decide) rfl rfl (List.mem_of_getElem? (i := 0) rfl) n0x (fun h_5 W_6 => ?_)
  have f_7 := (f_3.wr W_6)
  have f_8 := ((V.same W_2).other W_6 (Or.inr (slot_ne (Or.inr (w4 hw)) (Or.inr (w5 hw)) (by decide) (t := (.array .byte)) (t' := .byte) (by decide) (by decide))))
  exact Go.ret0 d24_14 rfl (sf' := []) (⟨rfl, (((Keep.refl h0 [x]).wr W_2 (Or.inl (List.mem_of_getElem? (i := 0) rfl))).wr W_6 (Or.inl (List.mem_of_getElem? (i := 0) rfl))), f_7, (f_4.same W_6), f_8⟩) (fun _ q => nomatch q) (Nat.le_of_ble_eq_true rfl) (Nat.le_of_ble_eq_true rfl)
abbrev G_strbb1 (md : Md) (l : Launch) (Z : State) (n0 : Nat) (x t : Addr) (h0 : Heap) := Go md l Z n0 ({ frames := 1, cells := 0, slots := 0, locals := 12 } : Room) jdk_42_method_151_code 3 none "java/lang/String" "<init>" (fun v h' _ => v = none ∧ Keep h0 h' [x] ∧ Exa Z h' x "java/lang/String" ∧ Fld Z h' x "java/lang/String" "coder" "B" (.int 1) ∧ Fld Z h' x "java/lang/String" "value" "[B" (.ref t))
theorem ef_strbb1 (mid : MethodId) (x t : Addr)  : entryFrame mid #[(.ref x), (.ref t), (.int (1 : Int32))] 3 = mkF mid 0 #[.val (.ref x), .val (.ref t), .val (.int (1 : Int32))] [] := by first | (simp [entryFrame, mkF, argsToLocals, Value.category]; done) | rfl
set_option maxRecDepth 65536 in
set_option maxHeartbeats 40000000 in
theorem c_strbb1 {md : Md} {l : Launch} {Z : State} {n0 : Nat} {a0 : Array Value} (hw : HW a0 Z) (x t : Addr) {h0 : Heap} (E : Exa Z h0 x "java/lang/String") (n0x : n0 ≤ x) {v0 c0 : Value} (V : Fld Z h0 x "java/lang/String" "value" "[B" v0) (C : Fld Z h0 x "java/lang/String" "coder" "B" c0) : G_strbb1 md l Z n0 x t h0 0 0 [x] h0 0 #[.val (.ref x), .val (.ref t), .val (.int (1 : Int32))] [] := by
  refine Go.aloadN 1 d24_0 rfl rfl rfl ?_
  refine Go.initO (W := 0) 4 d24_1 rfl (w68 hw) (w69 hw) (w70 hw) rfl (by decide) (Nat.le_of_ble_eq_true rfl) (by decide) ?_
  refine Go.aloadN 5 d24_4 rfl rfl rfl ?_
  refine Go.aloadN 6 d24_5 rfl rfl rfl ?_
  refine Go.putF 9 (.ref t) d24_6 rfl (w16 hw) Via.refl V E (Or.inr ⟨(w4 hw), rfl, rfl⟩) (w2 hw) (ty := (.array .byte)) (by decide) rfl rfl (List.mem_of_getElem? (i := 0) rfl) n0x (fun h_1 W_2 => ?_)
  refine Go.aloadN 10 d24_9 rfl rfl rfl ?_
  refine Go.iloadN 11 d24_10 rfl rfl ?_
  have f_3 := (E.wr W_2)
  have f_4 := (C.other W_2 (Or.inr (slot_ne (Or.inr (w5 hw)) (Or.inr (w4 hw)) (by decide) (t := .byte) (t' := (.array .byte)) (by decide) (by decide))))
  refine Go.putF 14 (.int (1 : Int32)) d24_11 rfl (w23 hw) Via.refl f_4 f_3 (Or.inr ⟨(w5 hw), rfl, rfl⟩) (w2 hw) (ty := .byte) (by decide) rfl rfl (List.mem_of_getElem? (i := 0) rfl) n0x (fun h_5 W_6 => ?_)
  have f_7 := (f_3.wr W_6)
  have f_8 := ((V.same W_2).other W_6 (Or.inr (slot_ne (Or.inr (w4 hw)) (Or.inr (w5 hw)) (by decide) (t := (.array .byte)) (t' := .byte) (by decide) (by decide))))
  exact Go.ret0 d24_14 rfl (sf' := []) (⟨rfl, (((Keep.refl h0 [x]).wr W_2 (Or.inl (List.mem_of_getElem? (i := 0) rfl))).wr W_6 (Or.inl (List.mem_of_getElem? (i := 0) rfl))), f_7, (f_4.same W_6), f_8⟩) (fun _ q => nomatch q) (Nat.le_of_ble_eq_true rfl) (Nat.le_of_ble_eq_true rfl)
abbrev G_valueof (md : Md) (l : Launch) (Z : State) (n0 : Nat) (c : Int32) (z : Int32) (h0 : Heap) := Go md l Z n0 ({ frames := 2, cells := 2, slots := 6, locals := 29 } : Room) jdk_42_method_139_code 1 (some (.object "java/lang/String")) "java/lang/String" "valueOf" (fun v h' _ => ∃ x, v = some (.ref x) ∧ Ext h0 h' ∧ h0.size ≤ x ∧ Gst Z h' x ([c]))
theorem ef_valueof (mid : MethodId) (c : Int32) (z : Int32)  : entryFrame mid #[(.int c)] 1 = mkF mid 0 #[.val (.int c)] [] := by first | (simp [entryFrame, mkF, argsToLocals, Value.category]; done) | rfl
set_option maxRecDepth 65536 in
set_option maxHeartbeats 40000000 in
theorem c_valueof {md : Md} {l : Launch} {Z : State} {n0 : Nat} {a0 : Array Value} (hw : HW a0 Z) (c : Int32) (z : Int32) {h0 : Heap} (b_c : CHP c) (SC : Sta Z Z.heap "java/lang/String" "COMPACT_STRINGS" "Z" (.int z)) (hz : ¬ z = 0) (UA : Sta Z Z.heap "java/lang/StringUTF16" "$assertionsDisabled" "Z" (.int 1)) (UH : Sta Z Z.heap "java/lang/StringUTF16" "HI_BYTE_SHIFT" "I" (.int 0)) (UL : Sta Z Z.heap "java/lang/StringUTF16" "LO_BYTE_SHIFT" "I" (.int 8))  : G_valueof md l Z n0 c z h0 0 0 [] h0 0 #[.val (.int c)] [] := by
  refine Go.getS 3 d21_0 rfl (w22 hw) Via.refl SC ?_
  refine Go.ifN 6 d21_3 rfl (feq hz).1 ?_
  refine Go.iloadN 7 d21_6 rfl rfl ?_
  refine Go.callS (S := []) 10 [(.int c)] d21_7 rfl rfl (w121 hw) (w122 hw) (w38 hw) (w123 hw) (by decide) (call_of_go (R := _) (len := 3) (W := 0) (plainFor_of_name pn_2) (fun mid => ef_canenc mid c ) (c_canenc hw c ) (w123 hw) (w38 hw) (by decide) (by decide)) (lenOf pd_8 rfl) (Nat.le_of_ble_eq_true rfl) rfl (Nat.le_of_ble_eq_true rfl) (Nat.le_of_ble_eq_true rfl) (fun _ q => nomatch q) (fun v h_1 sf_2 hq => ?_)
  obtain ⟨rfl, r, rfl, ⟨rfl, hb⟩ | ⟨rfl, hb⟩⟩ := hq
  · skip
    refine Go.more (sf' := []) ?_ (Nat.le_refl _) (Nat.le_refl _) (fun _ q => List.mem_append_right _ q)
    show G_valueof md l Z n0 c z h0 0 0 [] h0 10 #[.val (.int c)] [(.int (1 : Int32))]
    refine Go.ifN 13 d21_10 rfl (feq (by decide)).1 ?_
    refine Go.new 16 d21_13 rfl (w109 hw) (w2 hw) (w1 hw) (Nat.le_of_ble_eq_true rfl) (Nat.le_of_ble_eq_true rfl) (fun h_3 x_4 g_5 q_6 E_7 lt_8 A_9 D_10 => ?_)
    show G_valueof md l Z n0 c z h0 1 4 [x_4] h_3 16 #[.val (.int c)] [(.ref x_4)]
    refine Go.dup 17 d21_16 rfl rfl ?_
    refine Go.iloadN 18 d21_17 rfl rfl ?_
    have lt_x := A_9.lt
    refine Go.callS (S := [(.ref x_4), (.ref x_4)]) 21 [(.int c)] d21_18 rfl rfl (w124 hw) (w125 hw) (w38 hw) (w126 hw) (by decide) (call_of_go (R := _) (len := 3) (W := 2) (plainFor_of_name pn_2) (fun mid => ef_l1tob mid c ) (c_l1tob hw c ) (w126 hw) (w38 hw) (by decide) (by decide)) (lenOf pd_9 rfl) (Nat.le_of_ble_eq_true rfl) rfl (Nat.le_of_ble_eq_true rfl) (Nat.le_of_ble_eq_true rfl) (fun _ q => nomatch q) (fun v h_11 sf_16 hq => ?_)
    obtain ⟨b_12, rfl, E_13, le_14, A_15⟩ := hq
    refine Go.more (sf' := [x_4]) ?_ (Nat.le_refl _) (Nat.le_refl _) (fun _ q => List.mem_append_right _ q)
    show G_valueof md l Z n0 c z h0 2 5 [x_4] h_11 21 #[.val (.int c)] [(.ref b_12), (.ref x_4), (.ref x_4)]
    have nbx : b_12 ≠ x_4 := Nat.ne_of_gt (Nat.lt_of_lt_of_le lt_x le_14)
    refine Go.iconst 22 (0 : Int32) d21_21 rfl rfl ?_
    have f_17 := A_9.ext E_13
    have f_18 := (D_10 (Or.inr (w4 hw)) (ty := (.array .byte)) (by decide)).ext E_13
    have f_19 := (D_10 (Or.inr (w5 hw)) (ty := .byte) (by decide)).ext E_13
    refine Go.callC (S := [(.ref x_4)]) (a := x_4) 25 [(.ref b_12), (.int (0 : Int32))] d21_22 rfl rfl rfl (w127 hw) (w128 hw) (w129 hw) (by decide) (call_of_go (R := _) (len := 3) (W := 1) (plainFor_of_name pn_1) (fun mid => ef_strbb0 mid x_4 b_12 ) (c_strbb0 hw x_4 b_12 f_17 q_6 f_18 f_19) (w129 hw) (w1 hw) (by decide) (by decide)) (lenOf pd_10 rfl) (Nat.le_of_ble_eq_true rfl) rfl (Nat.le_of_ble_eq_true rfl) (Nat.le_of_ble_eq_true rfl) (fun _ q => q) (fun v h_20 sf_25 hq => ?_)
    obtain ⟨rfl, K_21, A_22, C_23, V_24⟩ := hq
    refine Go.more (sf' := [x_4]) ?_ (Nat.le_refl _) (Nat.le_refl _) (fun _ q => List.mem_append_right _ q)
    show G_valueof md l Z n0 c z h0 2 5 [x_4] h_20 25 #[.val (.int c)] [(.ref x_4)]
    have f_26 := (Ary.keep K_21 A_15 (ninS nbx nin0))
    have X_27 : Ext h0 h_11 := extT E_7 E_13
    have X_28 : Ext h0 h_20 := extK X_27 K_21 (allS (Nat.le_of_eq g_5) all0)
    exact Go.retA d21_25 rfl rfl rfl (sf' := []) (⟨_, rfl, X_28, (Nat.le_of_eq g_5), _, (0 : Int32), _, A_22, C_23, V_24, f_26, Or.inl ⟨rfl, rfl, lat1 ⟨chp0 b_c, hb⟩⟩⟩) (fun _ q => nomatch q) (Nat.le_of_ble_eq_true rfl) (Nat.le_of_ble_eq_true rfl)
  · skip
    refine Go.more (sf' := []) ?_ (Nat.le_refl _) (Nat.le_refl _) (fun _ q => List.mem_append_right _ q)
    show G_valueof md l Z n0 c z h0 0 0 [] h0 10 #[.val (.int c)] [(.int (0 : Int32))]
    refine Go.ifY 26 d21_10 (by decide) (by decide) (teq (by decide)).1 ?_
    refine Go.new 29 d21_26 rfl (w109 hw) (w2 hw) (w1 hw) (Nat.le_of_ble_eq_true rfl) (Nat.le_of_ble_eq_true rfl) (fun h_29 x_30 g_31 q_32 E_33 lt_34 A_35 D_36 => ?_)
    show G_valueof md l Z n0 c z h0 1 4 [x_30] h_29 29 #[.val (.int c)] [(.ref x_30)]
    refine Go.dup 30 d21_29 rfl rfl ?_
    refine Go.iloadN 31 d21_30 rfl rfl ?_
    have lt_x := A_35.lt
    refine Go.callS (S := [(.ref x_30), (.ref x_30)]) 34 [(.int c)] d21_31 rfl rfl (w151 hw) (w152 hw) (w73 hw) (w153 hw) (by decide) (call_of_go (R := _) (len := 3) (W := 2) (plainFor_of_name pn_0) (fun mid => ef_u16tob mid c ) (c_u16tob hw c UA UH UL) (w153 hw) (w73 hw) (by decide) (by decide)) (lenOf pd_9 rfl) (Nat.le_of_ble_eq_true rfl) rfl (Nat.le_of_ble_eq_true rfl) (Nat.le_of_ble_eq_true rfl) (fun _ q => nomatch q) (fun v h_37 sf_42 hq => ?_)
    obtain ⟨b_38, rfl, E_39, le_40, A_41⟩ := hq
    refine Go.more (sf' := [x_30]) ?_ (Nat.le_refl _) (Nat.le_refl _) (fun _ q => List.mem_append_right _ q)
    show G_valueof md l Z n0 c z h0 2 6 [x_30] h_37 34 #[.val (.int c)] [(.ref b_38), (.ref x_30), (.ref x_30)]
    have nbx : b_38 ≠ x_30 := Nat.ne_of_gt (Nat.lt_of_lt_of_le lt_x le_40)
    refine Go.iconst 35 (1 : Int32) d21_34 rfl rfl ?_
    have f_43 := A_35.ext E_39
    have f_44 := (D_36 (Or.inr (w4 hw)) (ty := (.array .byte)) (by decide)).ext E_39
    have f_45 := (D_36 (Or.inr (w5 hw)) (ty := .byte) (by decide)).ext E_39
    refine Go.callC (S := [(.ref x_30)]) (a := x_30) 38 [(.ref b_38), (.int (1 : Int32))] d21_35 rfl rfl rfl (w127 hw) (w128 hw) (w129 hw) (by decide) (call_of_go (R := _) (len := 3) (W := 1) (plainFor_of_name pn_1) (fun mid => ef_strbb1 mid x_30 b_38 ) (c_strbb1 hw x_30 b_38 f_43 q_32 f_44 f_45) (w129 hw) (w1 hw) (by decide) (by decide)) (lenOf pd_10 rfl) (Nat.le_of_ble_eq_true rfl) rfl (Nat.le_of_ble_eq_true rfl) (Nat.le_of_ble_eq_true rfl) (fun _ q => q) (fun v h_46 sf_51 hq => ?_)
    obtain ⟨rfl, K_47, A_48, C_49, V_50⟩ := hq
    refine Go.more (sf' := [x_30]) ?_ (Nat.le_refl _) (Nat.le_refl _) (fun _ q => List.mem_append_right _ q)
    show G_valueof md l Z n0 c z h0 2 6 [x_30] h_46 38 #[.val (.int c)] [(.ref x_30)]
    have f_52 := (Ary.keep K_47 A_41 (ninS nbx nin0))
    have X_53 : Ext h0 h_37 := extT E_33 E_39
    have X_54 : Ext h0 h_46 := extK X_53 K_47 (allS (Nat.le_of_eq g_31) all0)
    exact Go.retA d21_38 rfl rfl rfl (sf' := []) (⟨_, rfl, X_54, (Nat.le_of_eq g_31), _, (1 : Int32), _, A_48, C_49, V_50, f_52, Or.inr ⟨rfl, rfl, ⟨_, List.mem_singleton.mpr rfl, hb⟩⟩⟩) (fun _ q => nomatch q) (Nat.le_of_ble_eq_true rfl) (Nat.le_of_ble_eq_true rfl)
abbrev G_coder (md : Md) (l : Launch) (Z : State) (n0 : Nat) (x : Addr) (z cd : Int32) (h0 : Heap) := Go md l Z n0 ({ frames := 0, cells := 0, slots := 0, locals := 0 } : Room) jdk_42_method_152_code 1 (some .byte) "java/lang/String" "coder" (fun v h' _ => h0 = h' ∧ v = some (.int cd))
theorem ef_coder (mid : MethodId) (x : Addr) (z cd : Int32)  : entryFrame mid #[(.ref x)] 1 = mkF mid 0 #[.val (.ref x)] [] := by first | (simp [entryFrame, mkF, argsToLocals, Value.category]; done) | rfl
set_option maxRecDepth 65536 in
set_option maxHeartbeats 40000000 in
theorem c_coder {md : Md} {l : Launch} {Z : State} {n0 : Nat} {a0 : Array Value} (hw : HW a0 Z) (x : Addr) (z cd : Int32) {h0 : Heap} (C : Fld Z h0 x "java/lang/String" "coder" "B" (.int cd)) (hcd : nar .byte cd = cd) (SC : Sta Z Z.heap "java/lang/String" "COMPACT_STRINGS" "Z" (.int z)) (hz : ¬ z = 0)  : G_coder md l Z n0 x z cd h0 0 0 [] h0 0 #[.val (.ref x)] [] := by
  refine Go.getS 3 d2_0 rfl (w22 hw) Via.refl SC ?_
  refine Go.ifN 6 d2_3 rfl (feq hz).1 ?_
  refine Go.aloadN 7 d2_6 rfl rfl rfl ?_
  refine Go.getF 10 d2_7 rfl (w23 hw) Via.refl C ?_
  refine Go.goto 14 d2_10 (by decide) (by decide) ?_
  exact Go.retN cd d2_14 rfl (t := .byte) (by simp) hcd (sf' := []) (⟨rfl, rfl⟩) (fun _ q => nomatch q) (Nat.le_of_ble_eq_true rfl) (Nat.le_of_ble_eq_true rfl)
abbrev G_glen (md : Md) (l : Launch) (Z : State) (n0 : Nat) (x t : Addr) (z cd : Int32) (vs : List Value) (h0 : Heap) := Go md l Z n0 ({ frames := 1, cells := 0, slots := 0, locals := 13 } : Room) jdk_42_method_54_code 1 (some .int) "java/lang/String" "length" (fun v h' _ => h0 = h' ∧ v = some (.int ((Int32.ofNat vs.length) >>> (cd &&& 31))))
theorem ef_glen (mid : MethodId) (x t : Addr) (z cd : Int32) (vs : List Value)  : entryFrame mid #[(.ref x)] 1 = mkF mid 0 #[.val (.ref x)] [] := by first | (simp [entryFrame, mkF, argsToLocals, Value.category]; done) | rfl
set_option maxRecDepth 65536 in
set_option maxHeartbeats 40000000 in
theorem c_glen {md : Md} {l : Launch} {Z : State} {n0 : Nat} {a0 : Array Value} (hw : HW a0 Z) (x t : Addr) (z cd : Int32) (vs : List Value) {h0 : Heap} (E : Exa Z h0 x "java/lang/String") (C : Fld Z h0 x "java/lang/String" "coder" "B" (.int cd)) (V : Fld Z h0 x "java/lang/String" "value" "[B" (.ref t)) (A : Ary Z h0 t .byte vs) (hcd : nar .byte cd = cd) (SC : Sta Z Z.heap "java/lang/String" "COMPACT_STRINGS" "Z" (.int z)) (hz : ¬ z = 0)  : G_glen md l Z n0 x t z cd vs h0 0 0 [] h0 0 #[.val (.ref x)] [] := by
  refine Go.aloadN 1 d1_0 rfl rfl rfl ?_
  refine Go.getF 4 d1_1 rfl (w16 hw) Via.refl V ?_
  refine Go.alen 5 (Int32.ofNat vs.length) d1_4 rfl A rfl ?_
  refine Go.aloadN 6 d1_5 rfl rfl rfl ?_
  refine Go.callV (S := [(.int (Int32.ofNat vs.length))]) (a := x) 9 [] d1_6 rfl rfl (w17 hw) (w18 hw) (w20 hw) (w19 hw) (fun _ q => notFace_of_selects (args := #[]) (mvT q (w20 hw))) (by decide) E (call_of_go (R := _) (len := 3) (W := 1) (plainFor_of_name pn_1) (fun mid => ef_coder mid x z cd ) (c_coder hw x z cd C hcd SC hz) (w21 hw) (w1 hw) (by decide) (by decide)) (lenOf pd_11 rfl) (Nat.le_of_ble_eq_true rfl) rfl (Nat.le_of_ble_eq_true rfl) (Nat.le_of_ble_eq_true rfl) (fun _ q => nomatch q) (fun v h_1 sf_2 hq => ?_)
  obtain ⟨rfl, rfl⟩ := hq
  refine Go.more (sf' := []) ?_ (Nat.le_refl _) (Nat.le_refl _) (fun _ q => List.mem_append_right _ q)
  show G_glen md l Z n0 x t z cd vs h0 0 0 [] h0 9 #[.val (.ref x)] [(.int cd), (.int (Int32.ofNat vs.length))]
  refine Go.ishr 10 d1_9 rfl ?_
  exact Go.retI d1_10 rfl (sf' := []) (⟨rfl, rfl⟩) (fun _ q => nomatch q) (Nat.le_of_ble_eq_true rfl) (Nat.le_of_ble_eq_true rfl)
abbrev G_gputc (md : Md) (l : Launch) (Z : State) (n0 : Nat) (b : Addr) (i c : Int32) (k : Nat) (vs : List Value) (h0 : Heap) := Go md l Z n0 ({ frames := 0, cells := 0, slots := 0, locals := 0 } : Room) jdk_52_method_4_code 3 none "java/lang/StringUTF16" "putChar" (fun v h' _ => v = none ∧ Keep h0 h' [b] ∧ Ary Z h' b .byte ((vs.set (2 * k) (.int (lo16 c))).set (2 * k + 1) (.int (hi16 c))))
theorem ef_gputc (mid : MethodId) (b : Addr) (i c : Int32) (k : Nat) (vs : List Value)  : entryFrame mid #[(.ref b), (.int i), (.int c)] 3 = mkF mid 0 #[.val (.ref b), .val (.int i), .val (.int c)] [] := by first | (simp [entryFrame, mkF, argsToLocals, Value.category]; done) | rfl
set_option maxRecDepth 65536 in
set_option maxHeartbeats 40000000 in
theorem c_gputc {md : Md} {l : Launch} {Z : State} {n0 : Nat} {a0 : Array Value} (hw : HW a0 Z) (b : Addr) (i c : Int32) (k : Nat) (vs : List Value) {h0 : Heap} (A : Ary Z h0 b .byte vs) (n0b : n0 ≤ b) (hi : i.toInt = (k : Int)) (hk : k ≤ 1000) (hv : 2 * k + 1 < vs.length) (UA : Sta Z Z.heap "java/lang/StringUTF16" "$assertionsDisabled" "Z" (.int 1)) (UH : Sta Z Z.heap "java/lang/StringUTF16" "HI_BYTE_SHIFT" "I" (.int 0)) (UL : Sta Z Z.heap "java/lang/StringUTF16" "LO_BYTE_SHIFT" "I" (.int 8))  : G_gputc md l Z n0 b i c k vs h0 0 0 [b] h0 0 #[.val (.ref b), .val (.int i), .val (.int c)] [] := by
  refine Go.getS 3 d28_0 rfl (w145 hw) Via.refl UA ?_
  refine Go.ifY 28 d28_3 (by decide) (by decide) (feq (by decide)).2 ?_
  refine Go.iloadN 29 d28_28 rfl rfl ?_
  refine Go.iconst 30 (1 : Int32) d28_29 rfl rfl ?_
  refine Go.ishl 31 d28_30 rfl ?_
  refine Go.istoreN 32 #[.val (.ref b), .val (.int (i <<< ((1 : Int32) &&& 31))), .val (.int c)] d28_31 rfl rfl ?_
  refine Go.aloadN 33 d28_32 rfl rfl rfl ?_
  refine Go.iloadN 34 d28_33 rfl rfl ?_
  refine Go.iinc 37 #[.val (.ref b), .val (.int ((i <<< ((1 : Int32) &&& 31)) + (1 : Int32))), .val (.int c)] (1 : Int32) d28_34 rfl rfl rfl rfl ?_
  refine Go.iloadN 38 d28_37 rfl rfl ?_
  refine Go.getS 41 d28_38 rfl (w146 hw) Via.refl UH ?_
  refine Go.ishr 42 d28_41 rfl ?_
  refine Go.i2b 43 d28_42 rfl ?_
  refine Go.bastore (2 * k) 44 d28_43 rfl A (shl1g hi (by omega)) (by first | omega | (rw [List.length_set]; omega)) (List.mem_of_getElem? (i := 0) rfl) n0b (fun h_1 W_2 A_3 => ?_)
  have A_4 : Ary Z h_1 b .byte (vs.set (2 * k) (.int (lo16 c))) := by have q_ := A_3; rw [i8_idem] at q_; exact q_
  refine Go.aloadN 45 d28_44 rfl rfl rfl ?_
  refine Go.iloadN 46 d28_45 rfl rfl ?_
  refine Go.iloadN 47 d28_46 rfl rfl ?_
  refine Go.getS 50 d28_47 rfl (w147 hw) Via.refl UL ?_
  refine Go.ishr 51 d28_50 rfl ?_
  refine Go.i2b 52 d28_51 rfl ?_
  refine Go.bastore (2 * k + 1) 53 d28_52 rfl A_4 (shl1s hi (by omega)) (by first | omega | (rw [List.length_set]; omega)) (List.mem_of_getElem? (i := 0) rfl) n0b (fun h_5 W_6 A_7 => ?_)
  have A_8 : Ary Z h_5 b .byte ((vs.set (2 * k) (.int (lo16 c))).set (2 * k + 1) (.int (hi16 c))) := by have q_ := A_7; rw [i8_idem] at q_; exact q_
  exact Go.ret0 d28_53 rfl (sf' := []) (⟨rfl, (((Keep.refl h0 [b]).wr W_2 (Or.inl (List.mem_of_getElem? (i := 0) rfl))).wr W_6 (Or.inl (List.mem_of_getElem? (i := 0) rfl))), A_8⟩) (fun _ q => nomatch q) (Nat.le_of_ble_eq_true rfl) (Nat.le_of_ble_eq_true rfl)
abbrev G_ggetc (md : Md) (l : Launch) (Z : State) (n0 : Nat) (b : Addr) (i x y : Int32) (k : Nat) (vs : List Value) (h0 : Heap) := Go md l Z n0 ({ frames := 0, cells := 0, slots := 0, locals := 0 } : Room) jdk_52_method_5_code 2 (some .char) "java/lang/StringUTF16" "getChar" (fun v h' _ => h0 = h' ∧ v = some (.int (getc x y)))
theorem ef_ggetc (mid : MethodId) (b : Addr) (i x y : Int32) (k : Nat) (vs : List Value)  : entryFrame mid #[(.ref b), (.int i)] 2 = mkF mid 0 #[.val (.ref b), .val (.int i)] [] := by first | (simp [entryFrame, mkF, argsToLocals, Value.category]; done) | rfl
set_option maxRecDepth 65536 in
set_option maxHeartbeats 40000000 in
theorem c_ggetc {md : Md} {l : Launch} {Z : State} {n0 : Nat} {a0 : Array Value} (hw : HW a0 Z) (b : Addr) (i x y : Int32) (k : Nat) (vs : List Value) {h0 : Heap} (A : Ary Z h0 b .byte vs) (hi : i.toInt = (k : Int)) (hk : k ≤ 1000) (hx : vs[2 * k]? = some (.int x)) (hy : vs[2 * k + 1]? = some (.int y)) (UA : Sta Z Z.heap "java/lang/StringUTF16" "$assertionsDisabled" "Z" (.int 1)) (UH : Sta Z Z.heap "java/lang/StringUTF16" "HI_BYTE_SHIFT" "I" (.int 0)) (UL : Sta Z Z.heap "java/lang/StringUTF16" "LO_BYTE_SHIFT" "I" (.int 8))  : G_ggetc md l Z n0 b i x y k vs h0 0 0 [] h0 0 #[.val (.ref b), .val (.int i)] [] := by
  refine Go.getS 3 d29_0 rfl (w145 hw) Via.refl UA ?_
  refine Go.ifY 28 d29_3 (by decide) (by decide) (feq (by decide)).2 ?_
  refine Go.iloadN 29 d29_28 rfl rfl ?_
  refine Go.iconst 30 (1 : Int32) d29_29 rfl rfl ?_
  refine Go.ishl 31 d29_30 rfl ?_
  refine Go.istoreN 32 #[.val (.ref b), .val (.int (i <<< ((1 : Int32) &&& 31)))] d29_31 rfl rfl ?_
  refine Go.aloadN 33 d29_32 rfl rfl rfl ?_
  refine Go.iloadN 34 d29_33 rfl rfl ?_
  refine Go.iinc 37 #[.val (.ref b), .val (.int ((i <<< ((1 : Int32) &&& 31)) + (1 : Int32)))] (1 : Int32) d29_34 rfl rfl rfl rfl ?_
  refine Go.baload (2 * k) 38 d29_37 rfl A (shl1g hi (by omega)) hx ?_
  refine Go.sipush 41 (255 : Int32) d29_38 rfl rfl ?_
  refine Go.iand 42 d29_41 rfl ?_
  refine Go.getS 45 d29_42 rfl (w146 hw) Via.refl UH ?_
  refine Go.ishl 46 d29_45 rfl ?_
  refine Go.aloadN 47 d29_46 rfl rfl rfl ?_
  refine Go.iloadN 48 d29_47 rfl rfl ?_
  refine Go.baload (2 * k + 1) 49 d29_48 rfl A (shl1s hi (by omega)) hy ?_
  refine Go.sipush 52 (255 : Int32) d29_49 rfl rfl ?_
  refine Go.iand 53 d29_52 rfl ?_
  refine Go.getS 56 d29_53 rfl (w147 hw) Via.refl UL ?_
  refine Go.ishl 57 d29_56 rfl ?_
  refine Go.ior 58 d29_57 rfl ?_
  refine Go.i2c 59 d29_58 rfl ?_
  exact Go.retN (getc x y) d29_59 rfl (t := .char) (by simp) (nar_cc (chp_chr _)) (sf' := []) (⟨rfl, rfl⟩) (fun _ q => nomatch q) (Nat.le_of_ble_eq_true rfl) (Nat.le_of_ble_eq_true rfl)
abbrev G_gnbl (md : Md) (l : Launch) (Z : State) (n0 : Nat) (cs : List Int32) (h0 : Heap) := Go md l Z n0 ({ frames := 0, cells := 0, slots := 0, locals := 0 } : Room) jdk_52_method_3_code 1 (some .int) "java/lang/StringUTF16" "newBytesLength" (fun v h' _ => h0 = h' ∧ v = some (.int ((Int32.ofNat cs.length) <<< ((1 : Int32) &&& 31))))
theorem ef_gnbl (mid : MethodId) (cs : List Int32)  : entryFrame mid #[(.int (Int32.ofNat cs.length))] 1 = mkF mid 0 #[.val (.int (Int32.ofNat cs.length))] [] := by first | (simp [entryFrame, mkF, argsToLocals, Value.category]; done) | rfl
set_option maxRecDepth 65536 in
set_option maxHeartbeats 40000000 in
theorem c_gnbl {md : Md} {l : Launch} {Z : State} {n0 : Nat} {a0 : Array Value} (hw : HW a0 Z) (cs : List Int32) {h0 : Heap} (hl : cs.length ≤ 13)  : G_gnbl md l Z n0 cs h0 0 0 [] h0 0 #[.val (.int (Int32.ofNat cs.length))] [] := by
  refine Go.iloadN 1 d27_0 rfl rfl ?_
  refine Go.ifY 12 d27_1 (by decide) (by decide) (flt (ofN_nn (by omega))).2.1 ?_
  refine Go.iloadN 13 d27_12 rfl rfl ?_
  refine Go.ldcI 15 d27_13 rfl (w141 hw) ?_
  refine Go.icmpY 55 d27_15 (by decide) (by decide) (tlt (ofN_lim (by omega))).1 ?_
  refine Go.iloadN 56 d27_55 rfl rfl ?_
  refine Go.iconst 57 (1 : Int32) d27_56 rfl rfl ?_
  refine Go.ishl 58 d27_57 rfl ?_
  exact Go.retI d27_58 rfl (sf' := []) (⟨rfl, rfl⟩) (fun _ q => nomatch q) (Nat.le_of_ble_eq_true rfl) (Nat.le_of_ble_eq_true rfl)
abbrev G_gnbf (md : Md) (l : Launch) (Z : State) (n0 : Nat) (cs : List Int32) (h0 : Heap) := Go md l Z n0 ({ frames := 1, cells := 1, slots := 26, locals := 12 } : Room) jdk_52_method_2_code 1 (some (.array .byte)) "java/lang/StringUTF16" "newBytesFor" (fun v h' sf' => ∃ x, v = some (.ref x) ∧ Ext h0 h' ∧ h0.size ≤ x ∧ Ary Z h' x .byte (zer (2 * cs.length)) ∧ sf' = [x] ∧ n0 ≤ x)
theorem ef_gnbf (mid : MethodId) (cs : List Int32)  : entryFrame mid #[(.int (Int32.ofNat cs.length))] 1 = mkF mid 0 #[.val (.int (Int32.ofNat cs.length))] [] := by first | (simp [entryFrame, mkF, argsToLocals, Value.category]; done) | rfl
set_option maxRecDepth 65536 in
set_option maxHeartbeats 40000000 in
theorem c_gnbf {md : Md} {l : Launch} {Z : State} {n0 : Nat} {a0 : Array Value} (hw : HW a0 Z) (cs : List Int32) {h0 : Heap} (hl : cs.length ≤ 13)  : G_gnbf md l Z n0 cs h0 0 0 [] h0 0 #[.val (.int (Int32.ofNat cs.length))] [] := by
  refine Go.iloadN 1 d26_0 rfl rfl ?_
  refine Go.callS (S := []) 4 [(.int (Int32.ofNat cs.length))] d26_1 rfl rfl (w138 hw) (w139 hw) (w73 hw) (w140 hw) (by decide) (call_of_go (R := _) (len := 3) (W := 0) (plainFor_of_name pn_0) (fun mid => ef_gnbl mid cs ) (c_gnbl hw cs hl) (w140 hw) (w73 hw) (by decide) (by decide)) (lenOf pd_0 rfl) (Nat.le_of_ble_eq_true rfl) rfl (Nat.le_of_ble_eq_true rfl) (Nat.le_of_ble_eq_true rfl) (fun _ q => nomatch q) (fun v h_1 sf_2 hq => ?_)
  obtain ⟨rfl, rfl⟩ := hq
  refine Go.more (sf' := []) ?_ (Nat.le_refl _) (Nat.le_refl _) (fun _ q => List.mem_append_right _ q)
  show G_gnbf md l Z n0 cs h0 0 0 [] h0 4 #[.val (.int (Int32.ofNat cs.length))] [(.int ((Int32.ofNat cs.length) <<< ((1 : Int32) &&& 31)))]
  refine Go.newA (2 * cs.length) 6 d26_4 rfl rfl (w3 hw) (shl1g (ofNat_toInt (by omega)) (by omega)) 26 (by omega) (by decide) (Nat.le_of_ble_eq_true rfl) (Nat.le_of_ble_eq_true rfl) (fun h2 d g_d q_d X_d lt_d A0 => ?_)
  have A_d : Ary Z h2 d .byte (zer (2 * cs.length)) := A0
  show G_gnbf md l Z n0 cs h0 1 26 [d] h2 6 #[.val (.int (Int32.ofNat cs.length))] [(.ref d)]
  exact Go.retA d26_6 rfl rfl rfl (sf' := [d]) (⟨_, rfl, X_d, Nat.le_of_eq g_d, A_d, rfl, q_d⟩) (sub1 (List.mem_of_getElem? (i := 0) rfl)) (Nat.le_of_ble_eq_true rfl) (Nat.le_of_ble_eq_true rfl)
abbrev G_gtob (md : Md) (l : Launch) (Z : State) (n0 : Nat) (b : Addr) (cs : List Int32) (h0 : Heap) := Go md l Z n0 ({ frames := 2, cells := 1, slots := 26, locals := 24 } : Room) jdk_52_method_14_code 5 (some (.array .byte)) "java/lang/StringUTF16" "toBytes" (fun v h' _ => ∃ x, v = some (.ref x) ∧ Ext h0 h' ∧ h0.size ≤ x ∧ Ary Z h' x .byte (wide cs))
theorem ef_gtob (mid : MethodId) (b : Addr) (cs : List Int32)  : entryFrame mid #[(.ref b), (.int (0 : Int32)), (.int (Int32.ofNat cs.length))] 5 = mkF mid 0 #[.val (.ref b), .val (.int (0 : Int32)), .val (.int (Int32.ofNat cs.length)), .unset, .unset] [] := by first | (simp [entryFrame, mkF, argsToLocals, Value.category]; done) | rfl
set_option maxRecDepth 65536 in
set_option maxHeartbeats 40000000 in
theorem c_gtob {md : Md} {l : Launch} {Z : State} {n0 : Nat} {a0 : Array Value} (hw : HW a0 Z) (b : Addr) (cs : List Int32) {h0 : Heap} (A : Ary Z h0 b .char (cs.map Value.int)) (hl : cs.length ≤ 13) (UA : Sta Z Z.heap "java/lang/StringUTF16" "$assertionsDisabled" "Z" (.int 1)) (UH : Sta Z Z.heap "java/lang/StringUTF16" "HI_BYTE_SHIFT" "I" (.int 0)) (UL : Sta Z Z.heap "java/lang/StringUTF16" "LO_BYTE_SHIFT" "I" (.int 8))  : G_gtob md l Z n0 b cs h0 0 0 [] h0 0 #[.val (.ref b), .val (.int (0 : Int32)), .val (.int (Int32.ofNat cs.length)), .unset, .unset] [] := by
  refine Go.iloadN 1 d25_0 rfl rfl ?_
  refine Go.callS (S := []) 4 [(.int (Int32.ofNat cs.length))] d25_1 rfl rfl (w135 hw) (w136 hw) (w73 hw) (w137 hw) (by decide) (call_of_go (R := _) (len := 3) (W := 0) (plainFor_of_name pn_0) (fun mid => ef_gnbf mid cs ) (c_gnbf hw cs hl) (w137 hw) (w73 hw) (by decide) (by decide)) (lenOf pd_1 rfl) (Nat.le_of_ble_eq_true rfl) rfl (Nat.le_of_ble_eq_true rfl) (Nat.le_of_ble_eq_true rfl) (fun _ q => nomatch q) (fun v h_1 sf_2 hq => ?_)
  obtain ⟨d, rfl, X_d, le_d, A_d, rfl, n0d⟩ := hq
  show G_gtob md l Z n0 b cs h0 1 26 [d] h_1 4 #[.val (.ref b), .val (.int (0 : Int32)), .val (.int (Int32.ofNat cs.length)), .unset, .unset] [(.ref d)]
  refine Go.astoreN 5 #[.val (.ref b), .val (.int (0 : Int32)), .val (.int (Int32.ofNat cs.length)), .val (.ref d), .unset] d25_4 rfl rfl rfl ?_
  refine Go.iconst 6 (0 : Int32) d25_5 rfl rfl ?_
  refine Go.istore 8 #[.val (.ref b), .val (.int (0 : Int32)), .val (.int (Int32.ofNat cs.length)), .val (.ref d), .val (.int (0 : Int32))] d25_6 rfl rfl ?_
  have ndb : d ≠ b := Nat.ne_of_gt (Nat.lt_of_lt_of_le A.lt le_d)
  have lp : ∀ (dd : Nat) (h : Heap) (o i : Int32) (k : Nat) (ho : o.toInt = (k : Int)) (hi : i.toInt = (k : Int)) (hd : k + dd = cs.length) (X : Ext h0 h) (Ab : Ary Z h b .char (cs.map Value.int)) (Ad : Ary Z h d .byte (wide (cs.take k) ++ zer (2 * (cs.length - k)))), G_gtob md l Z n0 b cs h0 1 26 [d] h 8 #[.val (.ref b), .val (.int o), .val (.int (Int32.ofNat cs.length)), .val (.ref d), .val (.int i)] [] := by
    intro dd
    induction dd with
    | zero =>
      intro h o i k ho hi hd X Ab Ad
      refine Go.iload 10 d25_8 rfl rfl ?_
      refine Go.iloadN 11 d25_10 rfl rfl ?_
      refine Go.icmpY 32 d25_11 (by decide) (by decide) (flt (leng_no hi (by omega) (by omega))).2.1 ?_
      refine Go.aloadN 33 d25_32 rfl rfl rfl ?_
      exact Go.retA d25_33 rfl rfl rfl (sf' := []) (⟨_, rfl, X, le_d, by rw [show k = cs.length from by omega, wide_done] at Ad; exact Ad⟩) (fun _ q => nomatch q) (Nat.le_of_ble_eq_true rfl) (Nat.le_of_ble_eq_true rfl)
    | succ dd ih =>
      intro h o i k ho hi hd X Ab Ad
      obtain ⟨y, hy⟩ : ∃ y, cs[k]? = some y := ⟨_, List.getElem?_eq_getElem (by omega)⟩
      refine Go.iload 10 d25_8 rfl rfl ?_
      refine Go.iloadN 11 d25_10 rfl rfl ?_
      refine Go.icmpN 14 d25_11 rfl (tlt (leng_yes hi (by omega) (by omega))).2.1 ?_
      refine Go.aloadN 15 d25_14 rfl rfl rfl ?_
      refine Go.iload 17 d25_15 rfl rfl ?_
      refine Go.aloadN 18 d25_17 rfl rfl rfl ?_
      refine Go.iloadN 19 d25_18 rfl rfl ?_
      refine Go.caload k 20 d25_19 rfl Ab ho (by rw [List.getElem?_map, hy]; rfl) ?_
      refine Go.callS (S := []) 23 [(.ref d), (.int i), (.int y)] d25_20 rfl rfl (w142 hw) (w143 hw) (w73 hw) (w144 hw) (by decide) (call_of_go (R := _) (len := 3) (W := 0) (plainFor_of_name pn_0) (fun mid => ef_gputc mid d i y k (wide (cs.take k) ++ zer (2 * (cs.length - k))) ) (c_gputc hw d i y k (wide (cs.take k) ++ zer (2 * (cs.length - k))) Ad n0d hi (by omega) (by rw [List.length_append, wide_len, List.length_take, List.length_replicate]; omega) UA UH UL) (w144 hw) (w73 hw) (by decide) (by decide)) (lenOf pd_2 rfl) (Nat.le_of_ble_eq_true rfl) rfl (Nat.le_of_ble_eq_true rfl) (Nat.le_of_ble_eq_true rfl) (fun _ q => q) (fun v h_3 sf_4 hq => ?_)
      obtain ⟨rfl, K2, A2⟩ := hq
      rw [wide_set hy] at A2
      refine Go.more (sf' := [d]) ?_ (Nat.le_refl _) (Nat.le_refl _) (fun _ q => List.mem_append_right _ q)
      show G_gtob md l Z n0 b cs h0 1 26 [d] h_3 23 #[.val (.ref b), .val (.int o), .val (.int (Int32.ofNat cs.length)), .val (.ref d), .val (.int i)] []
      refine Go.iinc 26 #[.val (.ref b), .val (.int (o + (1 : Int32))), .val (.int (Int32.ofNat cs.length)), .val (.ref d), .val (.int i)] (1 : Int32) d25_23 rfl rfl rfl rfl ?_
      refine Go.iinc 29 #[.val (.ref b), .val (.int (o + (1 : Int32))), .val (.int (Int32.ofNat cs.length)), .val (.ref d), .val (.int (i + (1 : Int32)))] (1 : Int32) d25_26 rfl rfl rfl rfl ?_
      refine Go.goto 8 d25_29 (by decide) (by decide) ?_
      refine Go.more (sf' := [d]) ?_ (Nat.le_refl _) (Nat.le_refl _) (fun _ q => q)
      exact ih _ _ _ (k + 1) (incg ho (by omega)) (incg hi (by omega)) (by omega) (extK X K2 (allS le_d all0)) (Ary.keep K2 Ab (ninS (Ne.symm ndb) nin0)) A2
  exact lp cs.length _ _ _ 0 rfl rfl (by omega) X_d (A.ext X_d) (by simpa [GK.wide] using A_d)
abbrev G_gcmp5 (md : Md) (l : Launch) (Z : State) (n0 : Nat) (b d : Addr) (cs : List Int32) (h0 : Heap) := Go md l Z n0 ({ frames := 0, cells := 0, slots := 0, locals := 0 } : Room) jdk_52_method_21_code 7 (some .int) "java/lang/StringUTF16" "compress" (fun v h' _ => ∃ r : Int32, v = some (.int r) ∧ Keep h0 h' [d] ∧ ((r = (Int32.ofNat cs.length) ∧ (∀ c ∈ cs, ¬ (255 : Int32) < c) ∧ Ary Z h' d .byte (lowb cs)) ∨ (∃ (i : Nat) (y : Int32), r.toInt = (i : Int) ∧ cs[i]? = some y ∧ (255 : Int32) < y)))
theorem ef_gcmp5 (mid : MethodId) (b d : Addr) (cs : List Int32)  : entryFrame mid #[(.ref b), (.int (0 : Int32)), (.ref d), (.int (0 : Int32)), (.int (Int32.ofNat cs.length))] 7 = mkF mid 0 #[.val (.ref b), .val (.int (0 : Int32)), .val (.ref d), .val (.int (0 : Int32)), .val (.int (Int32.ofNat cs.length)), .unset, .unset] [] := by first | (simp [entryFrame, mkF, argsToLocals, Value.category]; done) | rfl
set_option maxRecDepth 65536 in
set_option maxHeartbeats 40000000 in
theorem c_gcmp5 {md : Md} {l : Launch} {Z : State} {n0 : Nat} {a0 : Array Value} (hw : HW a0 Z) (b d : Addr) (cs : List Int32) {h0 : Heap} (A : Ary Z h0 b .char (cs.map Value.int)) (D : Ary Z h0 d .byte (zer cs.length)) (n0d : n0 ≤ d) (nbd : b ≠ d) (hl : cs.length ≤ 13)  : G_gcmp5 md l Z n0 b d cs h0 0 0 [d] h0 0 #[.val (.ref b), .val (.int (0 : Int32)), .val (.ref d), .val (.int (0 : Int32)), .val (.int (Int32.ofNat cs.length)), .unset, .unset] [] := by
  refine Go.iconst 1 (0 : Int32) d15_0 rfl rfl ?_
  refine Go.istore 3 #[.val (.ref b), .val (.int (0 : Int32)), .val (.ref d), .val (.int (0 : Int32)), .val (.int (Int32.ofNat cs.length)), .val (.int (0 : Int32)), .unset] d15_1 rfl rfl ?_
  have lp : ∀ (dd : Nat) (h : Heap) (o p i : Int32) (s6 : Slot) (k : Nat) (ho : o.toInt = (k : Int)) (hp : p.toInt = (k : Int)) (hi : i.toInt = (k : Int)) (hd : k + dd = cs.length) (hs6 : ∀ c : Int32, storeLocals #[.val (.ref b), .val (.int o), .val (.ref d), .val (.int p), .val (.int (Int32.ofNat cs.length)), .val (.int i), s6] 6 (.int c) = some #[.val (.ref b), .val (.int o), .val (.ref d), .val (.int p), .val (.int (Int32.ofNat cs.length)), .val (.int i), .val (.int c)]) (K : Keep h0 h [d]) (Ab : Ary Z h b .char (cs.map Value.int)) (Ad : Ary Z h d .byte (lowb (cs.take k) ++ zer (cs.length - k))) (hq : ∀ c ∈ cs.take k, ¬ (255 : Int32) < c), G_gcmp5 md l Z n0 b d cs h0 0 0 [d] h 3 #[.val (.ref b), .val (.int o), .val (.ref d), .val (.int p), .val (.int (Int32.ofNat cs.length)), .val (.int i), s6] [] := by
    intro dd
    induction dd with
    | zero =>
      intro h o p i s6 k ho hp hi hd hs6 K Ab Ad hq
      refine Go.iload 5 d15_3 rfl rfl ?_
      refine Go.iload 7 d15_5 rfl rfl ?_
      refine Go.icmpY 44 d15_7 (by decide) (by decide) (flt (leng_no hi (by omega) (by omega))).2.1 ?_
      refine Go.iload 46 d15_44 rfl rfl ?_
      exact Go.retI d15_46 rfl (sf' := []) (⟨_, rfl, K, Or.inl ⟨rfl, by rw [show k = cs.length from by omega, List.take_length] at hq; exact hq, by rw [show k = cs.length from by omega, low_done] at Ad; exact Ad⟩⟩) (fun _ q => nomatch q) (Nat.le_of_ble_eq_true rfl) (Nat.le_of_ble_eq_true rfl)
    | succ dd ih =>
      intro h o p i s6 k ho hp hi hd hs6 K Ab Ad hq
      obtain ⟨y, hy⟩ : ∃ y, cs[k]? = some y := ⟨_, List.getElem?_eq_getElem (by omega)⟩
      refine Go.iload 5 d15_3 rfl rfl ?_
      refine Go.iload 7 d15_5 rfl rfl ?_
      refine Go.icmpN 10 d15_7 rfl (tlt (leng_yes hi (by omega) (by omega))).2.1 ?_
      refine Go.aloadN 11 d15_10 rfl rfl rfl ?_
      refine Go.iloadN 12 d15_11 rfl rfl ?_
      refine Go.caload k 13 d15_12 rfl Ab ho (by rw [List.getElem?_map, hy]; rfl) ?_
      refine Go.istore 15 #[.val (.ref b), .val (.int o), .val (.ref d), .val (.int p), .val (.int (Int32.ofNat cs.length)), .val (.int i), .val (.int y)] d15_13 rfl (hs6 y) ?_
      refine Go.iload 17 d15_15 rfl rfl ?_
      refine Go.sipush 20 (255 : Int32) d15_17 rfl rfl ?_
      by_cases hc20 : (255 : Int32) < y
      · skip
        refine Go.icmpN 23 d15_20 rfl (tlt hc20).2.2.2 ?_
        refine Go.iload 25 d15_23 rfl rfl ?_
        exact Go.retI d15_25 rfl (sf' := []) (⟨_, rfl, K, Or.inr ⟨k, y, hi, hy, hc20⟩⟩) (fun _ q => nomatch q) (Nat.le_of_ble_eq_true rfl) (Nat.le_of_ble_eq_true rfl)
      · skip
        refine Go.icmpY 26 d15_20 (by decide) (by decide) (flt hc20).2.2.2 ?_
        refine Go.aloadN 27 d15_26 rfl rfl rfl ?_
        refine Go.iloadN 28 d15_27 rfl rfl ?_
        refine Go.iload 30 d15_28 rfl rfl ?_
        refine Go.i2b 31 d15_30 rfl ?_
        refine Go.bastore k 32 d15_31 rfl Ad hp (by rw [List.length_append, List.length_map, List.length_map, List.length_take, List.length_replicate]; omega) (List.mem_of_getElem? (i := 0) rfl) n0d (fun h2 W2 A2 => ?_)
        have A3 : Ary Z h2 d .byte (lowb (cs.take (k + 1)) ++ zer (cs.length - (k + 1))) := by rw [i8_idem, low_set hy] at A2; exact A2
        refine Go.iinc 35 #[.val (.ref b), .val (.int (o + (1 : Int32))), .val (.ref d), .val (.int p), .val (.int (Int32.ofNat cs.length)), .val (.int i), .val (.int y)] (1 : Int32) d15_32 rfl rfl rfl rfl ?_
        refine Go.iinc 38 #[.val (.ref b), .val (.int (o + (1 : Int32))), .val (.ref d), .val (.int (p + (1 : Int32))), .val (.int (Int32.ofNat cs.length)), .val (.int i), .val (.int y)] (1 : Int32) d15_35 rfl rfl rfl rfl ?_
        refine Go.iinc 41 #[.val (.ref b), .val (.int (o + (1 : Int32))), .val (.ref d), .val (.int (p + (1 : Int32))), .val (.int (Int32.ofNat cs.length)), .val (.int (i + (1 : Int32))), .val (.int y)] (1 : Int32) d15_38 rfl rfl rfl rfl ?_
        refine Go.goto 3 d15_41 (by decide) (by decide) ?_
        exact ih _ _ _ _ _ (k + 1) (incg ho (by omega)) (incg hp (by omega)) (incg hi (by omega)) (by omega) (fun _ => rfl) (K.wr W2 (Or.inl (List.mem_of_getElem? (i := 0) rfl))) (Ab.other W2 nbd) A3 (fun c hc => by rw [(take_g hy).1] at hc; rcases List.mem_append.mp hc with q | q; exact hq c q; rw [List.mem_singleton.mp q]; exact hc20)
  exact lp cs.length _ _ _ _ _ 0 rfl rfl rfl (by omega) (fun _ => rfl) (Keep.refl h0 [d]) A (by simpa using D) (fun c hc => by simp at hc)
abbrev G_gcmp3 (md : Md) (l : Launch) (Z : State) (n0 : Nat) (b : Addr) (cs : List Int32) (h0 : Heap) := Go md l Z n0 ({ frames := 3, cells := 2, slots := 39, locals := 40 } : Room) jdk_52_method_16_code 6 (some (.array .byte)) "java/lang/StringUTF16" "compress" (fun v h' _ => ∃ x, v = some (.ref x) ∧ Ext h0 h' ∧ h0.size ≤ x ∧ (((∀ c ∈ cs, ¬ (255 : Int32) < c) ∧ Ary Z h' x .byte (lowb cs)) ∨ ((∃ c ∈ cs, (255 : Int32) < c) ∧ Ary Z h' x .byte (wide cs))))
theorem ef_gcmp3 (mid : MethodId) (b : Addr) (cs : List Int32)  : entryFrame mid #[(.ref b), (.int (0 : Int32)), (.int (Int32.ofNat cs.length))] 6 = mkF mid 0 #[.val (.ref b), .val (.int (0 : Int32)), .val (.int (Int32.ofNat cs.length)), .unset, .unset, .unset] [] := by first | (simp [entryFrame, mkF, argsToLocals, Value.category]; done) | rfl
set_option maxRecDepth 65536 in
set_option maxHeartbeats 40000000 in
theorem c_gcmp3 {md : Md} {l : Launch} {Z : State} {n0 : Nat} {a0 : Array Value} (hw : HW a0 Z) (b : Addr) (cs : List Int32) {h0 : Heap} (A : Ary Z h0 b .char (cs.map Value.int)) (hch : ∀ c ∈ cs, CHP c) (hl : cs.length ≤ 13) (UA : Sta Z Z.heap "java/lang/StringUTF16" "$assertionsDisabled" "Z" (.int 1)) (UH : Sta Z Z.heap "java/lang/StringUTF16" "HI_BYTE_SHIFT" "I" (.int 0)) (UL : Sta Z Z.heap "java/lang/StringUTF16" "LO_BYTE_SHIFT" "I" (.int 8))  : G_gcmp3 md l Z n0 b cs h0 0 0 [] h0 0 #[.val (.ref b), .val (.int (0 : Int32)), .val (.int (Int32.ofNat cs.length)), .unset, .unset, .unset] [] := by
  refine Go.iloadN 1 d14_0 rfl rfl ?_
  refine Go.newA cs.length 3 d14_1 rfl rfl (w3 hw) (ofNat_toInt (by omega)) 13 hl (by decide) (Nat.le_of_ble_eq_true rfl) (Nat.le_of_ble_eq_true rfl) (fun h1 d g_d q_d X_d lt_d A0 => ?_)
  have A_d : Ary Z h1 d .byte (zer cs.length) := A0
  show G_gcmp3 md l Z n0 b cs h0 1 13 [d] h1 3 #[.val (.ref b), .val (.int (0 : Int32)), .val (.int (Int32.ofNat cs.length)), .unset, .unset, .unset] [(.ref d)]
  have nbd : b ≠ d := Nat.ne_of_lt (Nat.lt_of_lt_of_le A.lt (Nat.le_of_eq g_d))
  refine Go.astoreN 4 #[.val (.ref b), .val (.int (0 : Int32)), .val (.int (Int32.ofNat cs.length)), .val (.ref d), .unset, .unset] d14_3 rfl rfl rfl ?_
  refine Go.aloadN 5 d14_4 rfl rfl rfl ?_
  refine Go.iloadN 6 d14_5 rfl rfl ?_
  refine Go.aloadN 7 d14_6 rfl rfl rfl ?_
  refine Go.iconst 8 (0 : Int32) d14_7 rfl rfl ?_
  refine Go.iloadN 9 d14_8 rfl rfl ?_
  have f_1 := A.ext X_d
  refine Go.callS (S := []) 12 [(.ref b), (.int (0 : Int32)), (.ref d), (.int (0 : Int32)), (.int (Int32.ofNat cs.length))] d14_9 rfl rfl (w75 hw) (w76 hw) (w73 hw) (w77 hw) (by decide) (call_of_go (R := _) (len := 3) (W := 0) (plainFor_of_name pn_0) (fun mid => ef_gcmp5 mid b d cs ) (c_gcmp5 hw b d cs f_1 A_d q_d nbd hl) (w77 hw) (w73 hw) (by decide) (by decide)) (lenOf pd_3 rfl) (Nat.le_of_ble_eq_true rfl) rfl (Nat.le_of_ble_eq_true rfl) (Nat.le_of_ble_eq_true rfl) (fun _ q => q) (fun v h_2 sf_3 hq => ?_)
  obtain ⟨r, rfl, K5, ⟨rfl, hlat, D5⟩ | ⟨i, y, hr, hy, hbig⟩⟩ := hq
  · skip
    refine Go.more (sf' := [d]) ?_ (Nat.le_refl _) (Nat.le_refl _) (fun _ q => List.mem_append_right _ q)
    show G_gcmp3 md l Z n0 b cs h0 1 13 [d] h_2 12 #[.val (.ref b), .val (.int (0 : Int32)), .val (.int (Int32.ofNat cs.length)), .val (.ref d), .unset, .unset] [(.int (Int32.ofNat cs.length))]
    refine Go.istore 14 #[.val (.ref b), .val (.int (0 : Int32)), .val (.int (Int32.ofNat cs.length)), .val (.ref d), .val (.int (Int32.ofNat cs.length)), .unset] d14_12 rfl rfl ?_
    refine Go.iload 16 d14_14 rfl rfl ?_
    refine Go.iloadN 17 d14_16 rfl rfl ?_
    refine Go.icmpY 57 d14_17 (by decide) (by decide) (teq rfl).1 ?_
    refine Go.aloadN 58 d14_57 rfl rfl rfl ?_
    have X_4 : Ext h0 h_2 := extK X_d K5 (allS (Nat.le_of_eq g_d) all0)
    exact Go.retA d14_58 rfl rfl rfl (sf' := []) (⟨_, rfl, X_4, (Nat.le_of_eq g_d), Or.inl ⟨hlat, D5⟩⟩) (fun _ q => nomatch q) (Nat.le_of_ble_eq_true rfl) (Nat.le_of_ble_eq_true rfl)
  · skip
    refine Go.more (sf' := [d]) ?_ (Nat.le_refl _) (Nat.le_refl _) (fun _ q => List.mem_append_right _ q)
    show G_gcmp3 md l Z n0 b cs h0 1 13 [d] h_2 12 #[.val (.ref b), .val (.int (0 : Int32)), .val (.int (Int32.ofNat cs.length)), .val (.ref d), .unset, .unset] [(.int r)]
    refine Go.istore 14 #[.val (.ref b), .val (.int (0 : Int32)), .val (.int (Int32.ofNat cs.length)), .val (.ref d), .val (.int r), .unset] d14_12 rfl rfl ?_
    refine Go.iload 16 d14_14 rfl rfl ?_
    refine Go.iloadN 17 d14_16 rfl rfl ?_
    refine Go.icmpN 20 d14_17 rfl (feq (ofN_ne hr (take_g hy).2 (by omega))).1 ?_
    refine Go.aloadN 21 d14_20 rfl rfl rfl ?_
    refine Go.iloadN 22 d14_21 rfl rfl ?_
    refine Go.iloadN 23 d14_22 rfl rfl ?_
    have X_5 : Ext h0 h_2 := extK X_d K5 (allS (Nat.le_of_eq g_d) all0)
    have f_6 := A.ext X_5
    refine Go.callS (S := []) 26 [(.ref b), (.int (0 : Int32)), (.int (Int32.ofNat cs.length))] d14_23 rfl rfl (w132 hw) (w133 hw) (w73 hw) (w134 hw) (by decide) (call_of_go (R := _) (len := 3) (W := 0) (plainFor_of_name pn_0) (fun mid => ef_gtob mid b cs ) (c_gtob hw b cs f_6 hl UA UH UL) (w134 hw) (w73 hw) (by decide) (by decide)) (lenOf pd_4 rfl) (Nat.le_of_ble_eq_true rfl) rfl (Nat.le_of_ble_eq_true rfl) (Nat.le_of_ble_eq_true rfl) (fun _ q => nomatch q) (fun v h_7 sf_8 hq => ?_)
    obtain ⟨x, rfl, Xx, le_x, Ax⟩ := hq
    refine Go.more (sf' := [d]) ?_ (Nat.le_refl _) (Nat.le_refl _) (fun _ q => List.mem_append_right _ q)
    show G_gcmp3 md l Z n0 b cs h0 2 39 [d] h_7 26 #[.val (.ref b), .val (.int (0 : Int32)), .val (.int (Int32.ofNat cs.length)), .val (.ref d), .val (.int r), .unset] [(.ref x)]
    refine Go.astore 28 #[.val (.ref b), .val (.int (0 : Int32)), .val (.int (Int32.ofNat cs.length)), .val (.ref d), .val (.int r), .val (.ref x)] d14_26 rfl rfl rfl ?_
    refine Go.aload 30 d14_28 rfl rfl rfl ?_
    refine Go.iload 32 d14_30 rfl rfl ?_
    refine Go.callS (S := []) 35 [(.ref x), (.int r)] d14_32 rfl rfl (w148 hw) (w149 hw) (w73 hw) (w150 hw) (by decide) (call_of_go (R := _) (len := 3) (W := 0) (plainFor_of_name pn_0) (fun mid => ef_ggetc mid x r (lo16 y) (hi16 y) i (wide cs) ) (c_ggetc hw x r (lo16 y) (hi16 y) i (wide cs) Ax hr (by have := (take_g hy).2; omega) (wide_at hy).1 (wide_at hy).2 UA UH UL) (w150 hw) (w73 hw) (by decide) (by decide)) (lenOf pd_5 rfl) (Nat.le_of_ble_eq_true rfl) rfl (Nat.le_of_ble_eq_true rfl) (Nat.le_of_ble_eq_true rfl) (fun _ q => nomatch q) (fun v h_9 sf_10 hq => ?_)
    obtain ⟨rfl, rfl⟩ := hq
    rw [rt16 (hch y (List.mem_of_getElem? hy))]
    refine Go.more (sf' := [d]) ?_ (Nat.le_refl _) (Nat.le_refl _) (fun _ q => List.mem_append_right _ q)
    show G_gcmp3 md l Z n0 b cs h0 2 39 [d] h_7 35 #[.val (.ref b), .val (.int (0 : Int32)), .val (.int (Int32.ofNat cs.length)), .val (.ref d), .val (.int r), .val (.ref x)] [(.int y)]
    refine Go.sipush 38 (255 : Int32) d14_35 rfl rfl ?_
    refine Go.icmpY 54 d14_38 (by decide) (by decide) (tlt hbig).2.2.1 ?_
    refine Go.aload 56 d14_54 rfl rfl rfl ?_
    have X_11 : Ext h0 h_7 := extT X_5 Xx
    exact Go.retA d14_56 rfl rfl rfl (sf' := []) (⟨_, rfl, X_11, (Nat.le_trans X_5.1 le_x), Or.inr ⟨⟨y, List.mem_of_getElem? hy, hbig⟩, Ax⟩⟩) (fun _ q => nomatch q) (Nat.le_of_ble_eq_true rfl) (Nat.le_of_ble_eq_true rfl)
abbrev G_gcfl0 (md : Md) (l : Launch) (Z : State) (n0 : Nat) (d : Addr) (cs : List Int32) (vs : List Value) (h0 : Heap) := Go md l Z n0 ({ frames := 0, cells := 0, slots := 0, locals := 0 } : Room) jdk_52_method_15_code 2 (some .byte) "java/lang/StringUTF16" "coderFromArrayLen" (fun v h' _ => h0 = h' ∧ v = some (.int 0))
theorem ef_gcfl0 (mid : MethodId) (d : Addr) (cs : List Int32) (vs : List Value)  : entryFrame mid #[(.ref d), (.int (Int32.ofNat cs.length))] 2 = mkF mid 0 #[.val (.ref d), .val (.int (Int32.ofNat cs.length))] [] := by first | (simp [entryFrame, mkF, argsToLocals, Value.category]; done) | rfl
set_option maxRecDepth 65536 in
set_option maxHeartbeats 40000000 in
theorem c_gcfl0 {md : Md} {l : Launch} {Z : State} {n0 : Nat} {a0 : Array Value} (hw : HW a0 Z) (d : Addr) (cs : List Int32) (vs : List Value) {h0 : Heap} (A : Ary Z h0 d .byte vs) (hv : vs.length = cs.length) (hl : cs.length ≤ 13) (hpos : 0 < cs.length) : G_gcfl0 md l Z n0 d cs vs h0 0 0 [] h0 0 #[.val (.ref d), .val (.int (Int32.ofNat cs.length))] [] := by
  refine Go.iloadN 1 d16_0 rfl rfl ?_
  refine Go.aloadN 2 d16_1 rfl rfl rfl ?_
  refine Go.alen 3 (Int32.ofNat cs.length) d16_2 rfl A (by rw [hv]) ?_
  refine Go.isub 4 d16_3 rfl ?_
  refine Go.bipush 6 (31 : Int32) d16_4 rfl rfl ?_
  refine Go.iushr 7 d16_6 rfl ?_
  refine Go.i2b 8 d16_7 rfl ?_
  exact Go.retN (0 : Int32) d16_8 rfl (t := .byte) (by simp) (cfl0 _) (sf' := []) (⟨rfl, rfl⟩) (fun _ q => nomatch q) (Nat.le_of_ble_eq_true rfl) (Nat.le_of_ble_eq_true rfl)
abbrev G_gcfl1 (md : Md) (l : Launch) (Z : State) (n0 : Nat) (d : Addr) (cs : List Int32) (vs : List Value) (h0 : Heap) := Go md l Z n0 ({ frames := 0, cells := 0, slots := 0, locals := 0 } : Room) jdk_52_method_15_code 2 (some .byte) "java/lang/StringUTF16" "coderFromArrayLen" (fun v h' _ => h0 = h' ∧ v = some (.int 1))
theorem ef_gcfl1 (mid : MethodId) (d : Addr) (cs : List Int32) (vs : List Value)  : entryFrame mid #[(.ref d), (.int (Int32.ofNat cs.length))] 2 = mkF mid 0 #[.val (.ref d), .val (.int (Int32.ofNat cs.length))] [] := by first | (simp [entryFrame, mkF, argsToLocals, Value.category]; done) | rfl
set_option maxRecDepth 65536 in
set_option maxHeartbeats 40000000 in
theorem c_gcfl1 {md : Md} {l : Launch} {Z : State} {n0 : Nat} {a0 : Array Value} (hw : HW a0 Z) (d : Addr) (cs : List Int32) (vs : List Value) {h0 : Heap} (A : Ary Z h0 d .byte vs) (hv : vs.length = 2 * cs.length) (hl : cs.length ≤ 13) (hpos : 0 < cs.length) : G_gcfl1 md l Z n0 d cs vs h0 0 0 [] h0 0 #[.val (.ref d), .val (.int (Int32.ofNat cs.length))] [] := by
  refine Go.iloadN 1 d16_0 rfl rfl ?_
  refine Go.aloadN 2 d16_1 rfl rfl rfl ?_
  refine Go.alen 3 (Int32.ofNat (2 * cs.length)) d16_2 rfl A (by rw [hv]) ?_
  refine Go.isub 4 d16_3 rfl ?_
  refine Go.bipush 6 (31 : Int32) d16_4 rfl rfl ?_
  refine Go.iushr 7 d16_6 rfl ?_
  refine Go.i2b 8 d16_7 rfl ?_
  exact Go.retN (1 : Int32) d16_8 rfl (t := .byte) (by simp) (cfl1 hpos (by omega)) (sf' := []) (⟨rfl, rfl⟩) (fun _ q => nomatch q) (Nat.le_of_ble_eq_true rfl) (Nat.le_of_ble_eq_true rfl)
abbrev G_gnew4 (md : Md) (l : Launch) (Z : State) (n0 : Nat) (x b : Addr) (z : Int32) (cs : List Int32) (h0 : Heap) := Go md l Z n0 ({ frames := 4, cells := 2, slots := 39, locals := 57 } : Room) jdk_42_method_149_code 6 none "java/lang/String" "<init>" (fun v h' _ => v = none ∧ Keep h0 h' [x] ∧ Gst Z h' x cs)
theorem ef_gnew4 (mid : MethodId) (x b : Addr) (z : Int32) (cs : List Int32)  : entryFrame mid #[(.ref x), (.ref b), (.int (0 : Int32)), (.int (Int32.ofNat cs.length)), .null] 6 = mkF mid 0 #[.val (.ref x), .val (.ref b), .val (.int (0 : Int32)), .val (.int (Int32.ofNat cs.length)), .val .null, .unset] [] := by first | (simp [entryFrame, mkF, argsToLocals, Value.category]; done) | rfl
set_option maxRecDepth 65536 in
set_option maxHeartbeats 40000000 in
theorem c_gnew4 {md : Md} {l : Launch} {Z : State} {n0 : Nat} {a0 : Array Value} (hw : HW a0 Z) (x b : Addr) (z : Int32) (cs : List Int32) {h0 : Heap} (E : Exa Z h0 x "java/lang/String") (n0x : n0 ≤ x) {v0 u0 : Value} (V : Fld Z h0 x "java/lang/String" "value" "[B" v0) (C : Fld Z h0 x "java/lang/String" "coder" "B" u0) (A : Ary Z h0 b .char (cs.map Value.int)) (hch : ∀ c ∈ cs, CHP c) (hpos : 0 < cs.length) (hl : cs.length ≤ 13) (SC : Sta Z Z.heap "java/lang/String" "COMPACT_STRINGS" "Z" (.int z)) (hz : ¬ z = 0) (UA : Sta Z Z.heap "java/lang/StringUTF16" "$assertionsDisabled" "Z" (.int 1)) (UH : Sta Z Z.heap "java/lang/StringUTF16" "HI_BYTE_SHIFT" "I" (.int 0)) (UL : Sta Z Z.heap "java/lang/StringUTF16" "LO_BYTE_SHIFT" "I" (.int 8))  : G_gnew4 md l Z n0 x b z cs h0 0 0 [x] h0 0 #[.val (.ref x), .val (.ref b), .val (.int (0 : Int32)), .val (.int (Int32.ofNat cs.length)), .val .null, .unset] [] := by
  refine Go.aloadN 1 d12_0 rfl rfl rfl ?_
  refine Go.initO (W := 0) 4 d12_1 rfl (w68 hw) (w69 hw) (w70 hw) rfl (by decide) (Nat.le_of_ble_eq_true rfl) (by decide) ?_
  refine Go.iloadN 5 d12_4 rfl rfl ?_
  refine Go.ifY 27 d12_5 (by decide) (by decide) (feq (ofN_nz hpos (by omega))).2 ?_
  refine Go.getS 30 d12_27 rfl (w22 hw) Via.refl SC ?_
  refine Go.ifN 33 d12_30 rfl (feq hz).1 ?_
  refine Go.aloadN 34 d12_33 rfl rfl rfl ?_
  refine Go.iloadN 35 d12_34 rfl rfl ?_
  refine Go.iloadN 36 d12_35 rfl rfl ?_
  refine Go.callS (S := []) 39 [(.ref b), (.int (0 : Int32)), (.int (Int32.ofNat cs.length))] d12_36 rfl rfl (w71 hw) (w72 hw) (w73 hw) (w74 hw) (by decide) (call_of_go (R := _) (len := 3) (W := 0) (plainFor_of_name pn_0) (fun mid => ef_gcmp3 mid b cs ) (c_gcmp3 hw b cs A hch hl UA UH UL) (w74 hw) (w73 hw) (by decide) (by decide)) (lenOf pd_4 rfl) (Nat.le_of_ble_eq_true rfl) rfl (Nat.le_of_ble_eq_true rfl) (Nat.le_of_ble_eq_true rfl) (fun _ q => nomatch q) (fun v h_1 sf_2 hq => ?_)
  obtain ⟨y, rfl, X3, le3, ⟨hlat, A3⟩ | ⟨hbig, A3⟩⟩ := hq
  · skip
    refine Go.more (sf' := [x]) ?_ (Nat.le_refl _) (Nat.le_refl _) (fun _ q => List.mem_append_right _ q)
    show G_gnew4 md l Z n0 x b z cs h0 2 39 [x] h_1 39 #[.val (.ref x), .val (.ref b), .val (.int (0 : Int32)), .val (.int (Int32.ofNat cs.length)), .val .null, .unset] [(.ref y)]
    have nyx : y ≠ x := Nat.ne_of_gt (Nat.lt_of_lt_of_le E.lt le3)
    refine Go.astore 41 #[.val (.ref x), .val (.ref b), .val (.int (0 : Int32)), .val (.int (Int32.ofNat cs.length)), .val .null, .val (.ref y)] d12_39 rfl rfl rfl ?_
    refine Go.aloadN 42 d12_41 rfl rfl rfl ?_
    refine Go.aload 44 d12_42 rfl rfl rfl ?_
    refine Go.iloadN 45 d12_44 rfl rfl ?_
    refine Go.callS (S := [(.ref x)]) 48 [(.ref y), (.int (Int32.ofNat cs.length))] d12_45 rfl rfl (w78 hw) (w79 hw) (w73 hw) (w80 hw) (by decide) (call_of_go (R := _) (len := 3) (W := 1) (plainFor_of_name pn_0) (fun mid => ef_gcfl0 mid y cs (lowb cs) ) (c_gcfl0 hw y cs (lowb cs) A3 (by rw [List.length_map, List.length_map]) hl hpos) (w80 hw) (w73 hw) (by decide) (by decide)) (lenOf pd_6 rfl) (Nat.le_of_ble_eq_true rfl) rfl (Nat.le_of_ble_eq_true rfl) (Nat.le_of_ble_eq_true rfl) (fun _ q => nomatch q) (fun v h_3 sf_4 hq => ?_)
    obtain ⟨rfl, rfl⟩ := hq
    refine Go.more (sf' := [x]) ?_ (Nat.le_refl _) (Nat.le_refl _) (fun _ q => List.mem_append_right _ q)
    show G_gnew4 md l Z n0 x b z cs h0 2 39 [x] h_1 48 #[.val (.ref x), .val (.ref b), .val (.int (0 : Int32)), .val (.int (Int32.ofNat cs.length)), .val .null, .val (.ref y)] [(.int (0 : Int32)), (.ref x)]
    have f_5 := E.ext X3
    have f_6 := C.ext X3
    refine Go.putF 51 (.int (0 : Int32)) d12_48 rfl (w23 hw) Via.refl f_6 f_5 (Or.inr ⟨(w5 hw), rfl, rfl⟩) (w2 hw) (ty := .byte) (by decide) rfl rfl (List.mem_of_getElem? (i := 0) rfl) n0x (fun h_7 W_8 => ?_)
    refine Go.aloadN 52 d12_51 rfl rfl rfl ?_
    refine Go.aload 54 d12_52 rfl rfl rfl ?_
    have f_9 := (f_5.wr W_8)
    have f_10 := ((V.ext X3).other W_8 (Or.inr (slot_ne (Or.inr (w4 hw)) (Or.inr (w5 hw)) (by decide) (t := (.array .byte)) (t' := .byte) (by decide) (by decide))))
    refine Go.putF 57 (.ref y) d12_54 rfl (w16 hw) Via.refl f_10 f_9 (Or.inr ⟨(w4 hw), rfl, rfl⟩) (w2 hw) (ty := (.array .byte)) (by decide) rfl rfl (List.mem_of_getElem? (i := 0) rfl) n0x (fun h_11 W_12 => ?_)
    have f_13 := (f_9.wr W_12)
    have f_14 := ((f_6.same W_8).other W_12 (Or.inr (slot_ne (Or.inr (w5 hw)) (Or.inr (w4 hw)) (by decide) (t := .byte) (t' := (.array .byte)) (by decide) (by decide))))
    have f_15 := ((A3.other W_8 nyx).other W_12 nyx)
    exact Go.ret0 d12_57 rfl (sf' := []) (⟨rfl, ((((Keep.refl h0 [x]).ext X3).wr W_8 (Or.inl (List.mem_of_getElem? (i := 0) rfl))).wr W_12 (Or.inl (List.mem_of_getElem? (i := 0) rfl))), y, (0 : Int32), _, f_13, f_14, (f_10.same W_12), f_15, Or.inl ⟨rfl, rfl, fun c hc => ⟨chp0 (hch c hc), hlat c hc⟩⟩⟩) (fun _ q => nomatch q) (Nat.le_of_ble_eq_true rfl) (Nat.le_of_ble_eq_true rfl)
  · skip
    refine Go.more (sf' := [x]) ?_ (Nat.le_refl _) (Nat.le_refl _) (fun _ q => List.mem_append_right _ q)
    show G_gnew4 md l Z n0 x b z cs h0 2 39 [x] h_1 39 #[.val (.ref x), .val (.ref b), .val (.int (0 : Int32)), .val (.int (Int32.ofNat cs.length)), .val .null, .unset] [(.ref y)]
    have nyx : y ≠ x := Nat.ne_of_gt (Nat.lt_of_lt_of_le E.lt le3)
    refine Go.astore 41 #[.val (.ref x), .val (.ref b), .val (.int (0 : Int32)), .val (.int (Int32.ofNat cs.length)), .val .null, .val (.ref y)] d12_39 rfl rfl rfl ?_
    refine Go.aloadN 42 d12_41 rfl rfl rfl ?_
    refine Go.aload 44 d12_42 rfl rfl rfl ?_
    refine Go.iloadN 45 d12_44 rfl rfl ?_
    refine Go.callS (S := [(.ref x)]) 48 [(.ref y), (.int (Int32.ofNat cs.length))] d12_45 rfl rfl (w78 hw) (w79 hw) (w73 hw) (w80 hw) (by decide) (call_of_go (R := _) (len := 3) (W := 1) (plainFor_of_name pn_0) (fun mid => ef_gcfl1 mid y cs (wide cs) ) (c_gcfl1 hw y cs (wide cs) A3 (wide_len cs) hl hpos) (w80 hw) (w73 hw) (by decide) (by decide)) (lenOf pd_6 rfl) (Nat.le_of_ble_eq_true rfl) rfl (Nat.le_of_ble_eq_true rfl) (Nat.le_of_ble_eq_true rfl) (fun _ q => nomatch q) (fun v h_16 sf_17 hq => ?_)
    obtain ⟨rfl, rfl⟩ := hq
    refine Go.more (sf' := [x]) ?_ (Nat.le_refl _) (Nat.le_refl _) (fun _ q => List.mem_append_right _ q)
    show G_gnew4 md l Z n0 x b z cs h0 2 39 [x] h_1 48 #[.val (.ref x), .val (.ref b), .val (.int (0 : Int32)), .val (.int (Int32.ofNat cs.length)), .val .null, .val (.ref y)] [(.int (1 : Int32)), (.ref x)]
    have f_18 := E.ext X3
    have f_19 := C.ext X3
    refine Go.putF 51 (.int (1 : Int32)) d12_48 rfl (w23 hw) Via.refl f_19 f_18 (Or.inr ⟨(w5 hw), rfl, rfl⟩) (w2 hw) (ty := .byte) (by decide) rfl rfl (List.mem_of_getElem? (i := 0) rfl) n0x (fun h_20 W_21 => ?_)
    refine Go.aloadN 52 d12_51 rfl rfl rfl ?_
    refine Go.aload 54 d12_52 rfl rfl rfl ?_
    have f_22 := (f_18.wr W_21)
    have f_23 := ((V.ext X3).other W_21 (Or.inr (slot_ne (Or.inr (w4 hw)) (Or.inr (w5 hw)) (by decide) (t := (.array .byte)) (t' := .byte) (by decide) (by decide))))
    refine Go.putF 57 (.ref y) d12_54 rfl (w16 hw) Via.refl f_23 f_22 (Or.inr ⟨(w4 hw), rfl, rfl⟩) (w2 hw) (ty := (.array .byte)) (by decide) rfl rfl (List.mem_of_getElem? (i := 0) rfl) n0x (fun h_24 W_25 => ?_)
    have f_26 := (f_22.wr W_25)
    have f_27 := ((f_19.same W_21).other W_25 (Or.inr (slot_ne (Or.inr (w5 hw)) (Or.inr (w4 hw)) (by decide) (t := .byte) (t' := (.array .byte)) (by decide) (by decide))))
    have f_28 := ((A3.other W_21 nyx).other W_25 nyx)
    exact Go.ret0 d12_57 rfl (sf' := []) (⟨rfl, ((((Keep.refl h0 [x]).ext X3).wr W_21 (Or.inl (List.mem_of_getElem? (i := 0) rfl))).wr W_25 (Or.inl (List.mem_of_getElem? (i := 0) rfl))), y, (1 : Int32), _, f_26, f_27, (f_23.same W_25), f_28, Or.inr ⟨rfl, rfl, hbig⟩⟩) (fun _ q => nomatch q) (Nat.le_of_ble_eq_true rfl) (Nat.le_of_ble_eq_true rfl)
abbrev G_gnew1 (md : Md) (l : Launch) (Z : State) (n0 : Nat) (x b : Addr) (z : Int32) (cs : List Int32) (h0 : Heap) := Go md l Z n0 ({ frames := 5, cells := 2, slots := 39, locals := 74 } : Room) jdk_42_method_3_code 2 none "java/lang/String" "<init>" (fun v h' _ => v = none ∧ Keep h0 h' [x] ∧ Gst Z h' x cs)
theorem ef_gnew1 (mid : MethodId) (x b : Addr) (z : Int32) (cs : List Int32)  : entryFrame mid #[(.ref x), (.ref b)] 2 = mkF mid 0 #[.val (.ref x), .val (.ref b)] [] := by first | (simp [entryFrame, mkF, argsToLocals, Value.category]; done) | rfl
set_option maxRecDepth 65536 in
set_option maxHeartbeats 40000000 in
theorem c_gnew1 {md : Md} {l : Launch} {Z : State} {n0 : Nat} {a0 : Array Value} (hw : HW a0 Z) (x b : Addr) (z : Int32) (cs : List Int32) {h0 : Heap} (E : Exa Z h0 x "java/lang/String") (n0x : n0 ≤ x) {v0 u0 : Value} (V : Fld Z h0 x "java/lang/String" "value" "[B" v0) (C : Fld Z h0 x "java/lang/String" "coder" "B" u0) (A : Ary Z h0 b .char (cs.map Value.int)) (hch : ∀ c ∈ cs, CHP c) (hpos : 0 < cs.length) (hl : cs.length ≤ 13) (SC : Sta Z Z.heap "java/lang/String" "COMPACT_STRINGS" "Z" (.int z)) (hz : ¬ z = 0) (UA : Sta Z Z.heap "java/lang/StringUTF16" "$assertionsDisabled" "Z" (.int 1)) (UH : Sta Z Z.heap "java/lang/StringUTF16" "HI_BYTE_SHIFT" "I" (.int 0)) (UL : Sta Z Z.heap "java/lang/StringUTF16" "LO_BYTE_SHIFT" "I" (.int 8))  : G_gnew1 md l Z n0 x b z cs h0 0 0 [x] h0 0 #[.val (.ref x), .val (.ref b)] [] := by
  refine Go.aloadN 1 d11_0 rfl rfl rfl ?_
  refine Go.aloadN 2 d11_1 rfl rfl rfl ?_
  refine Go.iconst 3 (0 : Int32) d11_2 rfl rfl ?_
  refine Go.aloadN 4 d11_3 rfl rfl rfl ?_
  refine Go.alen 5 (Int32.ofNat cs.length) d11_4 rfl A (by rw [List.length_map]) ?_
  refine Go.aconstNull 6 d11_5 rfl ?_
  refine Go.callC (S := []) (a := x) 9 [(.ref b), (.int (0 : Int32)), (.int (Int32.ofNat cs.length)), .null] d11_6 rfl rfl rfl (w64 hw) (w65 hw) (w67 hw) (by decide) (call_of_go (R := _) (len := 3) (W := 0) (plainFor_of_name pn_1) (fun mid => ef_gnew4 mid x b z cs ) (c_gnew4 hw x b z cs E n0x V C A hch hpos hl SC hz UA UH UL) (w67 hw) (w1 hw) (by decide) (by decide)) (lenOf pd_7 rfl) (Nat.le_of_ble_eq_true rfl) rfl (Nat.le_of_ble_eq_true rfl) (Nat.le_of_ble_eq_true rfl) (fun _ q => q) (fun v h_1 sf_2 hq => ?_)
  obtain ⟨rfl, K2, S2⟩ := hq
  refine Go.more (sf' := [x]) ?_ (Nat.le_refl _) (Nat.le_refl _) (fun _ q => List.mem_append_right _ q)
  show G_gnew1 md l Z n0 x b z cs h0 2 39 [x] h_1 9 #[.val (.ref x), .val (.ref b)] []
  exact Go.ret0 d11_9 rfl (sf' := []) (⟨rfl, K2, S2⟩) (fun _ q => nomatch q) (Nat.le_of_ble_eq_true rfl) (Nat.le_of_ble_eq_true rfl)
abbrev G_min (md : Md) (l : Launch) (Z : State) (n0 : Nat) (x y : Int32) (h0 : Heap) := Go md l Z n0 ({ frames := 0, cells := 0, slots := 0, locals := 0 } : Room) jdk_29_method_69_code 2 (some .int) "java/lang/Math" "min" (fun v h' _ => h0 = h' ∧ v = some (.int (if y < x then y else x)))
theorem ef_min (mid : MethodId) (x y : Int32)  : entryFrame mid #[(.int x), (.int y)] 2 = mkF mid 0 #[.val (.int x), .val (.int y)] [] := by first | (simp [entryFrame, mkF, argsToLocals, Value.category]; done) | rfl
set_option maxRecDepth 65536 in
set_option maxHeartbeats 40000000 in
theorem c_min {md : Md} {l : Launch} {Z : State} {n0 : Nat} {a0 : Array Value} (hw : HW a0 Z) (x y : Int32) {h0 : Heap}  : G_min md l Z n0 x y h0 0 0 [] h0 0 #[.val (.int x), .val (.int y)] [] := by
  refine Go.iloadN 1 d9_0 rfl rfl ?_
  refine Go.iloadN 2 d9_1 rfl rfl ?_
  by_cases hc2 : y < x
  · skip
    refine Go.icmpY 9 d9_2 (by decide) (by decide) (tlt hc2).2.2.1 ?_
    refine Go.iloadN 10 d9_9 rfl rfl ?_
    exact Go.retI d9_10 rfl (sf' := []) (⟨rfl, by rw [if_pos hc2]⟩) (fun _ q => nomatch q) (Nat.le_of_ble_eq_true rfl) (Nat.le_of_ble_eq_true rfl)
  · skip
    refine Go.icmpN 5 d9_2 rfl (flt hc2).2.2.1 ?_
    refine Go.iloadN 6 d9_5 rfl rfl ?_
    refine Go.goto 10 d9_6 (by decide) (by decide) ?_
    exact Go.retI d9_10 rfl (sf' := []) (⟨rfl, by rw [if_neg hc2]⟩) (fun _ q => nomatch q) (Nat.le_of_ble_eq_true rfl) (Nat.le_of_ble_eq_true rfl)
abbrev G_cpy (md : Md) (l : Launch) (Z : State) (n0 : Nat) (a kw : Addr) (i lim z : Int32) (fm : Value) (k m : Nat) (zs ks : List Int32) (h0 : Heap) := Go md l Z n0 ({ frames := 4, cells := 0, slots := 0, locals := 55 } : Room) method_4_code 4 none "com/example/avain/avain/model/TypeFromKeywordPinLaw" "copy" (fun v h' _ => v = none ∧ Keep h0 h' [a] ∧ Ary Z h' a .char ((cpf m ks zs k).map Value.int))
theorem ef_cpy (mid : MethodId) (a kw : Addr) (i lim z : Int32) (fm : Value) (k m : Nat) (zs ks : List Int32)  : entryFrame mid #[(.ref a), (.ref kw), (.int i), (.int lim)] 4 = mkF mid 0 #[.val (.ref a), .val (.ref kw), .val (.int i), .val (.int lim)] [] := by first | (simp [entryFrame, mkF, argsToLocals, Value.category]; done) | rfl
set_option maxRecDepth 65536 in
set_option maxHeartbeats 40000000 in
theorem c_cpy {md : Md} {l : Launch} {Z : State} {n0 : Nat} {a0 : Array Value} (hw : HW a0 Z) (a kw : Addr) (i lim z : Int32) (fm : Value) (k m : Nat) (zs ks : List Int32) {h0 : Heap} (A : Ary Z h0 a .char (zs.map Value.int)) (n0a : n0 ≤ a) (S : Str Z h0 kw ks) (hi : i.toInt = (k : Int)) (hm : lim.toInt = (m : Int)) (h1 : m ≤ zs.length) (h2 : m ≤ ks.length) (hls : ks.length ≤ 4000) (SC : Sta Z Z.heap "java/lang/String" "COMPACT_STRINGS" "Z" (.int z)) (hz : ¬ z = 0) (SF : Sta Z Z.heap "jdk/internal/util/Preconditions" "SIOOBE_FORMATTER" "Ljava/util/function/BiFunction;" fm) (rF : fm.isRef = true)  : G_cpy md l Z n0 a kw i lim z fm k m zs ks h0 0 0 [a] h0 0 #[.val (.ref a), .val (.ref kw), .val (.int i), .val (.int lim)] [] := by
  refine Go.iloadN 1 d10_0 rfl rfl ?_
  refine Go.iloadN 2 d10_1 rfl rfl ?_
  by_cases hc2 : i < lim
  · skip
    refine Go.icmpN 5 d10_2 rfl (tlt hc2).2.1 ?_
    have km : k < m := by have q_ := toInt_lt.mp hc2; omega
    refine Go.aloadN 6 d10_5 rfl rfl rfl ?_
    refine Go.iloadN 7 d10_6 rfl rfl ?_
    refine Go.aloadN 8 d10_7 rfl rfl rfl ?_
    refine Go.iloadN 9 d10_8 rfl rfl ?_
    refine Go.old fun o_1 _ => ?_
    refine Go.callV (S := [(.int i), (.ref a)]) (a := kw) 12 [(.int i)] d10_9 rfl rfl (w26 hw) (w27 hw) (w29 hw) (w28 hw) (fun _ q => notFace_of_selects (args := #[]) (mvT q (w29 hw))) (by decide) S.exa (strCh (W := 2) (hch hw) (w2 hw) S hls o_1 SC hz SF rF k hi (Nat.lt_of_lt_of_le km h2) (by decide) (by decide)) (lenOf pd_12 rfl) (Nat.le_of_ble_eq_true rfl) rfl (Nat.le_of_ble_eq_true rfl) (Nat.le_of_ble_eq_true rfl) (fun _ q => q) (fun v h_2 sf_3 hq => ?_)
    obtain ⟨rfl, rfl⟩ := hq
    refine Go.more (sf' := [a]) ?_ (Nat.le_refl _) (Nat.le_refl _) (fun _ q => List.mem_append_right _ q)
    show G_cpy md l Z n0 a kw i lim z fm k m zs ks h0 0 0 [a] h0 12 #[.val (.ref a), .val (.ref kw), .val (.int i), .val (.int lim)] [(.int ((ks).getD k 0)), (.int i), (.ref a)]
    have lt_ : Lat ks := by obtain ⟨_, _, _, _, _, q_⟩ := id S; exact q_
    refine Go.castore k 13 d10_12 rfl A hi (by rw [List.length_map]; omega) (List.mem_of_getElem? (i := 0) rfl) n0a (fun h9 W9 A9 => ?_)
    have A8 : Ary Z h9 a .char ((cpf m ks zs k).map Value.int) := by unfold cpf; rw [if_pos km, List.map_set, ← nar_c (getD_lat lt_ k)]; exact A9
    exact Go.ret0 d10_13 rfl (sf' := []) (⟨rfl, ((Keep.refl h0 [a]).wr W9 (Or.inl (List.mem_of_getElem? (i := 0) rfl))), A8⟩) (fun _ q => nomatch q) (Nat.le_of_ble_eq_true rfl) (Nat.le_of_ble_eq_true rfl)
  · skip
    refine Go.icmpY 13 d10_2 (by decide) (by decide) (flt hc2).2.1 ?_
    exact Go.ret0 d10_13 rfl (sf' := []) (⟨rfl, Keep.refl h0 [a], by unfold cpf; rw [if_neg (fun q_ => hc2 (toInt_lt.mpr (by omega)))]; exact A⟩) (fun _ q => nomatch q) (Nat.le_of_ble_eq_true rfl) (Nat.le_of_ble_eq_true rfl)
abbrev G_bld0 (md : Md) (l : Launch) (Z : State) (n0 : Nat) (kw : Addr) (p ch z n m lm : Int32) (fm : Value) (pk nk mk lk : Nat) (ks ws : List Int32) (h0 : Heap) := Go md l Z n0 ({ frames := 6, cells := 4, slots := 56, locals := 88 } : Room) method_3_code 8 (some (.object "java/lang/String")) "com/example/avain/avain/model/TypeFromKeywordPinLaw" "build" (fun v h' _ => ∃ x, v = some (.ref x) ∧ Ext h0 h' ∧ h0.size ≤ x ∧ Gst Z h' x (ws))
theorem ef_bld0 (mid : MethodId) (kw : Addr) (p ch z n m lm : Int32) (fm : Value) (pk nk mk lk : Nat) (ks ws : List Int32)  : entryFrame mid #[(.ref kw), (.int (-1 : Int32)), (.int p), (.int ch)] 8 = mkF mid 0 #[.val (.ref kw), .val (.int (-1 : Int32)), .val (.int p), .val (.int ch), .unset, .unset, .unset, .unset] [] := by first | (simp [entryFrame, mkF, argsToLocals, Value.category]; done) | rfl
set_option maxRecDepth 65536 in
set_option maxHeartbeats 40000000 in
theorem c_bld0 {md : Md} {l : Launch} {Z : State} {n0 : Nat} {a0 : Array Value} (hw : HW a0 Z) (kw : Addr) (p ch z n m lm : Int32) (fm : Value) (pk nk mk lk : Nat) (ks ws : List Int32) {h0 : Heap} (S : Str Z h0 kw ks) (b_ch : CHP ch) (hch : ∀ c ∈ ws, CHP c) (hks : ks.length ≤ 4000) (hn : Int32.ofNat ks.length = n) (hnm : n + (-1 : Int32) = m) (hlm : (if m < n then m else n) = lm) (hm : m.toInt = (mk : Int)) (hl : lm.toInt = (lk : Int)) (hmk : mk ≤ 13) (hpos : 0 < mk) (h1 : lk ≤ mk) (h2 : lk ≤ ks.length) (hr : cpn lk ks (List.replicate mk (0 : Int32)) 12 = ws) (hwl : ws.length = mk) (SC : Sta Z Z.heap "java/lang/String" "COMPACT_STRINGS" "Z" (.int z)) (hz : ¬ z = 0) (SF : Sta Z Z.heap "jdk/internal/util/Preconditions" "SIOOBE_FORMATTER" "Ljava/util/function/BiFunction;" fm) (rF : fm.isRef = true) (UA : Sta Z Z.heap "java/lang/StringUTF16" "$assertionsDisabled" "Z" (.int 1)) (UH : Sta Z Z.heap "java/lang/StringUTF16" "HI_BYTE_SHIFT" "I" (.int 0)) (UL : Sta Z Z.heap "java/lang/StringUTF16" "LO_BYTE_SHIFT" "I" (.int 8))  : G_bld0 md l Z n0 kw p ch z n m lm fm pk nk mk lk ks ws h0 0 0 [] h0 0 #[.val (.ref kw), .val (.int (-1 : Int32)), .val (.int p), .val (.int ch), .unset, .unset, .unset, .unset] [] := by
  refine Go.aloadN 1 d8_0 rfl rfl rfl ?_
  refine Go.old fun o_1 _ => ?_
  refine Go.callV (S := []) (a := kw) 4 [] d8_1 rfl rfl (w11 hw) (w12 hw) (w14 hw) (w13 hw) (fun _ q => notFace_of_selects (args := #[]) (mvT q (w14 hw))) (by decide) S.exa (strLen (W := 0) (hln hw) (w2 hw) S hks o_1 SC hz (by decide) (by decide)) (lenOf pd_13 rfl) (Nat.le_of_ble_eq_true rfl) rfl (Nat.le_of_ble_eq_true rfl) (Nat.le_of_ble_eq_true rfl) (fun _ q => q) (fun v h_2 sf_3 hq => ?_)
  obtain ⟨rfl, rfl⟩ := hq
  refine Go.more (sf' := []) ?_ (Nat.le_refl _) (Nat.le_refl _) (fun _ q => List.mem_append_right _ q)
  show G_bld0 md l Z n0 kw p ch z n m lm fm pk nk mk lk ks ws h0 0 0 [] h0 4 #[.val (.ref kw), .val (.int (-1 : Int32)), .val (.int p), .val (.int ch), .unset, .unset, .unset, .unset] [(.int (Int32.ofNat (ks).length))]
  rw [show (Int32.ofNat (ks).length) = n from hn]
  show G_bld0 md l Z n0 kw p ch z n m lm fm pk nk mk lk ks ws h0 0 0 [] h0 4 #[.val (.ref kw), .val (.int (-1 : Int32)), .val (.int p), .val (.int ch), .unset, .unset, .unset, .unset] [(.int n)]
  refine Go.istore 6 #[.val (.ref kw), .val (.int (-1 : Int32)), .val (.int p), .val (.int ch), .val (.int n), .unset, .unset, .unset] d8_4 rfl rfl ?_
  refine Go.iload 8 d8_6 rfl rfl ?_
  refine Go.iloadN 9 d8_8 rfl rfl ?_
  refine Go.iadd 10 d8_9 rfl ?_
  rw [show (n + (-1 : Int32)) = m from hnm]
  show G_bld0 md l Z n0 kw p ch z n m lm fm pk nk mk lk ks ws h0 0 0 [] h0 10 #[.val (.ref kw), .val (.int (-1 : Int32)), .val (.int p), .val (.int ch), .val (.int n), .unset, .unset, .unset] [(.int m)]
  refine Go.istore 12 #[.val (.ref kw), .val (.int (-1 : Int32)), .val (.int p), .val (.int ch), .val (.int n), .val (.int m), .unset, .unset] d8_10 rfl rfl ?_
  refine Go.iload 14 d8_12 rfl rfl ?_
  refine Go.iload 16 d8_14 rfl rfl ?_
  refine Go.callS (S := []) 19 [(.int n), (.int m)] d8_16 rfl rfl (w52 hw) (w53 hw) (w54 hw) (w55 hw) (by decide) (call_of_go (R := _) (len := 3) (W := 0) pf_0 (fun mid => ef_min mid n m ) (c_min hw n m ) (w55 hw) (w54 hw) (by decide) (by decide)) (lenOf pd_14 rfl) (Nat.le_of_ble_eq_true rfl) rfl (Nat.le_of_ble_eq_true rfl) (Nat.le_of_ble_eq_true rfl) (fun _ q => nomatch q) (fun v h_4 sf_5 hq => ?_)
  obtain ⟨rfl, rfl⟩ := hq
  refine Go.more (sf' := []) ?_ (Nat.le_refl _) (Nat.le_refl _) (fun _ q => List.mem_append_right _ q)
  show G_bld0 md l Z n0 kw p ch z n m lm fm pk nk mk lk ks ws h0 0 0 [] h0 19 #[.val (.ref kw), .val (.int (-1 : Int32)), .val (.int p), .val (.int ch), .val (.int n), .val (.int m), .unset, .unset] [(.int (if m < n then m else n))]
  rw [show (if m < n then m else n) = lm from hlm]
  show G_bld0 md l Z n0 kw p ch z n m lm fm pk nk mk lk ks ws h0 0 0 [] h0 19 #[.val (.ref kw), .val (.int (-1 : Int32)), .val (.int p), .val (.int ch), .val (.int n), .val (.int m), .unset, .unset] [(.int lm)]
  refine Go.istore 21 #[.val (.ref kw), .val (.int (-1 : Int32)), .val (.int p), .val (.int ch), .val (.int n), .val (.int m), .val (.int lm), .unset] d8_19 rfl rfl ?_
  refine Go.iload 23 d8_21 rfl rfl ?_
  refine Go.newA mk 25 d8_23 rfl rfl (w56 hw) hm 13 hmk (by decide) (Nat.le_of_ble_eq_true rfl) (Nat.le_of_ble_eq_true rfl) (fun h1_ a g_a q_a X_a lt_a A_ => ?_)
  have A0_ : Ary Z h1_ a .char ((cpn lk ks (List.replicate mk (0 : Int32)) 0).map Value.int) := by unfold cpn; rw [List.map_replicate]; exact A_
  show G_bld0 md l Z n0 kw p ch z n m lm fm pk nk mk lk ks ws h0 1 13 [a] h1_ 25 #[.val (.ref kw), .val (.int (-1 : Int32)), .val (.int p), .val (.int ch), .val (.int n), .val (.int m), .val (.int lm), .unset] [(.ref a)]
  refine Go.astore 27 #[.val (.ref kw), .val (.int (-1 : Int32)), .val (.int p), .val (.int ch), .val (.int n), .val (.int m), .val (.int lm), .val (.ref a)] d8_25 rfl rfl rfl ?_
  refine Go.aload 29 d8_27 rfl rfl rfl ?_
  refine Go.aloadN 30 d8_29 rfl rfl rfl ?_
  refine Go.iconst 31 (0 : Int32) d8_30 rfl rfl ?_
  refine Go.iload 33 d8_31 rfl rfl ?_
  have f_9 := S.ext X_a
  refine Go.callS (S := []) 36 [(.ref a), (.ref kw), (.int (0 : Int32)), (.int lm)] d8_33 rfl rfl (w57 hw) (w58 hw) (w50 hw) (w59 hw) (by decide) (call_of_go (R := _) (len := 3) (W := 0) (plainFor_of_name pn_3) (fun mid => ef_cpy mid a kw (0 : Int32) lm z fm 0 lk (cpn lk ks (List.replicate mk (0 : Int32)) 0) ks ) (c_cpy hw a kw (0 : Int32) lm z fm 0 lk (cpn lk ks (List.replicate mk (0 : Int32)) 0) ks A0_ q_a f_9 rfl hl (by rw [cpn_len, List.length_replicate]; exact h1) h2 hks SC hz SF rF) (w59 hw) (w50 hw) (by decide) (by decide)) (lenOf pd_15 rfl) (Nat.le_of_ble_eq_true rfl) rfl (Nat.le_of_ble_eq_true rfl) (Nat.le_of_ble_eq_true rfl) (fun _ q => q) (fun v h_10 sf_11 hq => ?_)
  obtain ⟨rfl, K_6, A_7⟩ := hq
  have A_8 : Ary Z h_10 a .char ((cpn lk ks (List.replicate mk (0 : Int32)) 1).map Value.int) := A_7
  refine Go.more (sf' := [a]) ?_ (Nat.le_refl _) (Nat.le_refl _) (fun _ q => List.mem_append_right _ q)
  show G_bld0 md l Z n0 kw p ch z n m lm fm pk nk mk lk ks ws h0 1 13 [a] h_10 36 #[.val (.ref kw), .val (.int (-1 : Int32)), .val (.int p), .val (.int ch), .val (.int n), .val (.int m), .val (.int lm), .val (.ref a)] []
  refine Go.aload 38 d8_36 rfl rfl rfl ?_
  refine Go.aloadN 39 d8_38 rfl rfl rfl ?_
  refine Go.iconst 40 (1 : Int32) d8_39 rfl rfl ?_
  refine Go.iload 42 d8_40 rfl rfl ?_
  have X_15 : Ext h0 h_10 := extK X_a K_6 (allS (Nat.le_of_eq g_a) all0)
  have f_16 := S.ext X_15
  refine Go.callS (S := []) 45 [(.ref a), (.ref kw), (.int (1 : Int32)), (.int lm)] d8_42 rfl rfl (w57 hw) (w58 hw) (w50 hw) (w59 hw) (by decide) (call_of_go (R := _) (len := 3) (W := 0) (plainFor_of_name pn_3) (fun mid => ef_cpy mid a kw (1 : Int32) lm z fm 1 lk (cpn lk ks (List.replicate mk (0 : Int32)) 1) ks ) (c_cpy hw a kw (1 : Int32) lm z fm 1 lk (cpn lk ks (List.replicate mk (0 : Int32)) 1) ks A_8 q_a f_16 rfl hl (by rw [cpn_len, List.length_replicate]; exact h1) h2 hks SC hz SF rF) (w59 hw) (w50 hw) (by decide) (by decide)) (lenOf pd_15 rfl) (Nat.le_of_ble_eq_true rfl) rfl (Nat.le_of_ble_eq_true rfl) (Nat.le_of_ble_eq_true rfl) (fun _ q => q) (fun v h_17 sf_18 hq => ?_)
  obtain ⟨rfl, K_12, A_13⟩ := hq
  have A_14 : Ary Z h_17 a .char ((cpn lk ks (List.replicate mk (0 : Int32)) 2).map Value.int) := A_13
  refine Go.more (sf' := [a]) ?_ (Nat.le_refl _) (Nat.le_refl _) (fun _ q => List.mem_append_right _ q)
  show G_bld0 md l Z n0 kw p ch z n m lm fm pk nk mk lk ks ws h0 1 13 [a] h_17 45 #[.val (.ref kw), .val (.int (-1 : Int32)), .val (.int p), .val (.int ch), .val (.int n), .val (.int m), .val (.int lm), .val (.ref a)] []
  refine Go.aload 47 d8_45 rfl rfl rfl ?_
  refine Go.aloadN 48 d8_47 rfl rfl rfl ?_
  refine Go.iconst 49 (2 : Int32) d8_48 rfl rfl ?_
  refine Go.iload 51 d8_49 rfl rfl ?_
  have X_22 : Ext h0 h_17 := extK X_15 K_12 (allS (Nat.le_of_eq g_a) all0)
  have f_23 := S.ext X_22
  refine Go.callS (S := []) 54 [(.ref a), (.ref kw), (.int (2 : Int32)), (.int lm)] d8_51 rfl rfl (w57 hw) (w58 hw) (w50 hw) (w59 hw) (by decide) (call_of_go (R := _) (len := 3) (W := 0) (plainFor_of_name pn_3) (fun mid => ef_cpy mid a kw (2 : Int32) lm z fm 2 lk (cpn lk ks (List.replicate mk (0 : Int32)) 2) ks ) (c_cpy hw a kw (2 : Int32) lm z fm 2 lk (cpn lk ks (List.replicate mk (0 : Int32)) 2) ks A_14 q_a f_23 rfl hl (by rw [cpn_len, List.length_replicate]; exact h1) h2 hks SC hz SF rF) (w59 hw) (w50 hw) (by decide) (by decide)) (lenOf pd_15 rfl) (Nat.le_of_ble_eq_true rfl) rfl (Nat.le_of_ble_eq_true rfl) (Nat.le_of_ble_eq_true rfl) (fun _ q => q) (fun v h_24 sf_25 hq => ?_)
  obtain ⟨rfl, K_19, A_20⟩ := hq
  have A_21 : Ary Z h_24 a .char ((cpn lk ks (List.replicate mk (0 : Int32)) 3).map Value.int) := A_20
  refine Go.more (sf' := [a]) ?_ (Nat.le_refl _) (Nat.le_refl _) (fun _ q => List.mem_append_right _ q)
  show G_bld0 md l Z n0 kw p ch z n m lm fm pk nk mk lk ks ws h0 1 13 [a] h_24 54 #[.val (.ref kw), .val (.int (-1 : Int32)), .val (.int p), .val (.int ch), .val (.int n), .val (.int m), .val (.int lm), .val (.ref a)] []
  refine Go.aload 56 d8_54 rfl rfl rfl ?_
  refine Go.aloadN 57 d8_56 rfl rfl rfl ?_
  refine Go.iconst 58 (3 : Int32) d8_57 rfl rfl ?_
  refine Go.iload 60 d8_58 rfl rfl ?_
  have X_29 : Ext h0 h_24 := extK X_22 K_19 (allS (Nat.le_of_eq g_a) all0)
  have f_30 := S.ext X_29
  refine Go.callS (S := []) 63 [(.ref a), (.ref kw), (.int (3 : Int32)), (.int lm)] d8_60 rfl rfl (w57 hw) (w58 hw) (w50 hw) (w59 hw) (by decide) (call_of_go (R := _) (len := 3) (W := 0) (plainFor_of_name pn_3) (fun mid => ef_cpy mid a kw (3 : Int32) lm z fm 3 lk (cpn lk ks (List.replicate mk (0 : Int32)) 3) ks ) (c_cpy hw a kw (3 : Int32) lm z fm 3 lk (cpn lk ks (List.replicate mk (0 : Int32)) 3) ks A_21 q_a f_30 rfl hl (by rw [cpn_len, List.length_replicate]; exact h1) h2 hks SC hz SF rF) (w59 hw) (w50 hw) (by decide) (by decide)) (lenOf pd_15 rfl) (Nat.le_of_ble_eq_true rfl) rfl (Nat.le_of_ble_eq_true rfl) (Nat.le_of_ble_eq_true rfl) (fun _ q => q) (fun v h_31 sf_32 hq => ?_)
  obtain ⟨rfl, K_26, A_27⟩ := hq
  have A_28 : Ary Z h_31 a .char ((cpn lk ks (List.replicate mk (0 : Int32)) 4).map Value.int) := A_27
  refine Go.more (sf' := [a]) ?_ (Nat.le_refl _) (Nat.le_refl _) (fun _ q => List.mem_append_right _ q)
  show G_bld0 md l Z n0 kw p ch z n m lm fm pk nk mk lk ks ws h0 1 13 [a] h_31 63 #[.val (.ref kw), .val (.int (-1 : Int32)), .val (.int p), .val (.int ch), .val (.int n), .val (.int m), .val (.int lm), .val (.ref a)] []
  refine Go.aload 65 d8_63 rfl rfl rfl ?_
  refine Go.aloadN 66 d8_65 rfl rfl rfl ?_
  refine Go.iconst 67 (4 : Int32) d8_66 rfl rfl ?_
  refine Go.iload 69 d8_67 rfl rfl ?_
  have X_36 : Ext h0 h_31 := extK X_29 K_26 (allS (Nat.le_of_eq g_a) all0)
  have f_37 := S.ext X_36
  refine Go.callS (S := []) 72 [(.ref a), (.ref kw), (.int (4 : Int32)), (.int lm)] d8_69 rfl rfl (w57 hw) (w58 hw) (w50 hw) (w59 hw) (by decide) (call_of_go (R := _) (len := 3) (W := 0) (plainFor_of_name pn_3) (fun mid => ef_cpy mid a kw (4 : Int32) lm z fm 4 lk (cpn lk ks (List.replicate mk (0 : Int32)) 4) ks ) (c_cpy hw a kw (4 : Int32) lm z fm 4 lk (cpn lk ks (List.replicate mk (0 : Int32)) 4) ks A_28 q_a f_37 rfl hl (by rw [cpn_len, List.length_replicate]; exact h1) h2 hks SC hz SF rF) (w59 hw) (w50 hw) (by decide) (by decide)) (lenOf pd_15 rfl) (Nat.le_of_ble_eq_true rfl) rfl (Nat.le_of_ble_eq_true rfl) (Nat.le_of_ble_eq_true rfl) (fun _ q => q) (fun v h_38 sf_39 hq => ?_)
  obtain ⟨rfl, K_33, A_34⟩ := hq
  have A_35 : Ary Z h_38 a .char ((cpn lk ks (List.replicate mk (0 : Int32)) 5).map Value.int) := A_34
  refine Go.more (sf' := [a]) ?_ (Nat.le_refl _) (Nat.le_refl _) (fun _ q => List.mem_append_right _ q)
  show G_bld0 md l Z n0 kw p ch z n m lm fm pk nk mk lk ks ws h0 1 13 [a] h_38 72 #[.val (.ref kw), .val (.int (-1 : Int32)), .val (.int p), .val (.int ch), .val (.int n), .val (.int m), .val (.int lm), .val (.ref a)] []
  refine Go.aload 74 d8_72 rfl rfl rfl ?_
  refine Go.aloadN 75 d8_74 rfl rfl rfl ?_
  refine Go.iconst 76 (5 : Int32) d8_75 rfl rfl ?_
  refine Go.iload 78 d8_76 rfl rfl ?_
  have X_43 : Ext h0 h_38 := extK X_36 K_33 (allS (Nat.le_of_eq g_a) all0)
  have f_44 := S.ext X_43
  refine Go.callS (S := []) 81 [(.ref a), (.ref kw), (.int (5 : Int32)), (.int lm)] d8_78 rfl rfl (w57 hw) (w58 hw) (w50 hw) (w59 hw) (by decide) (call_of_go (R := _) (len := 3) (W := 0) (plainFor_of_name pn_3) (fun mid => ef_cpy mid a kw (5 : Int32) lm z fm 5 lk (cpn lk ks (List.replicate mk (0 : Int32)) 5) ks ) (c_cpy hw a kw (5 : Int32) lm z fm 5 lk (cpn lk ks (List.replicate mk (0 : Int32)) 5) ks A_35 q_a f_44 rfl hl (by rw [cpn_len, List.length_replicate]; exact h1) h2 hks SC hz SF rF) (w59 hw) (w50 hw) (by decide) (by decide)) (lenOf pd_15 rfl) (Nat.le_of_ble_eq_true rfl) rfl (Nat.le_of_ble_eq_true rfl) (Nat.le_of_ble_eq_true rfl) (fun _ q => q) (fun v h_45 sf_46 hq => ?_)
  obtain ⟨rfl, K_40, A_41⟩ := hq
  have A_42 : Ary Z h_45 a .char ((cpn lk ks (List.replicate mk (0 : Int32)) 6).map Value.int) := A_41
  refine Go.more (sf' := [a]) ?_ (Nat.le_refl _) (Nat.le_refl _) (fun _ q => List.mem_append_right _ q)
  show G_bld0 md l Z n0 kw p ch z n m lm fm pk nk mk lk ks ws h0 1 13 [a] h_45 81 #[.val (.ref kw), .val (.int (-1 : Int32)), .val (.int p), .val (.int ch), .val (.int n), .val (.int m), .val (.int lm), .val (.ref a)] []
  refine Go.aload 83 d8_81 rfl rfl rfl ?_
  refine Go.aloadN 84 d8_83 rfl rfl rfl ?_
  refine Go.bipush 86 (6 : Int32) d8_84 rfl rfl ?_
  refine Go.iload 88 d8_86 rfl rfl ?_
  have X_50 : Ext h0 h_45 := extK X_43 K_40 (allS (Nat.le_of_eq g_a) all0)
  have f_51 := S.ext X_50
  refine Go.callS (S := []) 91 [(.ref a), (.ref kw), (.int (6 : Int32)), (.int lm)] d8_88 rfl rfl (w57 hw) (w58 hw) (w50 hw) (w59 hw) (by decide) (call_of_go (R := _) (len := 3) (W := 0) (plainFor_of_name pn_3) (fun mid => ef_cpy mid a kw (6 : Int32) lm z fm 6 lk (cpn lk ks (List.replicate mk (0 : Int32)) 6) ks ) (c_cpy hw a kw (6 : Int32) lm z fm 6 lk (cpn lk ks (List.replicate mk (0 : Int32)) 6) ks A_42 q_a f_51 rfl hl (by rw [cpn_len, List.length_replicate]; exact h1) h2 hks SC hz SF rF) (w59 hw) (w50 hw) (by decide) (by decide)) (lenOf pd_15 rfl) (Nat.le_of_ble_eq_true rfl) rfl (Nat.le_of_ble_eq_true rfl) (Nat.le_of_ble_eq_true rfl) (fun _ q => q) (fun v h_52 sf_53 hq => ?_)
  obtain ⟨rfl, K_47, A_48⟩ := hq
  have A_49 : Ary Z h_52 a .char ((cpn lk ks (List.replicate mk (0 : Int32)) 7).map Value.int) := A_48
  refine Go.more (sf' := [a]) ?_ (Nat.le_refl _) (Nat.le_refl _) (fun _ q => List.mem_append_right _ q)
  show G_bld0 md l Z n0 kw p ch z n m lm fm pk nk mk lk ks ws h0 1 13 [a] h_52 91 #[.val (.ref kw), .val (.int (-1 : Int32)), .val (.int p), .val (.int ch), .val (.int n), .val (.int m), .val (.int lm), .val (.ref a)] []
  refine Go.aload 93 d8_91 rfl rfl rfl ?_
  refine Go.aloadN 94 d8_93 rfl rfl rfl ?_
  refine Go.bipush 96 (7 : Int32) d8_94 rfl rfl ?_
  refine Go.iload 98 d8_96 rfl rfl ?_
  have X_57 : Ext h0 h_52 := extK X_50 K_47 (allS (Nat.le_of_eq g_a) all0)
  have f_58 := S.ext X_57
  refine Go.callS (S := []) 101 [(.ref a), (.ref kw), (.int (7 : Int32)), (.int lm)] d8_98 rfl rfl (w57 hw) (w58 hw) (w50 hw) (w59 hw) (by decide) (call_of_go (R := _) (len := 3) (W := 0) (plainFor_of_name pn_3) (fun mid => ef_cpy mid a kw (7 : Int32) lm z fm 7 lk (cpn lk ks (List.replicate mk (0 : Int32)) 7) ks ) (c_cpy hw a kw (7 : Int32) lm z fm 7 lk (cpn lk ks (List.replicate mk (0 : Int32)) 7) ks A_49 q_a f_58 rfl hl (by rw [cpn_len, List.length_replicate]; exact h1) h2 hks SC hz SF rF) (w59 hw) (w50 hw) (by decide) (by decide)) (lenOf pd_15 rfl) (Nat.le_of_ble_eq_true rfl) rfl (Nat.le_of_ble_eq_true rfl) (Nat.le_of_ble_eq_true rfl) (fun _ q => q) (fun v h_59 sf_60 hq => ?_)
  obtain ⟨rfl, K_54, A_55⟩ := hq
  have A_56 : Ary Z h_59 a .char ((cpn lk ks (List.replicate mk (0 : Int32)) 8).map Value.int) := A_55
  refine Go.more (sf' := [a]) ?_ (Nat.le_refl _) (Nat.le_refl _) (fun _ q => List.mem_append_right _ q)
  show G_bld0 md l Z n0 kw p ch z n m lm fm pk nk mk lk ks ws h0 1 13 [a] h_59 101 #[.val (.ref kw), .val (.int (-1 : Int32)), .val (.int p), .val (.int ch), .val (.int n), .val (.int m), .val (.int lm), .val (.ref a)] []
  refine Go.aload 103 d8_101 rfl rfl rfl ?_
  refine Go.aloadN 104 d8_103 rfl rfl rfl ?_
  refine Go.bipush 106 (8 : Int32) d8_104 rfl rfl ?_
  refine Go.iload 108 d8_106 rfl rfl ?_
  have X_64 : Ext h0 h_59 := extK X_57 K_54 (allS (Nat.le_of_eq g_a) all0)
  have f_65 := S.ext X_64
  refine Go.callS (S := []) 111 [(.ref a), (.ref kw), (.int (8 : Int32)), (.int lm)] d8_108 rfl rfl (w57 hw) (w58 hw) (w50 hw) (w59 hw) (by decide) (call_of_go (R := _) (len := 3) (W := 0) (plainFor_of_name pn_3) (fun mid => ef_cpy mid a kw (8 : Int32) lm z fm 8 lk (cpn lk ks (List.replicate mk (0 : Int32)) 8) ks ) (c_cpy hw a kw (8 : Int32) lm z fm 8 lk (cpn lk ks (List.replicate mk (0 : Int32)) 8) ks A_56 q_a f_65 rfl hl (by rw [cpn_len, List.length_replicate]; exact h1) h2 hks SC hz SF rF) (w59 hw) (w50 hw) (by decide) (by decide)) (lenOf pd_15 rfl) (Nat.le_of_ble_eq_true rfl) rfl (Nat.le_of_ble_eq_true rfl) (Nat.le_of_ble_eq_true rfl) (fun _ q => q) (fun v h_66 sf_67 hq => ?_)
  obtain ⟨rfl, K_61, A_62⟩ := hq
  have A_63 : Ary Z h_66 a .char ((cpn lk ks (List.replicate mk (0 : Int32)) 9).map Value.int) := A_62
  refine Go.more (sf' := [a]) ?_ (Nat.le_refl _) (Nat.le_refl _) (fun _ q => List.mem_append_right _ q)
  show G_bld0 md l Z n0 kw p ch z n m lm fm pk nk mk lk ks ws h0 1 13 [a] h_66 111 #[.val (.ref kw), .val (.int (-1 : Int32)), .val (.int p), .val (.int ch), .val (.int n), .val (.int m), .val (.int lm), .val (.ref a)] []
  refine Go.aload 113 d8_111 rfl rfl rfl ?_
  refine Go.aloadN 114 d8_113 rfl rfl rfl ?_
  refine Go.bipush 116 (9 : Int32) d8_114 rfl rfl ?_
  refine Go.iload 118 d8_116 rfl rfl ?_
  have X_71 : Ext h0 h_66 := extK X_64 K_61 (allS (Nat.le_of_eq g_a) all0)
  have f_72 := S.ext X_71
  refine Go.callS (S := []) 121 [(.ref a), (.ref kw), (.int (9 : Int32)), (.int lm)] d8_118 rfl rfl (w57 hw) (w58 hw) (w50 hw) (w59 hw) (by decide) (call_of_go (R := _) (len := 3) (W := 0) (plainFor_of_name pn_3) (fun mid => ef_cpy mid a kw (9 : Int32) lm z fm 9 lk (cpn lk ks (List.replicate mk (0 : Int32)) 9) ks ) (c_cpy hw a kw (9 : Int32) lm z fm 9 lk (cpn lk ks (List.replicate mk (0 : Int32)) 9) ks A_63 q_a f_72 rfl hl (by rw [cpn_len, List.length_replicate]; exact h1) h2 hks SC hz SF rF) (w59 hw) (w50 hw) (by decide) (by decide)) (lenOf pd_15 rfl) (Nat.le_of_ble_eq_true rfl) rfl (Nat.le_of_ble_eq_true rfl) (Nat.le_of_ble_eq_true rfl) (fun _ q => q) (fun v h_73 sf_74 hq => ?_)
  obtain ⟨rfl, K_68, A_69⟩ := hq
  have A_70 : Ary Z h_73 a .char ((cpn lk ks (List.replicate mk (0 : Int32)) 10).map Value.int) := A_69
  refine Go.more (sf' := [a]) ?_ (Nat.le_refl _) (Nat.le_refl _) (fun _ q => List.mem_append_right _ q)
  show G_bld0 md l Z n0 kw p ch z n m lm fm pk nk mk lk ks ws h0 1 13 [a] h_73 121 #[.val (.ref kw), .val (.int (-1 : Int32)), .val (.int p), .val (.int ch), .val (.int n), .val (.int m), .val (.int lm), .val (.ref a)] []
  refine Go.aload 123 d8_121 rfl rfl rfl ?_
  refine Go.aloadN 124 d8_123 rfl rfl rfl ?_
  refine Go.bipush 126 (10 : Int32) d8_124 rfl rfl ?_
  refine Go.iload 128 d8_126 rfl rfl ?_
  have X_78 : Ext h0 h_73 := extK X_71 K_68 (allS (Nat.le_of_eq g_a) all0)
  have f_79 := S.ext X_78
  refine Go.callS (S := []) 131 [(.ref a), (.ref kw), (.int (10 : Int32)), (.int lm)] d8_128 rfl rfl (w57 hw) (w58 hw) (w50 hw) (w59 hw) (by decide) (call_of_go (R := _) (len := 3) (W := 0) (plainFor_of_name pn_3) (fun mid => ef_cpy mid a kw (10 : Int32) lm z fm 10 lk (cpn lk ks (List.replicate mk (0 : Int32)) 10) ks ) (c_cpy hw a kw (10 : Int32) lm z fm 10 lk (cpn lk ks (List.replicate mk (0 : Int32)) 10) ks A_70 q_a f_79 rfl hl (by rw [cpn_len, List.length_replicate]; exact h1) h2 hks SC hz SF rF) (w59 hw) (w50 hw) (by decide) (by decide)) (lenOf pd_15 rfl) (Nat.le_of_ble_eq_true rfl) rfl (Nat.le_of_ble_eq_true rfl) (Nat.le_of_ble_eq_true rfl) (fun _ q => q) (fun v h_80 sf_81 hq => ?_)
  obtain ⟨rfl, K_75, A_76⟩ := hq
  have A_77 : Ary Z h_80 a .char ((cpn lk ks (List.replicate mk (0 : Int32)) 11).map Value.int) := A_76
  refine Go.more (sf' := [a]) ?_ (Nat.le_refl _) (Nat.le_refl _) (fun _ q => List.mem_append_right _ q)
  show G_bld0 md l Z n0 kw p ch z n m lm fm pk nk mk lk ks ws h0 1 13 [a] h_80 131 #[.val (.ref kw), .val (.int (-1 : Int32)), .val (.int p), .val (.int ch), .val (.int n), .val (.int m), .val (.int lm), .val (.ref a)] []
  refine Go.aload 133 d8_131 rfl rfl rfl ?_
  refine Go.aloadN 134 d8_133 rfl rfl rfl ?_
  refine Go.bipush 136 (11 : Int32) d8_134 rfl rfl ?_
  refine Go.iload 138 d8_136 rfl rfl ?_
  have X_85 : Ext h0 h_80 := extK X_78 K_75 (allS (Nat.le_of_eq g_a) all0)
  have f_86 := S.ext X_85
  refine Go.callS (S := []) 141 [(.ref a), (.ref kw), (.int (11 : Int32)), (.int lm)] d8_138 rfl rfl (w57 hw) (w58 hw) (w50 hw) (w59 hw) (by decide) (call_of_go (R := _) (len := 3) (W := 0) (plainFor_of_name pn_3) (fun mid => ef_cpy mid a kw (11 : Int32) lm z fm 11 lk (cpn lk ks (List.replicate mk (0 : Int32)) 11) ks ) (c_cpy hw a kw (11 : Int32) lm z fm 11 lk (cpn lk ks (List.replicate mk (0 : Int32)) 11) ks A_77 q_a f_86 rfl hl (by rw [cpn_len, List.length_replicate]; exact h1) h2 hks SC hz SF rF) (w59 hw) (w50 hw) (by decide) (by decide)) (lenOf pd_15 rfl) (Nat.le_of_ble_eq_true rfl) rfl (Nat.le_of_ble_eq_true rfl) (Nat.le_of_ble_eq_true rfl) (fun _ q => q) (fun v h_87 sf_88 hq => ?_)
  obtain ⟨rfl, K_82, A_83⟩ := hq
  have A_84 : Ary Z h_87 a .char (ws.map Value.int) := by rw [← hr]; exact A_83
  refine Go.more (sf' := [a]) ?_ (Nat.le_refl _) (Nat.le_refl _) (fun _ q => List.mem_append_right _ q)
  show G_bld0 md l Z n0 kw p ch z n m lm fm pk nk mk lk ks ws h0 1 13 [a] h_87 141 #[.val (.ref kw), .val (.int (-1 : Int32)), .val (.int p), .val (.int ch), .val (.int n), .val (.int m), .val (.int lm), .val (.ref a)] []
  refine Go.iloadN 142 d8_141 rfl rfl ?_
  refine Go.ifY 150 d8_142 (by decide) (by decide) (feq (by decide)).2 ?_
  refine Go.iloadN 151 d8_150 rfl rfl ?_
  refine Go.iconst 152 (1 : Int32) d8_151 rfl rfl ?_
  refine Go.icmpY 161 d8_152 (by decide) (by decide) (feq (by decide)).2 ?_
  refine Go.new 164 d8_161 rfl (w60 hw) (w2 hw) (w1 hw) (Nat.le_of_ble_eq_true rfl) (Nat.le_of_ble_eq_true rfl) (fun h_89 x_90 g_91 q_92 E_93 lt_94 A_95 D_96 => ?_)
  show G_bld0 md l Z n0 kw p ch z n m lm fm pk nk mk lk ks ws h0 2 17 [x_90, a] h_89 164 #[.val (.ref kw), .val (.int (-1 : Int32)), .val (.int p), .val (.int ch), .val (.int n), .val (.int m), .val (.int lm), .val (.ref a)] [(.ref x_90)]
  refine Go.dup 165 d8_164 rfl rfl ?_
  refine Go.aload 167 d8_165 rfl rfl rfl ?_
  have f_97 := A_84.ext E_93
  refine Go.callC (S := [(.ref x_90)]) (a := x_90) 170 [(.ref a)] d8_167 rfl rfl rfl (w61 hw) (w62 hw) (w63 hw) (by decide) (call_of_go (R := _) (len := 3) (W := 1) (plainFor_of_name pn_1) (fun mid => ef_gnew1 mid x_90 a z ws ) (c_gnew1 hw x_90 a z ws A_95 q_92 (D_96 (Or.inr (w4 hw)) (ty := (.array .byte)) (by decide)) (D_96 (Or.inr (w5 hw)) (ty := .byte) (by decide)) f_97 hch (by rw [hwl]; exact hpos) (by rw [hwl]; exact hmk) SC hz UA UH UL) (w63 hw) (w1 hw) (by decide) (by decide)) (lenOf pd_16 rfl) (Nat.le_of_ble_eq_true rfl) rfl (Nat.le_of_ble_eq_true rfl) (Nat.le_of_ble_eq_true rfl) (sub1 (List.mem_of_getElem? (i := 0) rfl)) (fun v h_100 sf_101 hq => ?_)
  obtain ⟨rfl, K_98, S_99⟩ := hq
  refine Go.more (sf' := [x_90, a]) ?_ (Nat.le_refl _) (Nat.le_refl _) (fun _ q => List.mem_append_right _ q)
  show G_bld0 md l Z n0 kw p ch z n m lm fm pk nk mk lk ks ws h0 4 56 [x_90, a] h_100 170 #[.val (.ref kw), .val (.int (-1 : Int32)), .val (.int p), .val (.int ch), .val (.int n), .val (.int m), .val (.int lm), .val (.ref a)] [(.ref x_90)]
  have X_102 : Ext h0 h_87 := extK X_85 K_82 (allS (Nat.le_of_eq g_a) all0)
  have X_103 : Ext h0 h_89 := extT X_102 E_93
  have X_104 : Ext h0 h_100 := extK X_103 K_98 (allS (Nat.le_trans X_102.1 (Nat.le_of_eq g_91)) all0)
  exact Go.retA d8_170 rfl rfl rfl (sf' := []) (⟨_, rfl, X_104, (Nat.le_trans X_102.1 (Nat.le_of_eq g_91)), S_99⟩) (fun _ q => nomatch q) (Nat.le_of_ble_eq_true rfl) (Nat.le_of_ble_eq_true rfl)
abbrev G_bld1 (md : Md) (l : Launch) (Z : State) (n0 : Nat) (kw : Addr) (p ch z n m lm : Int32) (fm : Value) (pk nk mk lk : Nat) (ks ws : List Int32) (h0 : Heap) := Go md l Z n0 ({ frames := 6, cells := 4, slots := 56, locals := 88 } : Room) method_3_code 8 (some (.object "java/lang/String")) "com/example/avain/avain/model/TypeFromKeywordPinLaw" "build" (fun v h' _ => ∃ x, v = some (.ref x) ∧ Ext h0 h' ∧ h0.size ≤ x ∧ Gst Z h' x ((ws.set pk ch)))
theorem ef_bld1 (mid : MethodId) (kw : Addr) (p ch z n m lm : Int32) (fm : Value) (pk nk mk lk : Nat) (ks ws : List Int32)  : entryFrame mid #[(.ref kw), (.int (0 : Int32)), (.int p), (.int ch)] 8 = mkF mid 0 #[.val (.ref kw), .val (.int (0 : Int32)), .val (.int p), .val (.int ch), .unset, .unset, .unset, .unset] [] := by first | (simp [entryFrame, mkF, argsToLocals, Value.category]; done) | rfl
set_option maxRecDepth 65536 in
set_option maxHeartbeats 40000000 in
theorem c_bld1 {md : Md} {l : Launch} {Z : State} {n0 : Nat} {a0 : Array Value} (hw : HW a0 Z) (kw : Addr) (p ch z n m lm : Int32) (fm : Value) (pk nk mk lk : Nat) (ks ws : List Int32) {h0 : Heap} (S : Str Z h0 kw ks) (b_ch : CHP ch) (hch : ∀ c ∈ ws, CHP c) (hks : ks.length ≤ 4000) (hn : Int32.ofNat ks.length = n) (hnm : n + (0 : Int32) = m) (hlm : (if m < n then m else n) = lm) (hm : m.toInt = (mk : Int)) (hl : lm.toInt = (lk : Int)) (hmk : mk ≤ 13) (hpos : 0 < mk) (h1 : lk ≤ mk) (h2 : lk ≤ ks.length) (hr : cpn lk ks (List.replicate mk (0 : Int32)) 12 = ws) (hwl : ws.length = mk) (hp : p.toInt = (pk : Int)) (hpk : pk < mk) (SC : Sta Z Z.heap "java/lang/String" "COMPACT_STRINGS" "Z" (.int z)) (hz : ¬ z = 0) (SF : Sta Z Z.heap "jdk/internal/util/Preconditions" "SIOOBE_FORMATTER" "Ljava/util/function/BiFunction;" fm) (rF : fm.isRef = true) (UA : Sta Z Z.heap "java/lang/StringUTF16" "$assertionsDisabled" "Z" (.int 1)) (UH : Sta Z Z.heap "java/lang/StringUTF16" "HI_BYTE_SHIFT" "I" (.int 0)) (UL : Sta Z Z.heap "java/lang/StringUTF16" "LO_BYTE_SHIFT" "I" (.int 8))  : G_bld1 md l Z n0 kw p ch z n m lm fm pk nk mk lk ks ws h0 0 0 [] h0 0 #[.val (.ref kw), .val (.int (0 : Int32)), .val (.int p), .val (.int ch), .unset, .unset, .unset, .unset] [] := by
  refine Go.aloadN 1 d8_0 rfl rfl rfl ?_
  refine Go.old fun o_1 _ => ?_
  refine Go.callV (S := []) (a := kw) 4 [] d8_1 rfl rfl (w11 hw) (w12 hw) (w14 hw) (w13 hw) (fun _ q => notFace_of_selects (args := #[]) (mvT q (w14 hw))) (by decide) S.exa (strLen (W := 0) (hln hw) (w2 hw) S hks o_1 SC hz (by decide) (by decide)) (lenOf pd_13 rfl) (Nat.le_of_ble_eq_true rfl) rfl (Nat.le_of_ble_eq_true rfl) (Nat.le_of_ble_eq_true rfl) (fun _ q => q) (fun v h_2 sf_3 hq => ?_)
  obtain ⟨rfl, rfl⟩ := hq
  refine Go.more (sf' := []) ?_ (Nat.le_refl _) (Nat.le_refl _) (fun _ q => List.mem_append_right _ q)
  show G_bld1 md l Z n0 kw p ch z n m lm fm pk nk mk lk ks ws h0 0 0 [] h0 4 #[.val (.ref kw), .val (.int (0 : Int32)), .val (.int p), .val (.int ch), .unset, .unset, .unset, .unset] [(.int (Int32.ofNat (ks).length))]
  rw [show (Int32.ofNat (ks).length) = n from hn]
  show G_bld1 md l Z n0 kw p ch z n m lm fm pk nk mk lk ks ws h0 0 0 [] h0 4 #[.val (.ref kw), .val (.int (0 : Int32)), .val (.int p), .val (.int ch), .unset, .unset, .unset, .unset] [(.int n)]
  refine Go.istore 6 #[.val (.ref kw), .val (.int (0 : Int32)), .val (.int p), .val (.int ch), .val (.int n), .unset, .unset, .unset] d8_4 rfl rfl ?_
  refine Go.iload 8 d8_6 rfl rfl ?_
  refine Go.iloadN 9 d8_8 rfl rfl ?_
  refine Go.iadd 10 d8_9 rfl ?_
  rw [show (n + (0 : Int32)) = m from hnm]
  show G_bld1 md l Z n0 kw p ch z n m lm fm pk nk mk lk ks ws h0 0 0 [] h0 10 #[.val (.ref kw), .val (.int (0 : Int32)), .val (.int p), .val (.int ch), .val (.int n), .unset, .unset, .unset] [(.int m)]
  refine Go.istore 12 #[.val (.ref kw), .val (.int (0 : Int32)), .val (.int p), .val (.int ch), .val (.int n), .val (.int m), .unset, .unset] d8_10 rfl rfl ?_
  refine Go.iload 14 d8_12 rfl rfl ?_
  refine Go.iload 16 d8_14 rfl rfl ?_
  refine Go.callS (S := []) 19 [(.int n), (.int m)] d8_16 rfl rfl (w52 hw) (w53 hw) (w54 hw) (w55 hw) (by decide) (call_of_go (R := _) (len := 3) (W := 0) pf_0 (fun mid => ef_min mid n m ) (c_min hw n m ) (w55 hw) (w54 hw) (by decide) (by decide)) (lenOf pd_14 rfl) (Nat.le_of_ble_eq_true rfl) rfl (Nat.le_of_ble_eq_true rfl) (Nat.le_of_ble_eq_true rfl) (fun _ q => nomatch q) (fun v h_4 sf_5 hq => ?_)
  obtain ⟨rfl, rfl⟩ := hq
  refine Go.more (sf' := []) ?_ (Nat.le_refl _) (Nat.le_refl _) (fun _ q => List.mem_append_right _ q)
  show G_bld1 md l Z n0 kw p ch z n m lm fm pk nk mk lk ks ws h0 0 0 [] h0 19 #[.val (.ref kw), .val (.int (0 : Int32)), .val (.int p), .val (.int ch), .val (.int n), .val (.int m), .unset, .unset] [(.int (if m < n then m else n))]
  rw [show (if m < n then m else n) = lm from hlm]
  show G_bld1 md l Z n0 kw p ch z n m lm fm pk nk mk lk ks ws h0 0 0 [] h0 19 #[.val (.ref kw), .val (.int (0 : Int32)), .val (.int p), .val (.int ch), .val (.int n), .val (.int m), .unset, .unset] [(.int lm)]
  refine Go.istore 21 #[.val (.ref kw), .val (.int (0 : Int32)), .val (.int p), .val (.int ch), .val (.int n), .val (.int m), .val (.int lm), .unset] d8_19 rfl rfl ?_
  refine Go.iload 23 d8_21 rfl rfl ?_
  refine Go.newA mk 25 d8_23 rfl rfl (w56 hw) hm 13 hmk (by decide) (Nat.le_of_ble_eq_true rfl) (Nat.le_of_ble_eq_true rfl) (fun h1_ a g_a q_a X_a lt_a A_ => ?_)
  have A0_ : Ary Z h1_ a .char ((cpn lk ks (List.replicate mk (0 : Int32)) 0).map Value.int) := by unfold cpn; rw [List.map_replicate]; exact A_
  show G_bld1 md l Z n0 kw p ch z n m lm fm pk nk mk lk ks ws h0 1 13 [a] h1_ 25 #[.val (.ref kw), .val (.int (0 : Int32)), .val (.int p), .val (.int ch), .val (.int n), .val (.int m), .val (.int lm), .unset] [(.ref a)]
  refine Go.astore 27 #[.val (.ref kw), .val (.int (0 : Int32)), .val (.int p), .val (.int ch), .val (.int n), .val (.int m), .val (.int lm), .val (.ref a)] d8_25 rfl rfl rfl ?_
  refine Go.aload 29 d8_27 rfl rfl rfl ?_
  refine Go.aloadN 30 d8_29 rfl rfl rfl ?_
  refine Go.iconst 31 (0 : Int32) d8_30 rfl rfl ?_
  refine Go.iload 33 d8_31 rfl rfl ?_
  have f_9 := S.ext X_a
  refine Go.callS (S := []) 36 [(.ref a), (.ref kw), (.int (0 : Int32)), (.int lm)] d8_33 rfl rfl (w57 hw) (w58 hw) (w50 hw) (w59 hw) (by decide) (call_of_go (R := _) (len := 3) (W := 0) (plainFor_of_name pn_3) (fun mid => ef_cpy mid a kw (0 : Int32) lm z fm 0 lk (cpn lk ks (List.replicate mk (0 : Int32)) 0) ks ) (c_cpy hw a kw (0 : Int32) lm z fm 0 lk (cpn lk ks (List.replicate mk (0 : Int32)) 0) ks A0_ q_a f_9 rfl hl (by rw [cpn_len, List.length_replicate]; exact h1) h2 hks SC hz SF rF) (w59 hw) (w50 hw) (by decide) (by decide)) (lenOf pd_15 rfl) (Nat.le_of_ble_eq_true rfl) rfl (Nat.le_of_ble_eq_true rfl) (Nat.le_of_ble_eq_true rfl) (fun _ q => q) (fun v h_10 sf_11 hq => ?_)
  obtain ⟨rfl, K_6, A_7⟩ := hq
  have A_8 : Ary Z h_10 a .char ((cpn lk ks (List.replicate mk (0 : Int32)) 1).map Value.int) := A_7
  refine Go.more (sf' := [a]) ?_ (Nat.le_refl _) (Nat.le_refl _) (fun _ q => List.mem_append_right _ q)
  show G_bld1 md l Z n0 kw p ch z n m lm fm pk nk mk lk ks ws h0 1 13 [a] h_10 36 #[.val (.ref kw), .val (.int (0 : Int32)), .val (.int p), .val (.int ch), .val (.int n), .val (.int m), .val (.int lm), .val (.ref a)] []
  refine Go.aload 38 d8_36 rfl rfl rfl ?_
  refine Go.aloadN 39 d8_38 rfl rfl rfl ?_
  refine Go.iconst 40 (1 : Int32) d8_39 rfl rfl ?_
  refine Go.iload 42 d8_40 rfl rfl ?_
  have X_15 : Ext h0 h_10 := extK X_a K_6 (allS (Nat.le_of_eq g_a) all0)
  have f_16 := S.ext X_15
  refine Go.callS (S := []) 45 [(.ref a), (.ref kw), (.int (1 : Int32)), (.int lm)] d8_42 rfl rfl (w57 hw) (w58 hw) (w50 hw) (w59 hw) (by decide) (call_of_go (R := _) (len := 3) (W := 0) (plainFor_of_name pn_3) (fun mid => ef_cpy mid a kw (1 : Int32) lm z fm 1 lk (cpn lk ks (List.replicate mk (0 : Int32)) 1) ks ) (c_cpy hw a kw (1 : Int32) lm z fm 1 lk (cpn lk ks (List.replicate mk (0 : Int32)) 1) ks A_8 q_a f_16 rfl hl (by rw [cpn_len, List.length_replicate]; exact h1) h2 hks SC hz SF rF) (w59 hw) (w50 hw) (by decide) (by decide)) (lenOf pd_15 rfl) (Nat.le_of_ble_eq_true rfl) rfl (Nat.le_of_ble_eq_true rfl) (Nat.le_of_ble_eq_true rfl) (fun _ q => q) (fun v h_17 sf_18 hq => ?_)
  obtain ⟨rfl, K_12, A_13⟩ := hq
  have A_14 : Ary Z h_17 a .char ((cpn lk ks (List.replicate mk (0 : Int32)) 2).map Value.int) := A_13
  refine Go.more (sf' := [a]) ?_ (Nat.le_refl _) (Nat.le_refl _) (fun _ q => List.mem_append_right _ q)
  show G_bld1 md l Z n0 kw p ch z n m lm fm pk nk mk lk ks ws h0 1 13 [a] h_17 45 #[.val (.ref kw), .val (.int (0 : Int32)), .val (.int p), .val (.int ch), .val (.int n), .val (.int m), .val (.int lm), .val (.ref a)] []
  refine Go.aload 47 d8_45 rfl rfl rfl ?_
  refine Go.aloadN 48 d8_47 rfl rfl rfl ?_
  refine Go.iconst 49 (2 : Int32) d8_48 rfl rfl ?_
  refine Go.iload 51 d8_49 rfl rfl ?_
  have X_22 : Ext h0 h_17 := extK X_15 K_12 (allS (Nat.le_of_eq g_a) all0)
  have f_23 := S.ext X_22
  refine Go.callS (S := []) 54 [(.ref a), (.ref kw), (.int (2 : Int32)), (.int lm)] d8_51 rfl rfl (w57 hw) (w58 hw) (w50 hw) (w59 hw) (by decide) (call_of_go (R := _) (len := 3) (W := 0) (plainFor_of_name pn_3) (fun mid => ef_cpy mid a kw (2 : Int32) lm z fm 2 lk (cpn lk ks (List.replicate mk (0 : Int32)) 2) ks ) (c_cpy hw a kw (2 : Int32) lm z fm 2 lk (cpn lk ks (List.replicate mk (0 : Int32)) 2) ks A_14 q_a f_23 rfl hl (by rw [cpn_len, List.length_replicate]; exact h1) h2 hks SC hz SF rF) (w59 hw) (w50 hw) (by decide) (by decide)) (lenOf pd_15 rfl) (Nat.le_of_ble_eq_true rfl) rfl (Nat.le_of_ble_eq_true rfl) (Nat.le_of_ble_eq_true rfl) (fun _ q => q) (fun v h_24 sf_25 hq => ?_)
  obtain ⟨rfl, K_19, A_20⟩ := hq
  have A_21 : Ary Z h_24 a .char ((cpn lk ks (List.replicate mk (0 : Int32)) 3).map Value.int) := A_20
  refine Go.more (sf' := [a]) ?_ (Nat.le_refl _) (Nat.le_refl _) (fun _ q => List.mem_append_right _ q)
  show G_bld1 md l Z n0 kw p ch z n m lm fm pk nk mk lk ks ws h0 1 13 [a] h_24 54 #[.val (.ref kw), .val (.int (0 : Int32)), .val (.int p), .val (.int ch), .val (.int n), .val (.int m), .val (.int lm), .val (.ref a)] []
  refine Go.aload 56 d8_54 rfl rfl rfl ?_
  refine Go.aloadN 57 d8_56 rfl rfl rfl ?_
  refine Go.iconst 58 (3 : Int32) d8_57 rfl rfl ?_
  refine Go.iload 60 d8_58 rfl rfl ?_
  have X_29 : Ext h0 h_24 := extK X_22 K_19 (allS (Nat.le_of_eq g_a) all0)
  have f_30 := S.ext X_29
  refine Go.callS (S := []) 63 [(.ref a), (.ref kw), (.int (3 : Int32)), (.int lm)] d8_60 rfl rfl (w57 hw) (w58 hw) (w50 hw) (w59 hw) (by decide) (call_of_go (R := _) (len := 3) (W := 0) (plainFor_of_name pn_3) (fun mid => ef_cpy mid a kw (3 : Int32) lm z fm 3 lk (cpn lk ks (List.replicate mk (0 : Int32)) 3) ks ) (c_cpy hw a kw (3 : Int32) lm z fm 3 lk (cpn lk ks (List.replicate mk (0 : Int32)) 3) ks A_21 q_a f_30 rfl hl (by rw [cpn_len, List.length_replicate]; exact h1) h2 hks SC hz SF rF) (w59 hw) (w50 hw) (by decide) (by decide)) (lenOf pd_15 rfl) (Nat.le_of_ble_eq_true rfl) rfl (Nat.le_of_ble_eq_true rfl) (Nat.le_of_ble_eq_true rfl) (fun _ q => q) (fun v h_31 sf_32 hq => ?_)
  obtain ⟨rfl, K_26, A_27⟩ := hq
  have A_28 : Ary Z h_31 a .char ((cpn lk ks (List.replicate mk (0 : Int32)) 4).map Value.int) := A_27
  refine Go.more (sf' := [a]) ?_ (Nat.le_refl _) (Nat.le_refl _) (fun _ q => List.mem_append_right _ q)
  show G_bld1 md l Z n0 kw p ch z n m lm fm pk nk mk lk ks ws h0 1 13 [a] h_31 63 #[.val (.ref kw), .val (.int (0 : Int32)), .val (.int p), .val (.int ch), .val (.int n), .val (.int m), .val (.int lm), .val (.ref a)] []
  refine Go.aload 65 d8_63 rfl rfl rfl ?_
  refine Go.aloadN 66 d8_65 rfl rfl rfl ?_
  refine Go.iconst 67 (4 : Int32) d8_66 rfl rfl ?_
  refine Go.iload 69 d8_67 rfl rfl ?_
  have X_36 : Ext h0 h_31 := extK X_29 K_26 (allS (Nat.le_of_eq g_a) all0)
  have f_37 := S.ext X_36
  refine Go.callS (S := []) 72 [(.ref a), (.ref kw), (.int (4 : Int32)), (.int lm)] d8_69 rfl rfl (w57 hw) (w58 hw) (w50 hw) (w59 hw) (by decide) (call_of_go (R := _) (len := 3) (W := 0) (plainFor_of_name pn_3) (fun mid => ef_cpy mid a kw (4 : Int32) lm z fm 4 lk (cpn lk ks (List.replicate mk (0 : Int32)) 4) ks ) (c_cpy hw a kw (4 : Int32) lm z fm 4 lk (cpn lk ks (List.replicate mk (0 : Int32)) 4) ks A_28 q_a f_37 rfl hl (by rw [cpn_len, List.length_replicate]; exact h1) h2 hks SC hz SF rF) (w59 hw) (w50 hw) (by decide) (by decide)) (lenOf pd_15 rfl) (Nat.le_of_ble_eq_true rfl) rfl (Nat.le_of_ble_eq_true rfl) (Nat.le_of_ble_eq_true rfl) (fun _ q => q) (fun v h_38 sf_39 hq => ?_)
  obtain ⟨rfl, K_33, A_34⟩ := hq
  have A_35 : Ary Z h_38 a .char ((cpn lk ks (List.replicate mk (0 : Int32)) 5).map Value.int) := A_34
  refine Go.more (sf' := [a]) ?_ (Nat.le_refl _) (Nat.le_refl _) (fun _ q => List.mem_append_right _ q)
  show G_bld1 md l Z n0 kw p ch z n m lm fm pk nk mk lk ks ws h0 1 13 [a] h_38 72 #[.val (.ref kw), .val (.int (0 : Int32)), .val (.int p), .val (.int ch), .val (.int n), .val (.int m), .val (.int lm), .val (.ref a)] []
  refine Go.aload 74 d8_72 rfl rfl rfl ?_
  refine Go.aloadN 75 d8_74 rfl rfl rfl ?_
  refine Go.iconst 76 (5 : Int32) d8_75 rfl rfl ?_
  refine Go.iload 78 d8_76 rfl rfl ?_
  have X_43 : Ext h0 h_38 := extK X_36 K_33 (allS (Nat.le_of_eq g_a) all0)
  have f_44 := S.ext X_43
  refine Go.callS (S := []) 81 [(.ref a), (.ref kw), (.int (5 : Int32)), (.int lm)] d8_78 rfl rfl (w57 hw) (w58 hw) (w50 hw) (w59 hw) (by decide) (call_of_go (R := _) (len := 3) (W := 0) (plainFor_of_name pn_3) (fun mid => ef_cpy mid a kw (5 : Int32) lm z fm 5 lk (cpn lk ks (List.replicate mk (0 : Int32)) 5) ks ) (c_cpy hw a kw (5 : Int32) lm z fm 5 lk (cpn lk ks (List.replicate mk (0 : Int32)) 5) ks A_35 q_a f_44 rfl hl (by rw [cpn_len, List.length_replicate]; exact h1) h2 hks SC hz SF rF) (w59 hw) (w50 hw) (by decide) (by decide)) (lenOf pd_15 rfl) (Nat.le_of_ble_eq_true rfl) rfl (Nat.le_of_ble_eq_true rfl) (Nat.le_of_ble_eq_true rfl) (fun _ q => q) (fun v h_45 sf_46 hq => ?_)
  obtain ⟨rfl, K_40, A_41⟩ := hq
  have A_42 : Ary Z h_45 a .char ((cpn lk ks (List.replicate mk (0 : Int32)) 6).map Value.int) := A_41
  refine Go.more (sf' := [a]) ?_ (Nat.le_refl _) (Nat.le_refl _) (fun _ q => List.mem_append_right _ q)
  show G_bld1 md l Z n0 kw p ch z n m lm fm pk nk mk lk ks ws h0 1 13 [a] h_45 81 #[.val (.ref kw), .val (.int (0 : Int32)), .val (.int p), .val (.int ch), .val (.int n), .val (.int m), .val (.int lm), .val (.ref a)] []
  refine Go.aload 83 d8_81 rfl rfl rfl ?_
  refine Go.aloadN 84 d8_83 rfl rfl rfl ?_
  refine Go.bipush 86 (6 : Int32) d8_84 rfl rfl ?_
  refine Go.iload 88 d8_86 rfl rfl ?_
  have X_50 : Ext h0 h_45 := extK X_43 K_40 (allS (Nat.le_of_eq g_a) all0)
  have f_51 := S.ext X_50
  refine Go.callS (S := []) 91 [(.ref a), (.ref kw), (.int (6 : Int32)), (.int lm)] d8_88 rfl rfl (w57 hw) (w58 hw) (w50 hw) (w59 hw) (by decide) (call_of_go (R := _) (len := 3) (W := 0) (plainFor_of_name pn_3) (fun mid => ef_cpy mid a kw (6 : Int32) lm z fm 6 lk (cpn lk ks (List.replicate mk (0 : Int32)) 6) ks ) (c_cpy hw a kw (6 : Int32) lm z fm 6 lk (cpn lk ks (List.replicate mk (0 : Int32)) 6) ks A_42 q_a f_51 rfl hl (by rw [cpn_len, List.length_replicate]; exact h1) h2 hks SC hz SF rF) (w59 hw) (w50 hw) (by decide) (by decide)) (lenOf pd_15 rfl) (Nat.le_of_ble_eq_true rfl) rfl (Nat.le_of_ble_eq_true rfl) (Nat.le_of_ble_eq_true rfl) (fun _ q => q) (fun v h_52 sf_53 hq => ?_)
  obtain ⟨rfl, K_47, A_48⟩ := hq
  have A_49 : Ary Z h_52 a .char ((cpn lk ks (List.replicate mk (0 : Int32)) 7).map Value.int) := A_48
  refine Go.more (sf' := [a]) ?_ (Nat.le_refl _) (Nat.le_refl _) (fun _ q => List.mem_append_right _ q)
  show G_bld1 md l Z n0 kw p ch z n m lm fm pk nk mk lk ks ws h0 1 13 [a] h_52 91 #[.val (.ref kw), .val (.int (0 : Int32)), .val (.int p), .val (.int ch), .val (.int n), .val (.int m), .val (.int lm), .val (.ref a)] []
  refine Go.aload 93 d8_91 rfl rfl rfl ?_
  refine Go.aloadN 94 d8_93 rfl rfl rfl ?_
  refine Go.bipush 96 (7 : Int32) d8_94 rfl rfl ?_
  refine Go.iload 98 d8_96 rfl rfl ?_
  have X_57 : Ext h0 h_52 := extK X_50 K_47 (allS (Nat.le_of_eq g_a) all0)
  have f_58 := S.ext X_57
  refine Go.callS (S := []) 101 [(.ref a), (.ref kw), (.int (7 : Int32)), (.int lm)] d8_98 rfl rfl (w57 hw) (w58 hw) (w50 hw) (w59 hw) (by decide) (call_of_go (R := _) (len := 3) (W := 0) (plainFor_of_name pn_3) (fun mid => ef_cpy mid a kw (7 : Int32) lm z fm 7 lk (cpn lk ks (List.replicate mk (0 : Int32)) 7) ks ) (c_cpy hw a kw (7 : Int32) lm z fm 7 lk (cpn lk ks (List.replicate mk (0 : Int32)) 7) ks A_49 q_a f_58 rfl hl (by rw [cpn_len, List.length_replicate]; exact h1) h2 hks SC hz SF rF) (w59 hw) (w50 hw) (by decide) (by decide)) (lenOf pd_15 rfl) (Nat.le_of_ble_eq_true rfl) rfl (Nat.le_of_ble_eq_true rfl) (Nat.le_of_ble_eq_true rfl) (fun _ q => q) (fun v h_59 sf_60 hq => ?_)
  obtain ⟨rfl, K_54, A_55⟩ := hq
  have A_56 : Ary Z h_59 a .char ((cpn lk ks (List.replicate mk (0 : Int32)) 8).map Value.int) := A_55
  refine Go.more (sf' := [a]) ?_ (Nat.le_refl _) (Nat.le_refl _) (fun _ q => List.mem_append_right _ q)
  show G_bld1 md l Z n0 kw p ch z n m lm fm pk nk mk lk ks ws h0 1 13 [a] h_59 101 #[.val (.ref kw), .val (.int (0 : Int32)), .val (.int p), .val (.int ch), .val (.int n), .val (.int m), .val (.int lm), .val (.ref a)] []
  refine Go.aload 103 d8_101 rfl rfl rfl ?_
  refine Go.aloadN 104 d8_103 rfl rfl rfl ?_
  refine Go.bipush 106 (8 : Int32) d8_104 rfl rfl ?_
  refine Go.iload 108 d8_106 rfl rfl ?_
  have X_64 : Ext h0 h_59 := extK X_57 K_54 (allS (Nat.le_of_eq g_a) all0)
  have f_65 := S.ext X_64
  refine Go.callS (S := []) 111 [(.ref a), (.ref kw), (.int (8 : Int32)), (.int lm)] d8_108 rfl rfl (w57 hw) (w58 hw) (w50 hw) (w59 hw) (by decide) (call_of_go (R := _) (len := 3) (W := 0) (plainFor_of_name pn_3) (fun mid => ef_cpy mid a kw (8 : Int32) lm z fm 8 lk (cpn lk ks (List.replicate mk (0 : Int32)) 8) ks ) (c_cpy hw a kw (8 : Int32) lm z fm 8 lk (cpn lk ks (List.replicate mk (0 : Int32)) 8) ks A_56 q_a f_65 rfl hl (by rw [cpn_len, List.length_replicate]; exact h1) h2 hks SC hz SF rF) (w59 hw) (w50 hw) (by decide) (by decide)) (lenOf pd_15 rfl) (Nat.le_of_ble_eq_true rfl) rfl (Nat.le_of_ble_eq_true rfl) (Nat.le_of_ble_eq_true rfl) (fun _ q => q) (fun v h_66 sf_67 hq => ?_)
  obtain ⟨rfl, K_61, A_62⟩ := hq
  have A_63 : Ary Z h_66 a .char ((cpn lk ks (List.replicate mk (0 : Int32)) 9).map Value.int) := A_62
  refine Go.more (sf' := [a]) ?_ (Nat.le_refl _) (Nat.le_refl _) (fun _ q => List.mem_append_right _ q)
  show G_bld1 md l Z n0 kw p ch z n m lm fm pk nk mk lk ks ws h0 1 13 [a] h_66 111 #[.val (.ref kw), .val (.int (0 : Int32)), .val (.int p), .val (.int ch), .val (.int n), .val (.int m), .val (.int lm), .val (.ref a)] []
  refine Go.aload 113 d8_111 rfl rfl rfl ?_
  refine Go.aloadN 114 d8_113 rfl rfl rfl ?_
  refine Go.bipush 116 (9 : Int32) d8_114 rfl rfl ?_
  refine Go.iload 118 d8_116 rfl rfl ?_
  have X_71 : Ext h0 h_66 := extK X_64 K_61 (allS (Nat.le_of_eq g_a) all0)
  have f_72 := S.ext X_71
  refine Go.callS (S := []) 121 [(.ref a), (.ref kw), (.int (9 : Int32)), (.int lm)] d8_118 rfl rfl (w57 hw) (w58 hw) (w50 hw) (w59 hw) (by decide) (call_of_go (R := _) (len := 3) (W := 0) (plainFor_of_name pn_3) (fun mid => ef_cpy mid a kw (9 : Int32) lm z fm 9 lk (cpn lk ks (List.replicate mk (0 : Int32)) 9) ks ) (c_cpy hw a kw (9 : Int32) lm z fm 9 lk (cpn lk ks (List.replicate mk (0 : Int32)) 9) ks A_63 q_a f_72 rfl hl (by rw [cpn_len, List.length_replicate]; exact h1) h2 hks SC hz SF rF) (w59 hw) (w50 hw) (by decide) (by decide)) (lenOf pd_15 rfl) (Nat.le_of_ble_eq_true rfl) rfl (Nat.le_of_ble_eq_true rfl) (Nat.le_of_ble_eq_true rfl) (fun _ q => q) (fun v h_73 sf_74 hq => ?_)
  obtain ⟨rfl, K_68, A_69⟩ := hq
  have A_70 : Ary Z h_73 a .char ((cpn lk ks (List.replicate mk (0 : Int32)) 10).map Value.int) := A_69
  refine Go.more (sf' := [a]) ?_ (Nat.le_refl _) (Nat.le_refl _) (fun _ q => List.mem_append_right _ q)
  show G_bld1 md l Z n0 kw p ch z n m lm fm pk nk mk lk ks ws h0 1 13 [a] h_73 121 #[.val (.ref kw), .val (.int (0 : Int32)), .val (.int p), .val (.int ch), .val (.int n), .val (.int m), .val (.int lm), .val (.ref a)] []
  refine Go.aload 123 d8_121 rfl rfl rfl ?_
  refine Go.aloadN 124 d8_123 rfl rfl rfl ?_
  refine Go.bipush 126 (10 : Int32) d8_124 rfl rfl ?_
  refine Go.iload 128 d8_126 rfl rfl ?_
  have X_78 : Ext h0 h_73 := extK X_71 K_68 (allS (Nat.le_of_eq g_a) all0)
  have f_79 := S.ext X_78
  refine Go.callS (S := []) 131 [(.ref a), (.ref kw), (.int (10 : Int32)), (.int lm)] d8_128 rfl rfl (w57 hw) (w58 hw) (w50 hw) (w59 hw) (by decide) (call_of_go (R := _) (len := 3) (W := 0) (plainFor_of_name pn_3) (fun mid => ef_cpy mid a kw (10 : Int32) lm z fm 10 lk (cpn lk ks (List.replicate mk (0 : Int32)) 10) ks ) (c_cpy hw a kw (10 : Int32) lm z fm 10 lk (cpn lk ks (List.replicate mk (0 : Int32)) 10) ks A_70 q_a f_79 rfl hl (by rw [cpn_len, List.length_replicate]; exact h1) h2 hks SC hz SF rF) (w59 hw) (w50 hw) (by decide) (by decide)) (lenOf pd_15 rfl) (Nat.le_of_ble_eq_true rfl) rfl (Nat.le_of_ble_eq_true rfl) (Nat.le_of_ble_eq_true rfl) (fun _ q => q) (fun v h_80 sf_81 hq => ?_)
  obtain ⟨rfl, K_75, A_76⟩ := hq
  have A_77 : Ary Z h_80 a .char ((cpn lk ks (List.replicate mk (0 : Int32)) 11).map Value.int) := A_76
  refine Go.more (sf' := [a]) ?_ (Nat.le_refl _) (Nat.le_refl _) (fun _ q => List.mem_append_right _ q)
  show G_bld1 md l Z n0 kw p ch z n m lm fm pk nk mk lk ks ws h0 1 13 [a] h_80 131 #[.val (.ref kw), .val (.int (0 : Int32)), .val (.int p), .val (.int ch), .val (.int n), .val (.int m), .val (.int lm), .val (.ref a)] []
  refine Go.aload 133 d8_131 rfl rfl rfl ?_
  refine Go.aloadN 134 d8_133 rfl rfl rfl ?_
  refine Go.bipush 136 (11 : Int32) d8_134 rfl rfl ?_
  refine Go.iload 138 d8_136 rfl rfl ?_
  have X_85 : Ext h0 h_80 := extK X_78 K_75 (allS (Nat.le_of_eq g_a) all0)
  have f_86 := S.ext X_85
  refine Go.callS (S := []) 141 [(.ref a), (.ref kw), (.int (11 : Int32)), (.int lm)] d8_138 rfl rfl (w57 hw) (w58 hw) (w50 hw) (w59 hw) (by decide) (call_of_go (R := _) (len := 3) (W := 0) (plainFor_of_name pn_3) (fun mid => ef_cpy mid a kw (11 : Int32) lm z fm 11 lk (cpn lk ks (List.replicate mk (0 : Int32)) 11) ks ) (c_cpy hw a kw (11 : Int32) lm z fm 11 lk (cpn lk ks (List.replicate mk (0 : Int32)) 11) ks A_77 q_a f_86 rfl hl (by rw [cpn_len, List.length_replicate]; exact h1) h2 hks SC hz SF rF) (w59 hw) (w50 hw) (by decide) (by decide)) (lenOf pd_15 rfl) (Nat.le_of_ble_eq_true rfl) rfl (Nat.le_of_ble_eq_true rfl) (Nat.le_of_ble_eq_true rfl) (fun _ q => q) (fun v h_87 sf_88 hq => ?_)
  obtain ⟨rfl, K_82, A_83⟩ := hq
  have A_84 : Ary Z h_87 a .char (ws.map Value.int) := by rw [← hr]; exact A_83
  refine Go.more (sf' := [a]) ?_ (Nat.le_refl _) (Nat.le_refl _) (fun _ q => List.mem_append_right _ q)
  show G_bld1 md l Z n0 kw p ch z n m lm fm pk nk mk lk ks ws h0 1 13 [a] h_87 141 #[.val (.ref kw), .val (.int (0 : Int32)), .val (.int p), .val (.int ch), .val (.int n), .val (.int m), .val (.int lm), .val (.ref a)] []
  refine Go.iloadN 142 d8_141 rfl rfl ?_
  refine Go.ifN 145 d8_142 rfl (teq (by decide)).2 ?_
  refine Go.aload 147 d8_145 rfl rfl rfl ?_
  refine Go.iloadN 148 d8_147 rfl rfl ?_
  refine Go.iloadN 149 d8_148 rfl rfl ?_
  refine Go.castore pk 150 d8_149 rfl A_84 hp (by rw [List.length_map, hwl]; exact hpk) (List.mem_of_getElem? (i := 0) rfl) q_a (fun h9 W9 A9 => ?_)
  have A8 : Ary Z h9 a .char ((ws.set pk ch).map Value.int) := by rw [List.map_set]; have q_ := A9; rw [nar_cc b_ch] at q_; exact q_
  refine Go.iloadN 151 d8_150 rfl rfl ?_
  refine Go.iconst 152 (1 : Int32) d8_151 rfl rfl ?_
  refine Go.icmpY 161 d8_152 (by decide) (by decide) (feq (by decide)).2 ?_
  refine Go.new 164 d8_161 rfl (w60 hw) (w2 hw) (w1 hw) (Nat.le_of_ble_eq_true rfl) (Nat.le_of_ble_eq_true rfl) (fun h_89 x_90 g_91 q_92 E_93 lt_94 A_95 D_96 => ?_)
  show G_bld1 md l Z n0 kw p ch z n m lm fm pk nk mk lk ks ws h0 2 17 [x_90, a] h_89 164 #[.val (.ref kw), .val (.int (0 : Int32)), .val (.int p), .val (.int ch), .val (.int n), .val (.int m), .val (.int lm), .val (.ref a)] [(.ref x_90)]
  refine Go.dup 165 d8_164 rfl rfl ?_
  refine Go.aload 167 d8_165 rfl rfl rfl ?_
  have f_97 := A8.ext E_93
  refine Go.callC (S := [(.ref x_90)]) (a := x_90) 170 [(.ref a)] d8_167 rfl rfl rfl (w61 hw) (w62 hw) (w63 hw) (by decide) (call_of_go (R := _) (len := 3) (W := 1) (plainFor_of_name pn_1) (fun mid => ef_gnew1 mid x_90 a z (ws.set pk ch) ) (c_gnew1 hw x_90 a z (ws.set pk ch) A_95 q_92 (D_96 (Or.inr (w4 hw)) (ty := (.array .byte)) (by decide)) (D_96 (Or.inr (w5 hw)) (ty := .byte) (by decide)) f_97 (chp_set hch b_ch) (by rw [(List.length_set.trans hwl)]; exact hpos) (by rw [(List.length_set.trans hwl)]; exact hmk) SC hz UA UH UL) (w63 hw) (w1 hw) (by decide) (by decide)) (lenOf pd_16 rfl) (Nat.le_of_ble_eq_true rfl) rfl (Nat.le_of_ble_eq_true rfl) (Nat.le_of_ble_eq_true rfl) (sub1 (List.mem_of_getElem? (i := 0) rfl)) (fun v h_100 sf_101 hq => ?_)
  obtain ⟨rfl, K_98, S_99⟩ := hq
  refine Go.more (sf' := [x_90, a]) ?_ (Nat.le_refl _) (Nat.le_refl _) (fun _ q => List.mem_append_right _ q)
  show G_bld1 md l Z n0 kw p ch z n m lm fm pk nk mk lk ks ws h0 4 56 [x_90, a] h_100 170 #[.val (.ref kw), .val (.int (0 : Int32)), .val (.int p), .val (.int ch), .val (.int n), .val (.int m), .val (.int lm), .val (.ref a)] [(.ref x_90)]
  have X_102 : Ext h0 h_87 := extK X_85 K_82 (allS (Nat.le_of_eq g_a) all0)
  have X_103 : Ext h0 h9 := extW X_102 W9 (Nat.le_of_eq g_a)
  have X_104 : Ext h0 h_89 := extT X_103 E_93
  have X_105 : Ext h0 h_100 := extK X_104 K_98 (allS (Nat.le_trans X_103.1 (Nat.le_of_eq g_91)) all0)
  exact Go.retA d8_170 rfl rfl rfl (sf' := []) (⟨_, rfl, X_105, (Nat.le_trans X_103.1 (Nat.le_of_eq g_91)), S_99⟩) (fun _ q => nomatch q) (Nat.le_of_ble_eq_true rfl) (Nat.le_of_ble_eq_true rfl)
abbrev G_bld2 (md : Md) (l : Launch) (Z : State) (n0 : Nat) (kw : Addr) (p ch z n m lm : Int32) (fm : Value) (pk nk mk lk : Nat) (ks ws : List Int32) (h0 : Heap) := Go md l Z n0 ({ frames := 6, cells := 4, slots := 56, locals := 88 } : Room) method_3_code 8 (some (.object "java/lang/String")) "com/example/avain/avain/model/TypeFromKeywordPinLaw" "build" (fun v h' _ => ∃ x, v = some (.ref x) ∧ Ext h0 h' ∧ h0.size ≤ x ∧ Gst Z h' x ((ws.set nk ch)))
theorem ef_bld2 (mid : MethodId) (kw : Addr) (p ch z n m lm : Int32) (fm : Value) (pk nk mk lk : Nat) (ks ws : List Int32)  : entryFrame mid #[(.ref kw), (.int (1 : Int32)), (.int p), (.int ch)] 8 = mkF mid 0 #[.val (.ref kw), .val (.int (1 : Int32)), .val (.int p), .val (.int ch), .unset, .unset, .unset, .unset] [] := by first | (simp [entryFrame, mkF, argsToLocals, Value.category]; done) | rfl
set_option maxRecDepth 65536 in
set_option maxHeartbeats 40000000 in
theorem c_bld2 {md : Md} {l : Launch} {Z : State} {n0 : Nat} {a0 : Array Value} (hw : HW a0 Z) (kw : Addr) (p ch z n m lm : Int32) (fm : Value) (pk nk mk lk : Nat) (ks ws : List Int32) {h0 : Heap} (S : Str Z h0 kw ks) (b_ch : CHP ch) (hch : ∀ c ∈ ws, CHP c) (hks : ks.length ≤ 4000) (hn : Int32.ofNat ks.length = n) (hnm : n + (1 : Int32) = m) (hlm : (if m < n then m else n) = lm) (hm : m.toInt = (mk : Int)) (hl : lm.toInt = (lk : Int)) (hmk : mk ≤ 13) (hpos : 0 < mk) (h1 : lk ≤ mk) (h2 : lk ≤ ks.length) (hr : cpn lk ks (List.replicate mk (0 : Int32)) 12 = ws) (hwl : ws.length = mk) (hp : n.toInt = (nk : Int)) (hpk : nk < mk) (SC : Sta Z Z.heap "java/lang/String" "COMPACT_STRINGS" "Z" (.int z)) (hz : ¬ z = 0) (SF : Sta Z Z.heap "jdk/internal/util/Preconditions" "SIOOBE_FORMATTER" "Ljava/util/function/BiFunction;" fm) (rF : fm.isRef = true) (UA : Sta Z Z.heap "java/lang/StringUTF16" "$assertionsDisabled" "Z" (.int 1)) (UH : Sta Z Z.heap "java/lang/StringUTF16" "HI_BYTE_SHIFT" "I" (.int 0)) (UL : Sta Z Z.heap "java/lang/StringUTF16" "LO_BYTE_SHIFT" "I" (.int 8))  : G_bld2 md l Z n0 kw p ch z n m lm fm pk nk mk lk ks ws h0 0 0 [] h0 0 #[.val (.ref kw), .val (.int (1 : Int32)), .val (.int p), .val (.int ch), .unset, .unset, .unset, .unset] [] := by
  refine Go.aloadN 1 d8_0 rfl rfl rfl ?_
  refine Go.old fun o_1 _ => ?_
  refine Go.callV (S := []) (a := kw) 4 [] d8_1 rfl rfl (w11 hw) (w12 hw) (w14 hw) (w13 hw) (fun _ q => notFace_of_selects (args := #[]) (mvT q (w14 hw))) (by decide) S.exa (strLen (W := 0) (hln hw) (w2 hw) S hks o_1 SC hz (by decide) (by decide)) (lenOf pd_13 rfl) (Nat.le_of_ble_eq_true rfl) rfl (Nat.le_of_ble_eq_true rfl) (Nat.le_of_ble_eq_true rfl) (fun _ q => q) (fun v h_2 sf_3 hq => ?_)
  obtain ⟨rfl, rfl⟩ := hq
  refine Go.more (sf' := []) ?_ (Nat.le_refl _) (Nat.le_refl _) (fun _ q => List.mem_append_right _ q)
  show G_bld2 md l Z n0 kw p ch z n m lm fm pk nk mk lk ks ws h0 0 0 [] h0 4 #[.val (.ref kw), .val (.int (1 : Int32)), .val (.int p), .val (.int ch), .unset, .unset, .unset, .unset] [(.int (Int32.ofNat (ks).length))]
  rw [show (Int32.ofNat (ks).length) = n from hn]
  show G_bld2 md l Z n0 kw p ch z n m lm fm pk nk mk lk ks ws h0 0 0 [] h0 4 #[.val (.ref kw), .val (.int (1 : Int32)), .val (.int p), .val (.int ch), .unset, .unset, .unset, .unset] [(.int n)]
  refine Go.istore 6 #[.val (.ref kw), .val (.int (1 : Int32)), .val (.int p), .val (.int ch), .val (.int n), .unset, .unset, .unset] d8_4 rfl rfl ?_
  refine Go.iload 8 d8_6 rfl rfl ?_
  refine Go.iloadN 9 d8_8 rfl rfl ?_
  refine Go.iadd 10 d8_9 rfl ?_
  rw [show (n + (1 : Int32)) = m from hnm]
  show G_bld2 md l Z n0 kw p ch z n m lm fm pk nk mk lk ks ws h0 0 0 [] h0 10 #[.val (.ref kw), .val (.int (1 : Int32)), .val (.int p), .val (.int ch), .val (.int n), .unset, .unset, .unset] [(.int m)]
  refine Go.istore 12 #[.val (.ref kw), .val (.int (1 : Int32)), .val (.int p), .val (.int ch), .val (.int n), .val (.int m), .unset, .unset] d8_10 rfl rfl ?_
  refine Go.iload 14 d8_12 rfl rfl ?_
  refine Go.iload 16 d8_14 rfl rfl ?_
  refine Go.callS (S := []) 19 [(.int n), (.int m)] d8_16 rfl rfl (w52 hw) (w53 hw) (w54 hw) (w55 hw) (by decide) (call_of_go (R := _) (len := 3) (W := 0) pf_0 (fun mid => ef_min mid n m ) (c_min hw n m ) (w55 hw) (w54 hw) (by decide) (by decide)) (lenOf pd_14 rfl) (Nat.le_of_ble_eq_true rfl) rfl (Nat.le_of_ble_eq_true rfl) (Nat.le_of_ble_eq_true rfl) (fun _ q => nomatch q) (fun v h_4 sf_5 hq => ?_)
  obtain ⟨rfl, rfl⟩ := hq
  refine Go.more (sf' := []) ?_ (Nat.le_refl _) (Nat.le_refl _) (fun _ q => List.mem_append_right _ q)
  show G_bld2 md l Z n0 kw p ch z n m lm fm pk nk mk lk ks ws h0 0 0 [] h0 19 #[.val (.ref kw), .val (.int (1 : Int32)), .val (.int p), .val (.int ch), .val (.int n), .val (.int m), .unset, .unset] [(.int (if m < n then m else n))]
  rw [show (if m < n then m else n) = lm from hlm]
  show G_bld2 md l Z n0 kw p ch z n m lm fm pk nk mk lk ks ws h0 0 0 [] h0 19 #[.val (.ref kw), .val (.int (1 : Int32)), .val (.int p), .val (.int ch), .val (.int n), .val (.int m), .unset, .unset] [(.int lm)]
  refine Go.istore 21 #[.val (.ref kw), .val (.int (1 : Int32)), .val (.int p), .val (.int ch), .val (.int n), .val (.int m), .val (.int lm), .unset] d8_19 rfl rfl ?_
  refine Go.iload 23 d8_21 rfl rfl ?_
  refine Go.newA mk 25 d8_23 rfl rfl (w56 hw) hm 13 hmk (by decide) (Nat.le_of_ble_eq_true rfl) (Nat.le_of_ble_eq_true rfl) (fun h1_ a g_a q_a X_a lt_a A_ => ?_)
  have A0_ : Ary Z h1_ a .char ((cpn lk ks (List.replicate mk (0 : Int32)) 0).map Value.int) := by unfold cpn; rw [List.map_replicate]; exact A_
  show G_bld2 md l Z n0 kw p ch z n m lm fm pk nk mk lk ks ws h0 1 13 [a] h1_ 25 #[.val (.ref kw), .val (.int (1 : Int32)), .val (.int p), .val (.int ch), .val (.int n), .val (.int m), .val (.int lm), .unset] [(.ref a)]
  refine Go.astore 27 #[.val (.ref kw), .val (.int (1 : Int32)), .val (.int p), .val (.int ch), .val (.int n), .val (.int m), .val (.int lm), .val (.ref a)] d8_25 rfl rfl rfl ?_
  refine Go.aload 29 d8_27 rfl rfl rfl ?_
  refine Go.aloadN 30 d8_29 rfl rfl rfl ?_
  refine Go.iconst 31 (0 : Int32) d8_30 rfl rfl ?_
  refine Go.iload 33 d8_31 rfl rfl ?_
  have f_9 := S.ext X_a
  refine Go.callS (S := []) 36 [(.ref a), (.ref kw), (.int (0 : Int32)), (.int lm)] d8_33 rfl rfl (w57 hw) (w58 hw) (w50 hw) (w59 hw) (by decide) (call_of_go (R := _) (len := 3) (W := 0) (plainFor_of_name pn_3) (fun mid => ef_cpy mid a kw (0 : Int32) lm z fm 0 lk (cpn lk ks (List.replicate mk (0 : Int32)) 0) ks ) (c_cpy hw a kw (0 : Int32) lm z fm 0 lk (cpn lk ks (List.replicate mk (0 : Int32)) 0) ks A0_ q_a f_9 rfl hl (by rw [cpn_len, List.length_replicate]; exact h1) h2 hks SC hz SF rF) (w59 hw) (w50 hw) (by decide) (by decide)) (lenOf pd_15 rfl) (Nat.le_of_ble_eq_true rfl) rfl (Nat.le_of_ble_eq_true rfl) (Nat.le_of_ble_eq_true rfl) (fun _ q => q) (fun v h_10 sf_11 hq => ?_)
  obtain ⟨rfl, K_6, A_7⟩ := hq
  have A_8 : Ary Z h_10 a .char ((cpn lk ks (List.replicate mk (0 : Int32)) 1).map Value.int) := A_7
  refine Go.more (sf' := [a]) ?_ (Nat.le_refl _) (Nat.le_refl _) (fun _ q => List.mem_append_right _ q)
  show G_bld2 md l Z n0 kw p ch z n m lm fm pk nk mk lk ks ws h0 1 13 [a] h_10 36 #[.val (.ref kw), .val (.int (1 : Int32)), .val (.int p), .val (.int ch), .val (.int n), .val (.int m), .val (.int lm), .val (.ref a)] []
  refine Go.aload 38 d8_36 rfl rfl rfl ?_
  refine Go.aloadN 39 d8_38 rfl rfl rfl ?_
  refine Go.iconst 40 (1 : Int32) d8_39 rfl rfl ?_
  refine Go.iload 42 d8_40 rfl rfl ?_
  have X_15 : Ext h0 h_10 := extK X_a K_6 (allS (Nat.le_of_eq g_a) all0)
  have f_16 := S.ext X_15
  refine Go.callS (S := []) 45 [(.ref a), (.ref kw), (.int (1 : Int32)), (.int lm)] d8_42 rfl rfl (w57 hw) (w58 hw) (w50 hw) (w59 hw) (by decide) (call_of_go (R := _) (len := 3) (W := 0) (plainFor_of_name pn_3) (fun mid => ef_cpy mid a kw (1 : Int32) lm z fm 1 lk (cpn lk ks (List.replicate mk (0 : Int32)) 1) ks ) (c_cpy hw a kw (1 : Int32) lm z fm 1 lk (cpn lk ks (List.replicate mk (0 : Int32)) 1) ks A_8 q_a f_16 rfl hl (by rw [cpn_len, List.length_replicate]; exact h1) h2 hks SC hz SF rF) (w59 hw) (w50 hw) (by decide) (by decide)) (lenOf pd_15 rfl) (Nat.le_of_ble_eq_true rfl) rfl (Nat.le_of_ble_eq_true rfl) (Nat.le_of_ble_eq_true rfl) (fun _ q => q) (fun v h_17 sf_18 hq => ?_)
  obtain ⟨rfl, K_12, A_13⟩ := hq
  have A_14 : Ary Z h_17 a .char ((cpn lk ks (List.replicate mk (0 : Int32)) 2).map Value.int) := A_13
  refine Go.more (sf' := [a]) ?_ (Nat.le_refl _) (Nat.le_refl _) (fun _ q => List.mem_append_right _ q)
  show G_bld2 md l Z n0 kw p ch z n m lm fm pk nk mk lk ks ws h0 1 13 [a] h_17 45 #[.val (.ref kw), .val (.int (1 : Int32)), .val (.int p), .val (.int ch), .val (.int n), .val (.int m), .val (.int lm), .val (.ref a)] []
  refine Go.aload 47 d8_45 rfl rfl rfl ?_
  refine Go.aloadN 48 d8_47 rfl rfl rfl ?_
  refine Go.iconst 49 (2 : Int32) d8_48 rfl rfl ?_
  refine Go.iload 51 d8_49 rfl rfl ?_
  have X_22 : Ext h0 h_17 := extK X_15 K_12 (allS (Nat.le_of_eq g_a) all0)
  have f_23 := S.ext X_22
  refine Go.callS (S := []) 54 [(.ref a), (.ref kw), (.int (2 : Int32)), (.int lm)] d8_51 rfl rfl (w57 hw) (w58 hw) (w50 hw) (w59 hw) (by decide) (call_of_go (R := _) (len := 3) (W := 0) (plainFor_of_name pn_3) (fun mid => ef_cpy mid a kw (2 : Int32) lm z fm 2 lk (cpn lk ks (List.replicate mk (0 : Int32)) 2) ks ) (c_cpy hw a kw (2 : Int32) lm z fm 2 lk (cpn lk ks (List.replicate mk (0 : Int32)) 2) ks A_14 q_a f_23 rfl hl (by rw [cpn_len, List.length_replicate]; exact h1) h2 hks SC hz SF rF) (w59 hw) (w50 hw) (by decide) (by decide)) (lenOf pd_15 rfl) (Nat.le_of_ble_eq_true rfl) rfl (Nat.le_of_ble_eq_true rfl) (Nat.le_of_ble_eq_true rfl) (fun _ q => q) (fun v h_24 sf_25 hq => ?_)
  obtain ⟨rfl, K_19, A_20⟩ := hq
  have A_21 : Ary Z h_24 a .char ((cpn lk ks (List.replicate mk (0 : Int32)) 3).map Value.int) := A_20
  refine Go.more (sf' := [a]) ?_ (Nat.le_refl _) (Nat.le_refl _) (fun _ q => List.mem_append_right _ q)
  show G_bld2 md l Z n0 kw p ch z n m lm fm pk nk mk lk ks ws h0 1 13 [a] h_24 54 #[.val (.ref kw), .val (.int (1 : Int32)), .val (.int p), .val (.int ch), .val (.int n), .val (.int m), .val (.int lm), .val (.ref a)] []
  refine Go.aload 56 d8_54 rfl rfl rfl ?_
  refine Go.aloadN 57 d8_56 rfl rfl rfl ?_
  refine Go.iconst 58 (3 : Int32) d8_57 rfl rfl ?_
  refine Go.iload 60 d8_58 rfl rfl ?_
  have X_29 : Ext h0 h_24 := extK X_22 K_19 (allS (Nat.le_of_eq g_a) all0)
  have f_30 := S.ext X_29
  refine Go.callS (S := []) 63 [(.ref a), (.ref kw), (.int (3 : Int32)), (.int lm)] d8_60 rfl rfl (w57 hw) (w58 hw) (w50 hw) (w59 hw) (by decide) (call_of_go (R := _) (len := 3) (W := 0) (plainFor_of_name pn_3) (fun mid => ef_cpy mid a kw (3 : Int32) lm z fm 3 lk (cpn lk ks (List.replicate mk (0 : Int32)) 3) ks ) (c_cpy hw a kw (3 : Int32) lm z fm 3 lk (cpn lk ks (List.replicate mk (0 : Int32)) 3) ks A_21 q_a f_30 rfl hl (by rw [cpn_len, List.length_replicate]; exact h1) h2 hks SC hz SF rF) (w59 hw) (w50 hw) (by decide) (by decide)) (lenOf pd_15 rfl) (Nat.le_of_ble_eq_true rfl) rfl (Nat.le_of_ble_eq_true rfl) (Nat.le_of_ble_eq_true rfl) (fun _ q => q) (fun v h_31 sf_32 hq => ?_)
  obtain ⟨rfl, K_26, A_27⟩ := hq
  have A_28 : Ary Z h_31 a .char ((cpn lk ks (List.replicate mk (0 : Int32)) 4).map Value.int) := A_27
  refine Go.more (sf' := [a]) ?_ (Nat.le_refl _) (Nat.le_refl _) (fun _ q => List.mem_append_right _ q)
  show G_bld2 md l Z n0 kw p ch z n m lm fm pk nk mk lk ks ws h0 1 13 [a] h_31 63 #[.val (.ref kw), .val (.int (1 : Int32)), .val (.int p), .val (.int ch), .val (.int n), .val (.int m), .val (.int lm), .val (.ref a)] []
  refine Go.aload 65 d8_63 rfl rfl rfl ?_
  refine Go.aloadN 66 d8_65 rfl rfl rfl ?_
  refine Go.iconst 67 (4 : Int32) d8_66 rfl rfl ?_
  refine Go.iload 69 d8_67 rfl rfl ?_
  have X_36 : Ext h0 h_31 := extK X_29 K_26 (allS (Nat.le_of_eq g_a) all0)
  have f_37 := S.ext X_36
  refine Go.callS (S := []) 72 [(.ref a), (.ref kw), (.int (4 : Int32)), (.int lm)] d8_69 rfl rfl (w57 hw) (w58 hw) (w50 hw) (w59 hw) (by decide) (call_of_go (R := _) (len := 3) (W := 0) (plainFor_of_name pn_3) (fun mid => ef_cpy mid a kw (4 : Int32) lm z fm 4 lk (cpn lk ks (List.replicate mk (0 : Int32)) 4) ks ) (c_cpy hw a kw (4 : Int32) lm z fm 4 lk (cpn lk ks (List.replicate mk (0 : Int32)) 4) ks A_28 q_a f_37 rfl hl (by rw [cpn_len, List.length_replicate]; exact h1) h2 hks SC hz SF rF) (w59 hw) (w50 hw) (by decide) (by decide)) (lenOf pd_15 rfl) (Nat.le_of_ble_eq_true rfl) rfl (Nat.le_of_ble_eq_true rfl) (Nat.le_of_ble_eq_true rfl) (fun _ q => q) (fun v h_38 sf_39 hq => ?_)
  obtain ⟨rfl, K_33, A_34⟩ := hq
  have A_35 : Ary Z h_38 a .char ((cpn lk ks (List.replicate mk (0 : Int32)) 5).map Value.int) := A_34
  refine Go.more (sf' := [a]) ?_ (Nat.le_refl _) (Nat.le_refl _) (fun _ q => List.mem_append_right _ q)
  show G_bld2 md l Z n0 kw p ch z n m lm fm pk nk mk lk ks ws h0 1 13 [a] h_38 72 #[.val (.ref kw), .val (.int (1 : Int32)), .val (.int p), .val (.int ch), .val (.int n), .val (.int m), .val (.int lm), .val (.ref a)] []
  refine Go.aload 74 d8_72 rfl rfl rfl ?_
  refine Go.aloadN 75 d8_74 rfl rfl rfl ?_
  refine Go.iconst 76 (5 : Int32) d8_75 rfl rfl ?_
  refine Go.iload 78 d8_76 rfl rfl ?_
  have X_43 : Ext h0 h_38 := extK X_36 K_33 (allS (Nat.le_of_eq g_a) all0)
  have f_44 := S.ext X_43
  refine Go.callS (S := []) 81 [(.ref a), (.ref kw), (.int (5 : Int32)), (.int lm)] d8_78 rfl rfl (w57 hw) (w58 hw) (w50 hw) (w59 hw) (by decide) (call_of_go (R := _) (len := 3) (W := 0) (plainFor_of_name pn_3) (fun mid => ef_cpy mid a kw (5 : Int32) lm z fm 5 lk (cpn lk ks (List.replicate mk (0 : Int32)) 5) ks ) (c_cpy hw a kw (5 : Int32) lm z fm 5 lk (cpn lk ks (List.replicate mk (0 : Int32)) 5) ks A_35 q_a f_44 rfl hl (by rw [cpn_len, List.length_replicate]; exact h1) h2 hks SC hz SF rF) (w59 hw) (w50 hw) (by decide) (by decide)) (lenOf pd_15 rfl) (Nat.le_of_ble_eq_true rfl) rfl (Nat.le_of_ble_eq_true rfl) (Nat.le_of_ble_eq_true rfl) (fun _ q => q) (fun v h_45 sf_46 hq => ?_)
  obtain ⟨rfl, K_40, A_41⟩ := hq
  have A_42 : Ary Z h_45 a .char ((cpn lk ks (List.replicate mk (0 : Int32)) 6).map Value.int) := A_41
  refine Go.more (sf' := [a]) ?_ (Nat.le_refl _) (Nat.le_refl _) (fun _ q => List.mem_append_right _ q)
  show G_bld2 md l Z n0 kw p ch z n m lm fm pk nk mk lk ks ws h0 1 13 [a] h_45 81 #[.val (.ref kw), .val (.int (1 : Int32)), .val (.int p), .val (.int ch), .val (.int n), .val (.int m), .val (.int lm), .val (.ref a)] []
  refine Go.aload 83 d8_81 rfl rfl rfl ?_
  refine Go.aloadN 84 d8_83 rfl rfl rfl ?_
  refine Go.bipush 86 (6 : Int32) d8_84 rfl rfl ?_
  refine Go.iload 88 d8_86 rfl rfl ?_
  have X_50 : Ext h0 h_45 := extK X_43 K_40 (allS (Nat.le_of_eq g_a) all0)
  have f_51 := S.ext X_50
  refine Go.callS (S := []) 91 [(.ref a), (.ref kw), (.int (6 : Int32)), (.int lm)] d8_88 rfl rfl (w57 hw) (w58 hw) (w50 hw) (w59 hw) (by decide) (call_of_go (R := _) (len := 3) (W := 0) (plainFor_of_name pn_3) (fun mid => ef_cpy mid a kw (6 : Int32) lm z fm 6 lk (cpn lk ks (List.replicate mk (0 : Int32)) 6) ks ) (c_cpy hw a kw (6 : Int32) lm z fm 6 lk (cpn lk ks (List.replicate mk (0 : Int32)) 6) ks A_42 q_a f_51 rfl hl (by rw [cpn_len, List.length_replicate]; exact h1) h2 hks SC hz SF rF) (w59 hw) (w50 hw) (by decide) (by decide)) (lenOf pd_15 rfl) (Nat.le_of_ble_eq_true rfl) rfl (Nat.le_of_ble_eq_true rfl) (Nat.le_of_ble_eq_true rfl) (fun _ q => q) (fun v h_52 sf_53 hq => ?_)
  obtain ⟨rfl, K_47, A_48⟩ := hq
  have A_49 : Ary Z h_52 a .char ((cpn lk ks (List.replicate mk (0 : Int32)) 7).map Value.int) := A_48
  refine Go.more (sf' := [a]) ?_ (Nat.le_refl _) (Nat.le_refl _) (fun _ q => List.mem_append_right _ q)
  show G_bld2 md l Z n0 kw p ch z n m lm fm pk nk mk lk ks ws h0 1 13 [a] h_52 91 #[.val (.ref kw), .val (.int (1 : Int32)), .val (.int p), .val (.int ch), .val (.int n), .val (.int m), .val (.int lm), .val (.ref a)] []
  refine Go.aload 93 d8_91 rfl rfl rfl ?_
  refine Go.aloadN 94 d8_93 rfl rfl rfl ?_
  refine Go.bipush 96 (7 : Int32) d8_94 rfl rfl ?_
  refine Go.iload 98 d8_96 rfl rfl ?_
  have X_57 : Ext h0 h_52 := extK X_50 K_47 (allS (Nat.le_of_eq g_a) all0)
  have f_58 := S.ext X_57
  refine Go.callS (S := []) 101 [(.ref a), (.ref kw), (.int (7 : Int32)), (.int lm)] d8_98 rfl rfl (w57 hw) (w58 hw) (w50 hw) (w59 hw) (by decide) (call_of_go (R := _) (len := 3) (W := 0) (plainFor_of_name pn_3) (fun mid => ef_cpy mid a kw (7 : Int32) lm z fm 7 lk (cpn lk ks (List.replicate mk (0 : Int32)) 7) ks ) (c_cpy hw a kw (7 : Int32) lm z fm 7 lk (cpn lk ks (List.replicate mk (0 : Int32)) 7) ks A_49 q_a f_58 rfl hl (by rw [cpn_len, List.length_replicate]; exact h1) h2 hks SC hz SF rF) (w59 hw) (w50 hw) (by decide) (by decide)) (lenOf pd_15 rfl) (Nat.le_of_ble_eq_true rfl) rfl (Nat.le_of_ble_eq_true rfl) (Nat.le_of_ble_eq_true rfl) (fun _ q => q) (fun v h_59 sf_60 hq => ?_)
  obtain ⟨rfl, K_54, A_55⟩ := hq
  have A_56 : Ary Z h_59 a .char ((cpn lk ks (List.replicate mk (0 : Int32)) 8).map Value.int) := A_55
  refine Go.more (sf' := [a]) ?_ (Nat.le_refl _) (Nat.le_refl _) (fun _ q => List.mem_append_right _ q)
  show G_bld2 md l Z n0 kw p ch z n m lm fm pk nk mk lk ks ws h0 1 13 [a] h_59 101 #[.val (.ref kw), .val (.int (1 : Int32)), .val (.int p), .val (.int ch), .val (.int n), .val (.int m), .val (.int lm), .val (.ref a)] []
  refine Go.aload 103 d8_101 rfl rfl rfl ?_
  refine Go.aloadN 104 d8_103 rfl rfl rfl ?_
  refine Go.bipush 106 (8 : Int32) d8_104 rfl rfl ?_
  refine Go.iload 108 d8_106 rfl rfl ?_
  have X_64 : Ext h0 h_59 := extK X_57 K_54 (allS (Nat.le_of_eq g_a) all0)
  have f_65 := S.ext X_64
  refine Go.callS (S := []) 111 [(.ref a), (.ref kw), (.int (8 : Int32)), (.int lm)] d8_108 rfl rfl (w57 hw) (w58 hw) (w50 hw) (w59 hw) (by decide) (call_of_go (R := _) (len := 3) (W := 0) (plainFor_of_name pn_3) (fun mid => ef_cpy mid a kw (8 : Int32) lm z fm 8 lk (cpn lk ks (List.replicate mk (0 : Int32)) 8) ks ) (c_cpy hw a kw (8 : Int32) lm z fm 8 lk (cpn lk ks (List.replicate mk (0 : Int32)) 8) ks A_56 q_a f_65 rfl hl (by rw [cpn_len, List.length_replicate]; exact h1) h2 hks SC hz SF rF) (w59 hw) (w50 hw) (by decide) (by decide)) (lenOf pd_15 rfl) (Nat.le_of_ble_eq_true rfl) rfl (Nat.le_of_ble_eq_true rfl) (Nat.le_of_ble_eq_true rfl) (fun _ q => q) (fun v h_66 sf_67 hq => ?_)
  obtain ⟨rfl, K_61, A_62⟩ := hq
  have A_63 : Ary Z h_66 a .char ((cpn lk ks (List.replicate mk (0 : Int32)) 9).map Value.int) := A_62
  refine Go.more (sf' := [a]) ?_ (Nat.le_refl _) (Nat.le_refl _) (fun _ q => List.mem_append_right _ q)
  show G_bld2 md l Z n0 kw p ch z n m lm fm pk nk mk lk ks ws h0 1 13 [a] h_66 111 #[.val (.ref kw), .val (.int (1 : Int32)), .val (.int p), .val (.int ch), .val (.int n), .val (.int m), .val (.int lm), .val (.ref a)] []
  refine Go.aload 113 d8_111 rfl rfl rfl ?_
  refine Go.aloadN 114 d8_113 rfl rfl rfl ?_
  refine Go.bipush 116 (9 : Int32) d8_114 rfl rfl ?_
  refine Go.iload 118 d8_116 rfl rfl ?_
  have X_71 : Ext h0 h_66 := extK X_64 K_61 (allS (Nat.le_of_eq g_a) all0)
  have f_72 := S.ext X_71
  refine Go.callS (S := []) 121 [(.ref a), (.ref kw), (.int (9 : Int32)), (.int lm)] d8_118 rfl rfl (w57 hw) (w58 hw) (w50 hw) (w59 hw) (by decide) (call_of_go (R := _) (len := 3) (W := 0) (plainFor_of_name pn_3) (fun mid => ef_cpy mid a kw (9 : Int32) lm z fm 9 lk (cpn lk ks (List.replicate mk (0 : Int32)) 9) ks ) (c_cpy hw a kw (9 : Int32) lm z fm 9 lk (cpn lk ks (List.replicate mk (0 : Int32)) 9) ks A_63 q_a f_72 rfl hl (by rw [cpn_len, List.length_replicate]; exact h1) h2 hks SC hz SF rF) (w59 hw) (w50 hw) (by decide) (by decide)) (lenOf pd_15 rfl) (Nat.le_of_ble_eq_true rfl) rfl (Nat.le_of_ble_eq_true rfl) (Nat.le_of_ble_eq_true rfl) (fun _ q => q) (fun v h_73 sf_74 hq => ?_)
  obtain ⟨rfl, K_68, A_69⟩ := hq
  have A_70 : Ary Z h_73 a .char ((cpn lk ks (List.replicate mk (0 : Int32)) 10).map Value.int) := A_69
  refine Go.more (sf' := [a]) ?_ (Nat.le_refl _) (Nat.le_refl _) (fun _ q => List.mem_append_right _ q)
  show G_bld2 md l Z n0 kw p ch z n m lm fm pk nk mk lk ks ws h0 1 13 [a] h_73 121 #[.val (.ref kw), .val (.int (1 : Int32)), .val (.int p), .val (.int ch), .val (.int n), .val (.int m), .val (.int lm), .val (.ref a)] []
  refine Go.aload 123 d8_121 rfl rfl rfl ?_
  refine Go.aloadN 124 d8_123 rfl rfl rfl ?_
  refine Go.bipush 126 (10 : Int32) d8_124 rfl rfl ?_
  refine Go.iload 128 d8_126 rfl rfl ?_
  have X_78 : Ext h0 h_73 := extK X_71 K_68 (allS (Nat.le_of_eq g_a) all0)
  have f_79 := S.ext X_78
  refine Go.callS (S := []) 131 [(.ref a), (.ref kw), (.int (10 : Int32)), (.int lm)] d8_128 rfl rfl (w57 hw) (w58 hw) (w50 hw) (w59 hw) (by decide) (call_of_go (R := _) (len := 3) (W := 0) (plainFor_of_name pn_3) (fun mid => ef_cpy mid a kw (10 : Int32) lm z fm 10 lk (cpn lk ks (List.replicate mk (0 : Int32)) 10) ks ) (c_cpy hw a kw (10 : Int32) lm z fm 10 lk (cpn lk ks (List.replicate mk (0 : Int32)) 10) ks A_70 q_a f_79 rfl hl (by rw [cpn_len, List.length_replicate]; exact h1) h2 hks SC hz SF rF) (w59 hw) (w50 hw) (by decide) (by decide)) (lenOf pd_15 rfl) (Nat.le_of_ble_eq_true rfl) rfl (Nat.le_of_ble_eq_true rfl) (Nat.le_of_ble_eq_true rfl) (fun _ q => q) (fun v h_80 sf_81 hq => ?_)
  obtain ⟨rfl, K_75, A_76⟩ := hq
  have A_77 : Ary Z h_80 a .char ((cpn lk ks (List.replicate mk (0 : Int32)) 11).map Value.int) := A_76
  refine Go.more (sf' := [a]) ?_ (Nat.le_refl _) (Nat.le_refl _) (fun _ q => List.mem_append_right _ q)
  show G_bld2 md l Z n0 kw p ch z n m lm fm pk nk mk lk ks ws h0 1 13 [a] h_80 131 #[.val (.ref kw), .val (.int (1 : Int32)), .val (.int p), .val (.int ch), .val (.int n), .val (.int m), .val (.int lm), .val (.ref a)] []
  refine Go.aload 133 d8_131 rfl rfl rfl ?_
  refine Go.aloadN 134 d8_133 rfl rfl rfl ?_
  refine Go.bipush 136 (11 : Int32) d8_134 rfl rfl ?_
  refine Go.iload 138 d8_136 rfl rfl ?_
  have X_85 : Ext h0 h_80 := extK X_78 K_75 (allS (Nat.le_of_eq g_a) all0)
  have f_86 := S.ext X_85
  refine Go.callS (S := []) 141 [(.ref a), (.ref kw), (.int (11 : Int32)), (.int lm)] d8_138 rfl rfl (w57 hw) (w58 hw) (w50 hw) (w59 hw) (by decide) (call_of_go (R := _) (len := 3) (W := 0) (plainFor_of_name pn_3) (fun mid => ef_cpy mid a kw (11 : Int32) lm z fm 11 lk (cpn lk ks (List.replicate mk (0 : Int32)) 11) ks ) (c_cpy hw a kw (11 : Int32) lm z fm 11 lk (cpn lk ks (List.replicate mk (0 : Int32)) 11) ks A_77 q_a f_86 rfl hl (by rw [cpn_len, List.length_replicate]; exact h1) h2 hks SC hz SF rF) (w59 hw) (w50 hw) (by decide) (by decide)) (lenOf pd_15 rfl) (Nat.le_of_ble_eq_true rfl) rfl (Nat.le_of_ble_eq_true rfl) (Nat.le_of_ble_eq_true rfl) (fun _ q => q) (fun v h_87 sf_88 hq => ?_)
  obtain ⟨rfl, K_82, A_83⟩ := hq
  have A_84 : Ary Z h_87 a .char (ws.map Value.int) := by rw [← hr]; exact A_83
  refine Go.more (sf' := [a]) ?_ (Nat.le_refl _) (Nat.le_refl _) (fun _ q => List.mem_append_right _ q)
  show G_bld2 md l Z n0 kw p ch z n m lm fm pk nk mk lk ks ws h0 1 13 [a] h_87 141 #[.val (.ref kw), .val (.int (1 : Int32)), .val (.int p), .val (.int ch), .val (.int n), .val (.int m), .val (.int lm), .val (.ref a)] []
  refine Go.iloadN 142 d8_141 rfl rfl ?_
  refine Go.ifY 150 d8_142 (by decide) (by decide) (feq (by decide)).2 ?_
  refine Go.iloadN 151 d8_150 rfl rfl ?_
  refine Go.iconst 152 (1 : Int32) d8_151 rfl rfl ?_
  refine Go.icmpN 155 d8_152 rfl (teq (by decide)).2 ?_
  refine Go.aload 157 d8_155 rfl rfl rfl ?_
  refine Go.iload 159 d8_157 rfl rfl ?_
  refine Go.iloadN 160 d8_159 rfl rfl ?_
  refine Go.castore nk 161 d8_160 rfl A_84 hp (by rw [List.length_map, hwl]; exact hpk) (List.mem_of_getElem? (i := 0) rfl) q_a (fun h9 W9 A9 => ?_)
  have A8 : Ary Z h9 a .char ((ws.set nk ch).map Value.int) := by rw [List.map_set]; have q_ := A9; rw [nar_cc b_ch] at q_; exact q_
  refine Go.new 164 d8_161 rfl (w60 hw) (w2 hw) (w1 hw) (Nat.le_of_ble_eq_true rfl) (Nat.le_of_ble_eq_true rfl) (fun h_89 x_90 g_91 q_92 E_93 lt_94 A_95 D_96 => ?_)
  show G_bld2 md l Z n0 kw p ch z n m lm fm pk nk mk lk ks ws h0 2 17 [x_90, a] h_89 164 #[.val (.ref kw), .val (.int (1 : Int32)), .val (.int p), .val (.int ch), .val (.int n), .val (.int m), .val (.int lm), .val (.ref a)] [(.ref x_90)]
  refine Go.dup 165 d8_164 rfl rfl ?_
  refine Go.aload 167 d8_165 rfl rfl rfl ?_
  have f_97 := A8.ext E_93
  refine Go.callC (S := [(.ref x_90)]) (a := x_90) 170 [(.ref a)] d8_167 rfl rfl rfl (w61 hw) (w62 hw) (w63 hw) (by decide) (call_of_go (R := _) (len := 3) (W := 1) (plainFor_of_name pn_1) (fun mid => ef_gnew1 mid x_90 a z (ws.set nk ch) ) (c_gnew1 hw x_90 a z (ws.set nk ch) A_95 q_92 (D_96 (Or.inr (w4 hw)) (ty := (.array .byte)) (by decide)) (D_96 (Or.inr (w5 hw)) (ty := .byte) (by decide)) f_97 (chp_set hch b_ch) (by rw [(List.length_set.trans hwl)]; exact hpos) (by rw [(List.length_set.trans hwl)]; exact hmk) SC hz UA UH UL) (w63 hw) (w1 hw) (by decide) (by decide)) (lenOf pd_16 rfl) (Nat.le_of_ble_eq_true rfl) rfl (Nat.le_of_ble_eq_true rfl) (Nat.le_of_ble_eq_true rfl) (sub1 (List.mem_of_getElem? (i := 0) rfl)) (fun v h_100 sf_101 hq => ?_)
  obtain ⟨rfl, K_98, S_99⟩ := hq
  refine Go.more (sf' := [x_90, a]) ?_ (Nat.le_refl _) (Nat.le_refl _) (fun _ q => List.mem_append_right _ q)
  show G_bld2 md l Z n0 kw p ch z n m lm fm pk nk mk lk ks ws h0 4 56 [x_90, a] h_100 170 #[.val (.ref kw), .val (.int (1 : Int32)), .val (.int p), .val (.int ch), .val (.int n), .val (.int m), .val (.int lm), .val (.ref a)] [(.ref x_90)]
  have X_102 : Ext h0 h_87 := extK X_85 K_82 (allS (Nat.le_of_eq g_a) all0)
  have X_103 : Ext h0 h9 := extW X_102 W9 (Nat.le_of_eq g_a)
  have X_104 : Ext h0 h_89 := extT X_103 E_93
  have X_105 : Ext h0 h_100 := extK X_104 K_98 (allS (Nat.le_trans X_103.1 (Nat.le_of_eq g_91)) all0)
  exact Go.retA d8_170 rfl rfl rfl (sf' := []) (⟨_, rfl, X_105, (Nat.le_trans X_103.1 (Nat.le_of_eq g_91)), S_99⟩) (fun _ q => nomatch q) (Nat.le_of_ble_eq_true rfl) (Nat.le_of_ble_eq_true rfl)
abbrev G_eqw (md : Md) (l : Launch) (Z : State) (n0 : Nat) (x y : Addr) (z : Int32) (h0 : Heap) := Go md l Z n0 ({ frames := 0, cells := 0, slots := 0, locals := 0 } : Room) jdk_42_method_66_code 3 (some .boolean) "java/lang/String" "equals" (fun v h' _ => h0 = h' ∧ v = some (.int 0))
theorem ef_eqw (mid : MethodId) (x y : Addr) (z : Int32)  : entryFrame mid #[(.ref x), (.ref y)] 3 = mkF mid 0 #[.val (.ref x), .val (.ref y), .unset] [] := by first | (simp [entryFrame, mkF, argsToLocals, Value.category]; done) | rfl
set_option maxRecDepth 65536 in
set_option maxHeartbeats 40000000 in
theorem c_eqw {md : Md} {l : Launch} {Z : State} {n0 : Nat} {a0 : Array Value} (hw : HW a0 Z) (x y : Addr) (z : Int32) {h0 : Heap} (Ex : Exa Z h0 x "java/lang/String") (Ey : Exa Z h0 y "java/lang/String") (Cx : Fld Z h0 x "java/lang/String" "coder" "B" (.int 0)) (Cy : Fld Z h0 y "java/lang/String" "coder" "B" (.int 1)) (SC : Sta Z Z.heap "java/lang/String" "COMPACT_STRINGS" "Z" (.int z)) (hz : ¬ z = 0)  : G_eqw md l Z n0 x y z h0 0 0 [] h0 0 #[.val (.ref x), .val (.ref y), .unset] [] := by
  refine Go.aloadN 1 d19_0 rfl rfl rfl ?_
  refine Go.aloadN 2 d19_1 rfl rfl rfl ?_
  refine Go.acmpY 7 d19_2 (by decide) (by decide) rfl rfl (by rw [decide_eq_false (fun q => Fld.ne Cx Cy (by decide) (Value.ref.inj q))]; rfl) ?_
  refine Go.aloadN 8 d19_7 rfl rfl rfl ?_
  refine Go.instY 11 d19_8 rfl (w109 hw) (Ins.self Ey) ?_
  refine Go.ifN 14 d19_11 rfl (feq (by decide)).1 ?_
  refine Go.aloadN 15 d19_14 rfl rfl rfl ?_
  refine Go.castY 18 d19_15 rfl (w109 hw) (Ins.self Ey) ?_
  refine Go.astoreN 19 #[.val (.ref x), .val (.ref y), .val (.ref y)] d19_18 rfl rfl rfl ?_
  refine Go.getS 22 d19_19 rfl (w22 hw) Via.refl SC ?_
  refine Go.ifN 25 d19_22 rfl (feq hz).1 ?_
  refine Go.aloadN 26 d19_25 rfl rfl rfl ?_
  refine Go.getF 29 d19_26 rfl (w23 hw) Via.refl Cx ?_
  refine Go.aloadN 30 d19_29 rfl rfl rfl ?_
  refine Go.getF 33 d19_30 rfl (w23 hw) Via.refl Cy ?_
  refine Go.icmpY 54 d19_33 (by decide) (by decide) (feq (by decide)).2 ?_
  refine Go.iconst 55 (0 : Int32) d19_54 rfl rfl ?_
  exact Go.retN (0 : Int32) d19_55 rfl (t := .boolean) (by simp) rfl (sf' := []) (⟨rfl, rfl⟩) (fun _ q => nomatch q) (Nat.le_of_ble_eq_true rfl) (Nat.le_of_ble_eq_true rfl)
abbrev G_vals (md : Md) (l : Launch) (Z : State) (n0 : Nat) (va a0 a1 a2 a3 : Addr) (h0 : Heap) := Go md l Z n0 ({ frames := 1, cells := 1, slots := 4, locals := 14 } : Room) prog_59_method_1_code 0 (some (.array (.object "com/example/avain/avain/model/Type"))) "com/example/avain/avain/model/Type" "values" (fun v h' _ => ∃ r, v = some (.ref r) ∧ Ext h0 h' ∧ Ary Z h' r (.object "com/example/avain/avain/model/Type") [(.ref a0), (.ref a1), (.ref a2), (.ref a3)])
theorem ef_vals (mid : MethodId) (va a0 a1 a2 a3 : Addr)  : entryFrame mid #[] 0 = mkF mid 0 #[] [] := by first | (simp [entryFrame, mkF, argsToLocals, Value.category]; done) | rfl
set_option maxRecDepth 65536 in
set_option maxHeartbeats 40000000 in
theorem c_vals {md : Md} {l : Launch} {Z : State} {n0 : Nat} {a0 : Array Value} (hw : HW a0 Z) (va a0 a1 a2 a3 : Addr) {h0 : Heap} (ZV : Sta Z Z.heap "com/example/avain/avain/model/Type" "$VALUES" "[Lcom/example/avain/avain/model/Type;" (.ref va)) (AV : Ary Z Z.heap va (.object "com/example/avain/avain/model/Type") [(.ref a0), (.ref a1), (.ref a2), (.ref a3)]) (XV : Exa Z Z.heap va "[Lcom/example/avain/avain/model/Type;")  : G_vals md l Z n0 va a0 a1 a2 a3 h0 0 0 [] h0 0 #[] [] := by
  refine Go.getS 3 d18_0 rfl (w87 hw) Via.refl ZV ?_
  refine Go.old fun o_ _ => ?_
  refine Go.clone (W := 0) (ad := "[Lcom/example/avain/avain/model/Type;") 6 d18_3 rfl (w89 hw) (w90 hw) (w94 hw) (w92 hw) (w93 hw) (w95 hw) (AV.ext o_.2) (XV.ext o_.2) 4 (Nat.le_refl _) rfl (by decide) (Nat.le_of_ble_eq_true rfl) (by decide) (Nat.le_of_ble_eq_true rfl) (Nat.le_of_ble_eq_true rfl) (fun h2 r g_r n0r X_r lt_r A_r E_r => ?_)
  show G_vals md l Z n0 va a0 a1 a2 a3 h0 1 4 [r] h2 6 #[] [(.ref r)]
  refine Go.castY 9 d18_6 rfl (w100 hw) (Ins.self E_r) ?_
  exact Go.retA d18_9 rfl rfl rfl (sf' := []) (⟨_, rfl, X_r, A_r⟩) (fun _ q => nomatch q) (Nat.le_of_ble_eq_true rfl) (Nat.le_of_ble_eq_true rfl)
abbrev G_fromkw (md : Md) (l : Launch) (Z : State) (n0 : Nat) (x va a0 a1 a2 a3 k0 k1 k2 k3 : Addr) (z : Int32) (ws : List Int32) (h0 : Heap) := Go md l Z n0 ({ frames := 2, cells := 1, slots := 4, locals := 28 } : Room) prog_59_method_5_code 5 (some (.object "com/example/avain/avain/model/Type")) "com/example/avain/avain/model/Type" "fromKeyword" (fun v h' _ => ∃ u : Value, v = some u ∧ u.isRef = true ∧ Ext h0 h' ∧ ((u = .ref a0 ∧ ws = kw0) ∨ (u = .ref a1 ∧ ws = kw1) ∨ (u = .ref a2 ∧ ws = kw2) ∨ (u = .ref a3 ∧ ws = kw3) ∨ (u = .null ∧ ¬ ws = kw0 ∧ ¬ ws = kw1 ∧ ¬ ws = kw2 ∧ ¬ ws = kw3)))
theorem ef_fromkw (mid : MethodId) (x va a0 a1 a2 a3 k0 k1 k2 k3 : Addr) (z : Int32) (ws : List Int32)  : entryFrame mid #[(.ref x)] 5 = mkF mid 0 #[.val (.ref x), .unset, .unset, .unset, .unset] [] := by first | (simp [entryFrame, mkF, argsToLocals, Value.category]; done) | rfl
set_option maxRecDepth 65536 in
set_option maxHeartbeats 40000000 in
theorem c_fromkw {md : Md} {l : Launch} {Z : State} {n0 : Nat} {a0 : Array Value} (hw : HW a0 Z) (x va a0 a1 a2 a3 k0 k1 k2 k3 : Addr) (z : Int32) (ws : List Int32) {h0 : Heap} (G : Gst Z h0 x ws) (hws : ws.length ≤ 4000) (FK0 : Fld Z Z.heap a0 "com/example/avain/avain/model/Type" "keyword" "Ljava/lang/String;" (.ref k0)) (SK0 : Str Z Z.heap k0 kw0) (FK1 : Fld Z Z.heap a1 "com/example/avain/avain/model/Type" "keyword" "Ljava/lang/String;" (.ref k1)) (SK1 : Str Z Z.heap k1 kw1) (FK2 : Fld Z Z.heap a2 "com/example/avain/avain/model/Type" "keyword" "Ljava/lang/String;" (.ref k2)) (SK2 : Str Z Z.heap k2 kw2) (FK3 : Fld Z Z.heap a3 "com/example/avain/avain/model/Type" "keyword" "Ljava/lang/String;" (.ref k3)) (SK3 : Str Z Z.heap k3 kw3) (ZV : Sta Z Z.heap "com/example/avain/avain/model/Type" "$VALUES" "[Lcom/example/avain/avain/model/Type;" (.ref va)) (AV : Ary Z Z.heap va (.object "com/example/avain/avain/model/Type") [(.ref a0), (.ref a1), (.ref a2), (.ref a3)]) (XV : Exa Z Z.heap va "[Lcom/example/avain/avain/model/Type;") (SC : Sta Z Z.heap "java/lang/String" "COMPACT_STRINGS" "Z" (.int z)) (hz : ¬ z = 0)  : G_fromkw md l Z n0 x va a0 a1 a2 a3 k0 k1 k2 k3 z ws h0 0 0 [] h0 0 #[.val (.ref x), .unset, .unset, .unset, .unset] [] := by
  refine Go.callS (S := []) 3 [] d17_0 rfl rfl (w84 hw) (w85 hw) (w9 hw) (w86 hw) (by decide) (call_of_go (R := _) (len := 3) (W := 0) (plainFor_of_name pn_4) (fun mid => ef_vals mid va a0 a1 a2 a3 ) (c_vals hw va a0 a1 a2 a3 ZV AV XV) (w86 hw) (w9 hw) (by decide) (by decide)) (lenOf pd_17 rfl) (Nat.le_of_ble_eq_true rfl) rfl (Nat.le_of_ble_eq_true rfl) (Nat.le_of_ble_eq_true rfl) (fun _ q => nomatch q) (fun v h1 sf_1 hq => ?_)
  obtain ⟨r, rfl, Xr, Ar⟩ := hq
  refine Go.more (sf' := []) ?_ (Nat.le_refl _) (Nat.le_refl _) (fun _ q => List.mem_append_right _ q)
  show G_fromkw md l Z n0 x va a0 a1 a2 a3 k0 k1 k2 k3 z ws h0 1 4 [] h1 3 #[.val (.ref x), .unset, .unset, .unset, .unset] [(.ref r)]
  refine Go.old fun o_ _ => ?_
  have fk0 := FK0.ext o_.2
  have sk0 := SK0.ext o_.2
  have fk1 := FK1.ext o_.2
  have sk1 := SK1.ext o_.2
  have fk2 := FK2.ext o_.2
  have sk2 := SK2.ext o_.2
  have fk3 := FK3.ext o_.2
  have sk3 := SK3.ext o_.2
  have G1 := G.ext Xr
  obtain ⟨tx, cd, vs, Ex, Cx, Vx, Ax, ⟨rfl, rfl, hlat⟩ | ⟨rfl, rfl, hbig⟩⟩ := G1
  · skip
    have Sx : Str Z h1 x ws := ⟨tx, Ex, Cx, Vx, Ax, hlat⟩
    refine Go.astoreN 4 #[.val (.ref x), .val (.ref r), .unset, .unset, .unset] d17_3 rfl rfl rfl ?_
    refine Go.aloadN 5 d17_4 rfl rfl rfl ?_
    refine Go.alen 6 (4 : Int32) d17_5 rfl Ar rfl ?_
    refine Go.istoreN 7 #[.val (.ref x), .val (.ref r), .val (.int (4 : Int32)), .unset, .unset] d17_6 rfl rfl ?_
    refine Go.iconst 8 (0 : Int32) d17_7 rfl rfl ?_
    refine Go.istoreN 9 #[.val (.ref x), .val (.ref r), .val (.int (4 : Int32)), .val (.int (0 : Int32)), .unset] d17_8 rfl rfl ?_
    refine Go.iloadN 10 d17_9 rfl rfl ?_
    refine Go.iloadN 11 d17_10 rfl rfl ?_
    refine Go.icmpN 14 d17_11 rfl (tlt (by decide)).2.1 ?_
    refine Go.aloadN 15 d17_14 rfl rfl rfl ?_
    refine Go.iloadN 16 d17_15 rfl rfl ?_
    refine Go.aaload 0 17 d17_16 rfl rfl Ar (by decide) rfl ?_
    refine Go.astore 19 #[.val (.ref x), .val (.ref r), .val (.int (4 : Int32)), .val (.int (0 : Int32)), .val (.ref a0)] d17_17 rfl rfl rfl ?_
    refine Go.aload 21 d17_19 rfl rfl rfl ?_
    refine Go.getF 24 d17_21 rfl (w102 hw) Via.refl fk0 ?_
    refine Go.aloadN 25 d17_24 rfl rfl rfl ?_
    refine Go.old fun o_4 _ => ?_
    refine Go.callV (S := []) (a := k0) 28 [(.ref x)] d17_25 rfl rfl (w104 hw) (w105 hw) (w107 hw) (w106 hw) (fun _ q => notFace_of_selects (args := #[]) (mvT q (w107 hw))) (by decide) sk0.exa (strEq (W := 0) (heq hw) (w2 hw) sk0 Sx (by decide) hws o_4 SC hz (by decide) (by decide)) (lenOf pd_18 rfl) (Nat.le_of_ble_eq_true rfl) rfl (Nat.le_of_ble_eq_true rfl) (Nat.le_of_ble_eq_true rfl) (fun _ q => q) (fun v h_2 sf_3 hq => ?_)
    obtain ⟨rfl, ⟨rfl, qe0⟩ | ⟨rfl, qe0⟩⟩ := hq
    · skip
      refine Go.more (sf' := []) ?_ (Nat.le_refl _) (Nat.le_refl _) (fun _ q => List.mem_append_right _ q)
      show G_fromkw md l Z n0 x va a0 a1 a2 a3 k0 k1 k2 k3 z ws h0 1 4 [] h1 28 #[.val (.ref x), .val (.ref r), .val (.int (4 : Int32)), .val (.int (0 : Int32)), .val (.ref a0)] [(.int (1 : Int32))]
      refine Go.ifN 31 d17_28 rfl (feq (by decide)).1 ?_
      refine Go.aload 33 d17_31 rfl rfl rfl ?_
      exact Go.retA d17_33 rfl rfl rfl (sf' := []) (⟨_, rfl, rfl, Xr, Or.inl ⟨rfl, qe0.symm⟩⟩) (fun _ q => nomatch q) (Nat.le_of_ble_eq_true rfl) (Nat.le_of_ble_eq_true rfl)
    · skip
      refine Go.more (sf' := []) ?_ (Nat.le_refl _) (Nat.le_refl _) (fun _ q => List.mem_append_right _ q)
      show G_fromkw md l Z n0 x va a0 a1 a2 a3 k0 k1 k2 k3 z ws h0 1 4 [] h1 28 #[.val (.ref x), .val (.ref r), .val (.int (4 : Int32)), .val (.int (0 : Int32)), .val (.ref a0)] [(.int (0 : Int32))]
      refine Go.ifY 34 d17_28 (by decide) (by decide) (teq (by decide)).1 ?_
      refine Go.iinc 37 #[.val (.ref x), .val (.ref r), .val (.int (4 : Int32)), .val (.int ((0 : Int32) + (1 : Int32))), .val (.ref a0)] (1 : Int32) d17_34 rfl rfl rfl rfl ?_
      rw [show ((0 : Int32) + (1 : Int32)) = (1 : Int32) from by decide]
      refine Go.goto 9 d17_37 (by decide) (by decide) ?_
      refine Go.iloadN 10 d17_9 rfl rfl ?_
      refine Go.iloadN 11 d17_10 rfl rfl ?_
      refine Go.icmpN 14 d17_11 rfl (tlt (by decide)).2.1 ?_
      refine Go.aloadN 15 d17_14 rfl rfl rfl ?_
      refine Go.iloadN 16 d17_15 rfl rfl ?_
      refine Go.aaload 1 17 d17_16 rfl rfl Ar (by decide) rfl ?_
      refine Go.astore 19 #[.val (.ref x), .val (.ref r), .val (.int (4 : Int32)), .val (.int (1 : Int32)), .val (.ref a1)] d17_17 rfl rfl rfl ?_
      refine Go.aload 21 d17_19 rfl rfl rfl ?_
      refine Go.getF 24 d17_21 rfl (w102 hw) Via.refl fk1 ?_
      refine Go.aloadN 25 d17_24 rfl rfl rfl ?_
      refine Go.old fun o_7 _ => ?_
      refine Go.callV (S := []) (a := k1) 28 [(.ref x)] d17_25 rfl rfl (w104 hw) (w105 hw) (w107 hw) (w106 hw) (fun _ q => notFace_of_selects (args := #[]) (mvT q (w107 hw))) (by decide) sk1.exa (strEq (W := 0) (heq hw) (w2 hw) sk1 Sx (by decide) hws o_7 SC hz (by decide) (by decide)) (lenOf pd_18 rfl) (Nat.le_of_ble_eq_true rfl) rfl (Nat.le_of_ble_eq_true rfl) (Nat.le_of_ble_eq_true rfl) (fun _ q => q) (fun v h_5 sf_6 hq => ?_)
      obtain ⟨rfl, ⟨rfl, qe1⟩ | ⟨rfl, qe1⟩⟩ := hq
      · skip
        refine Go.more (sf' := []) ?_ (Nat.le_refl _) (Nat.le_refl _) (fun _ q => List.mem_append_right _ q)
        show G_fromkw md l Z n0 x va a0 a1 a2 a3 k0 k1 k2 k3 z ws h0 1 4 [] h1 28 #[.val (.ref x), .val (.ref r), .val (.int (4 : Int32)), .val (.int (1 : Int32)), .val (.ref a1)] [(.int (1 : Int32))]
        refine Go.ifN 31 d17_28 rfl (feq (by decide)).1 ?_
        refine Go.aload 33 d17_31 rfl rfl rfl ?_
        exact Go.retA d17_33 rfl rfl rfl (sf' := []) (⟨_, rfl, rfl, Xr, Or.inr (Or.inl ⟨rfl, qe1.symm⟩)⟩) (fun _ q => nomatch q) (Nat.le_of_ble_eq_true rfl) (Nat.le_of_ble_eq_true rfl)
      · skip
        refine Go.more (sf' := []) ?_ (Nat.le_refl _) (Nat.le_refl _) (fun _ q => List.mem_append_right _ q)
        show G_fromkw md l Z n0 x va a0 a1 a2 a3 k0 k1 k2 k3 z ws h0 1 4 [] h1 28 #[.val (.ref x), .val (.ref r), .val (.int (4 : Int32)), .val (.int (1 : Int32)), .val (.ref a1)] [(.int (0 : Int32))]
        refine Go.ifY 34 d17_28 (by decide) (by decide) (teq (by decide)).1 ?_
        refine Go.iinc 37 #[.val (.ref x), .val (.ref r), .val (.int (4 : Int32)), .val (.int ((1 : Int32) + (1 : Int32))), .val (.ref a1)] (1 : Int32) d17_34 rfl rfl rfl rfl ?_
        rw [show ((1 : Int32) + (1 : Int32)) = (2 : Int32) from by decide]
        refine Go.goto 9 d17_37 (by decide) (by decide) ?_
        refine Go.iloadN 10 d17_9 rfl rfl ?_
        refine Go.iloadN 11 d17_10 rfl rfl ?_
        refine Go.icmpN 14 d17_11 rfl (tlt (by decide)).2.1 ?_
        refine Go.aloadN 15 d17_14 rfl rfl rfl ?_
        refine Go.iloadN 16 d17_15 rfl rfl ?_
        refine Go.aaload 2 17 d17_16 rfl rfl Ar (by decide) rfl ?_
        refine Go.astore 19 #[.val (.ref x), .val (.ref r), .val (.int (4 : Int32)), .val (.int (2 : Int32)), .val (.ref a2)] d17_17 rfl rfl rfl ?_
        refine Go.aload 21 d17_19 rfl rfl rfl ?_
        refine Go.getF 24 d17_21 rfl (w102 hw) Via.refl fk2 ?_
        refine Go.aloadN 25 d17_24 rfl rfl rfl ?_
        refine Go.old fun o_10 _ => ?_
        refine Go.callV (S := []) (a := k2) 28 [(.ref x)] d17_25 rfl rfl (w104 hw) (w105 hw) (w107 hw) (w106 hw) (fun _ q => notFace_of_selects (args := #[]) (mvT q (w107 hw))) (by decide) sk2.exa (strEq (W := 0) (heq hw) (w2 hw) sk2 Sx (by decide) hws o_10 SC hz (by decide) (by decide)) (lenOf pd_18 rfl) (Nat.le_of_ble_eq_true rfl) rfl (Nat.le_of_ble_eq_true rfl) (Nat.le_of_ble_eq_true rfl) (fun _ q => q) (fun v h_8 sf_9 hq => ?_)
        obtain ⟨rfl, ⟨rfl, qe2⟩ | ⟨rfl, qe2⟩⟩ := hq
        · skip
          refine Go.more (sf' := []) ?_ (Nat.le_refl _) (Nat.le_refl _) (fun _ q => List.mem_append_right _ q)
          show G_fromkw md l Z n0 x va a0 a1 a2 a3 k0 k1 k2 k3 z ws h0 1 4 [] h1 28 #[.val (.ref x), .val (.ref r), .val (.int (4 : Int32)), .val (.int (2 : Int32)), .val (.ref a2)] [(.int (1 : Int32))]
          refine Go.ifN 31 d17_28 rfl (feq (by decide)).1 ?_
          refine Go.aload 33 d17_31 rfl rfl rfl ?_
          exact Go.retA d17_33 rfl rfl rfl (sf' := []) (⟨_, rfl, rfl, Xr, Or.inr (Or.inr (Or.inl ⟨rfl, qe2.symm⟩))⟩) (fun _ q => nomatch q) (Nat.le_of_ble_eq_true rfl) (Nat.le_of_ble_eq_true rfl)
        · skip
          refine Go.more (sf' := []) ?_ (Nat.le_refl _) (Nat.le_refl _) (fun _ q => List.mem_append_right _ q)
          show G_fromkw md l Z n0 x va a0 a1 a2 a3 k0 k1 k2 k3 z ws h0 1 4 [] h1 28 #[.val (.ref x), .val (.ref r), .val (.int (4 : Int32)), .val (.int (2 : Int32)), .val (.ref a2)] [(.int (0 : Int32))]
          refine Go.ifY 34 d17_28 (by decide) (by decide) (teq (by decide)).1 ?_
          refine Go.iinc 37 #[.val (.ref x), .val (.ref r), .val (.int (4 : Int32)), .val (.int ((2 : Int32) + (1 : Int32))), .val (.ref a2)] (1 : Int32) d17_34 rfl rfl rfl rfl ?_
          rw [show ((2 : Int32) + (1 : Int32)) = (3 : Int32) from by decide]
          refine Go.goto 9 d17_37 (by decide) (by decide) ?_
          refine Go.iloadN 10 d17_9 rfl rfl ?_
          refine Go.iloadN 11 d17_10 rfl rfl ?_
          refine Go.icmpN 14 d17_11 rfl (tlt (by decide)).2.1 ?_
          refine Go.aloadN 15 d17_14 rfl rfl rfl ?_
          refine Go.iloadN 16 d17_15 rfl rfl ?_
          refine Go.aaload 3 17 d17_16 rfl rfl Ar (by decide) rfl ?_
          refine Go.astore 19 #[.val (.ref x), .val (.ref r), .val (.int (4 : Int32)), .val (.int (3 : Int32)), .val (.ref a3)] d17_17 rfl rfl rfl ?_
          refine Go.aload 21 d17_19 rfl rfl rfl ?_
          refine Go.getF 24 d17_21 rfl (w102 hw) Via.refl fk3 ?_
          refine Go.aloadN 25 d17_24 rfl rfl rfl ?_
          refine Go.old fun o_13 _ => ?_
          refine Go.callV (S := []) (a := k3) 28 [(.ref x)] d17_25 rfl rfl (w104 hw) (w105 hw) (w107 hw) (w106 hw) (fun _ q => notFace_of_selects (args := #[]) (mvT q (w107 hw))) (by decide) sk3.exa (strEq (W := 0) (heq hw) (w2 hw) sk3 Sx (by decide) hws o_13 SC hz (by decide) (by decide)) (lenOf pd_18 rfl) (Nat.le_of_ble_eq_true rfl) rfl (Nat.le_of_ble_eq_true rfl) (Nat.le_of_ble_eq_true rfl) (fun _ q => q) (fun v h_11 sf_12 hq => ?_)
          obtain ⟨rfl, ⟨rfl, qe3⟩ | ⟨rfl, qe3⟩⟩ := hq
          · skip
            refine Go.more (sf' := []) ?_ (Nat.le_refl _) (Nat.le_refl _) (fun _ q => List.mem_append_right _ q)
            show G_fromkw md l Z n0 x va a0 a1 a2 a3 k0 k1 k2 k3 z ws h0 1 4 [] h1 28 #[.val (.ref x), .val (.ref r), .val (.int (4 : Int32)), .val (.int (3 : Int32)), .val (.ref a3)] [(.int (1 : Int32))]
            refine Go.ifN 31 d17_28 rfl (feq (by decide)).1 ?_
            refine Go.aload 33 d17_31 rfl rfl rfl ?_
            exact Go.retA d17_33 rfl rfl rfl (sf' := []) (⟨_, rfl, rfl, Xr, Or.inr (Or.inr (Or.inr (Or.inl ⟨rfl, qe3.symm⟩)))⟩) (fun _ q => nomatch q) (Nat.le_of_ble_eq_true rfl) (Nat.le_of_ble_eq_true rfl)
          · skip
            refine Go.more (sf' := []) ?_ (Nat.le_refl _) (Nat.le_refl _) (fun _ q => List.mem_append_right _ q)
            show G_fromkw md l Z n0 x va a0 a1 a2 a3 k0 k1 k2 k3 z ws h0 1 4 [] h1 28 #[.val (.ref x), .val (.ref r), .val (.int (4 : Int32)), .val (.int (3 : Int32)), .val (.ref a3)] [(.int (0 : Int32))]
            refine Go.ifY 34 d17_28 (by decide) (by decide) (teq (by decide)).1 ?_
            refine Go.iinc 37 #[.val (.ref x), .val (.ref r), .val (.int (4 : Int32)), .val (.int ((3 : Int32) + (1 : Int32))), .val (.ref a3)] (1 : Int32) d17_34 rfl rfl rfl rfl ?_
            rw [show ((3 : Int32) + (1 : Int32)) = (4 : Int32) from by decide]
            refine Go.goto 9 d17_37 (by decide) (by decide) ?_
            refine Go.iloadN 10 d17_9 rfl rfl ?_
            refine Go.iloadN 11 d17_10 rfl rfl ?_
            refine Go.icmpY 40 d17_11 (by decide) (by decide) (flt (by decide)).2.1 ?_
            refine Go.aconstNull 41 d17_40 rfl ?_
            exact Go.retA d17_41 rfl rfl rfl (sf' := []) (⟨_, rfl, rfl, Xr, Or.inr (Or.inr (Or.inr (Or.inr ⟨rfl, (fun q => qe0 q.symm), (fun q => qe1 q.symm), (fun q => qe2 q.symm), (fun q => qe3 q.symm)⟩)))⟩) (fun _ q => nomatch q) (Nat.le_of_ble_eq_true rfl) (Nat.le_of_ble_eq_true rfl)
  · skip
    refine Go.astoreN 4 #[.val (.ref x), .val (.ref r), .unset, .unset, .unset] d17_3 rfl rfl rfl ?_
    refine Go.aloadN 5 d17_4 rfl rfl rfl ?_
    refine Go.alen 6 (4 : Int32) d17_5 rfl Ar rfl ?_
    refine Go.istoreN 7 #[.val (.ref x), .val (.ref r), .val (.int (4 : Int32)), .unset, .unset] d17_6 rfl rfl ?_
    refine Go.iconst 8 (0 : Int32) d17_7 rfl rfl ?_
    refine Go.istoreN 9 #[.val (.ref x), .val (.ref r), .val (.int (4 : Int32)), .val (.int (0 : Int32)), .unset] d17_8 rfl rfl ?_
    refine Go.iloadN 10 d17_9 rfl rfl ?_
    refine Go.iloadN 11 d17_10 rfl rfl ?_
    refine Go.icmpN 14 d17_11 rfl (tlt (by decide)).2.1 ?_
    refine Go.aloadN 15 d17_14 rfl rfl rfl ?_
    refine Go.iloadN 16 d17_15 rfl rfl ?_
    refine Go.aaload 0 17 d17_16 rfl rfl Ar (by decide) rfl ?_
    refine Go.astore 19 #[.val (.ref x), .val (.ref r), .val (.int (4 : Int32)), .val (.int (0 : Int32)), .val (.ref a0)] d17_17 rfl rfl rfl ?_
    refine Go.aload 21 d17_19 rfl rfl rfl ?_
    refine Go.getF 24 d17_21 rfl (w102 hw) Via.refl fk0 ?_
    refine Go.aloadN 25 d17_24 rfl rfl rfl ?_
    obtain ⟨tk_, Ek_, Ck_, -⟩ := id sk0
    refine Go.callV (S := []) (a := k0) 28 [(.ref x)] d17_25 rfl rfl (w104 hw) (w105 hw) (w107 hw) (w106 hw) (fun _ q => notFace_of_selects (args := #[]) (mvT q (w107 hw))) (by decide) sk0.exa (call_of_go (R := _) (len := 3) (W := 0) (plainFor_of_name pn_1) (fun mid => ef_eqw mid k0 x z ) (c_eqw hw k0 x z Ek_ Ex Ck_ Cx SC hz) (w108 hw) (w1 hw) (by decide) (by decide)) (lenOf pd_18 rfl) (Nat.le_of_ble_eq_true rfl) rfl (Nat.le_of_ble_eq_true rfl) (Nat.le_of_ble_eq_true rfl) (fun _ q => nomatch q) (fun v h_14 sf_15 hq => ?_)
    obtain ⟨rfl, rfl⟩ := hq
    have ne0 : ¬ ws = kw0 := wide_ne hbig (by decide)
    refine Go.more (sf' := []) ?_ (Nat.le_refl _) (Nat.le_refl _) (fun _ q => List.mem_append_right _ q)
    show G_fromkw md l Z n0 x va a0 a1 a2 a3 k0 k1 k2 k3 z ws h0 1 4 [] h1 28 #[.val (.ref x), .val (.ref r), .val (.int (4 : Int32)), .val (.int (0 : Int32)), .val (.ref a0)] [(.int (0 : Int32))]
    refine Go.ifY 34 d17_28 (by decide) (by decide) (teq (by decide)).1 ?_
    refine Go.iinc 37 #[.val (.ref x), .val (.ref r), .val (.int (4 : Int32)), .val (.int ((0 : Int32) + (1 : Int32))), .val (.ref a0)] (1 : Int32) d17_34 rfl rfl rfl rfl ?_
    rw [show ((0 : Int32) + (1 : Int32)) = (1 : Int32) from by decide]
    refine Go.goto 9 d17_37 (by decide) (by decide) ?_
    refine Go.iloadN 10 d17_9 rfl rfl ?_
    refine Go.iloadN 11 d17_10 rfl rfl ?_
    refine Go.icmpN 14 d17_11 rfl (tlt (by decide)).2.1 ?_
    refine Go.aloadN 15 d17_14 rfl rfl rfl ?_
    refine Go.iloadN 16 d17_15 rfl rfl ?_
    refine Go.aaload 1 17 d17_16 rfl rfl Ar (by decide) rfl ?_
    refine Go.astore 19 #[.val (.ref x), .val (.ref r), .val (.int (4 : Int32)), .val (.int (1 : Int32)), .val (.ref a1)] d17_17 rfl rfl rfl ?_
    refine Go.aload 21 d17_19 rfl rfl rfl ?_
    refine Go.getF 24 d17_21 rfl (w102 hw) Via.refl fk1 ?_
    refine Go.aloadN 25 d17_24 rfl rfl rfl ?_
    obtain ⟨tk_, Ek_, Ck_, -⟩ := id sk1
    refine Go.callV (S := []) (a := k1) 28 [(.ref x)] d17_25 rfl rfl (w104 hw) (w105 hw) (w107 hw) (w106 hw) (fun _ q => notFace_of_selects (args := #[]) (mvT q (w107 hw))) (by decide) sk1.exa (call_of_go (R := _) (len := 3) (W := 0) (plainFor_of_name pn_1) (fun mid => ef_eqw mid k1 x z ) (c_eqw hw k1 x z Ek_ Ex Ck_ Cx SC hz) (w108 hw) (w1 hw) (by decide) (by decide)) (lenOf pd_18 rfl) (Nat.le_of_ble_eq_true rfl) rfl (Nat.le_of_ble_eq_true rfl) (Nat.le_of_ble_eq_true rfl) (fun _ q => nomatch q) (fun v h_16 sf_17 hq => ?_)
    obtain ⟨rfl, rfl⟩ := hq
    have ne1 : ¬ ws = kw1 := wide_ne hbig (by decide)
    refine Go.more (sf' := []) ?_ (Nat.le_refl _) (Nat.le_refl _) (fun _ q => List.mem_append_right _ q)
    show G_fromkw md l Z n0 x va a0 a1 a2 a3 k0 k1 k2 k3 z ws h0 1 4 [] h1 28 #[.val (.ref x), .val (.ref r), .val (.int (4 : Int32)), .val (.int (1 : Int32)), .val (.ref a1)] [(.int (0 : Int32))]
    refine Go.ifY 34 d17_28 (by decide) (by decide) (teq (by decide)).1 ?_
    refine Go.iinc 37 #[.val (.ref x), .val (.ref r), .val (.int (4 : Int32)), .val (.int ((1 : Int32) + (1 : Int32))), .val (.ref a1)] (1 : Int32) d17_34 rfl rfl rfl rfl ?_
    rw [show ((1 : Int32) + (1 : Int32)) = (2 : Int32) from by decide]
    refine Go.goto 9 d17_37 (by decide) (by decide) ?_
    refine Go.iloadN 10 d17_9 rfl rfl ?_
    refine Go.iloadN 11 d17_10 rfl rfl ?_
    refine Go.icmpN 14 d17_11 rfl (tlt (by decide)).2.1 ?_
    refine Go.aloadN 15 d17_14 rfl rfl rfl ?_
    refine Go.iloadN 16 d17_15 rfl rfl ?_
    refine Go.aaload 2 17 d17_16 rfl rfl Ar (by decide) rfl ?_
    refine Go.astore 19 #[.val (.ref x), .val (.ref r), .val (.int (4 : Int32)), .val (.int (2 : Int32)), .val (.ref a2)] d17_17 rfl rfl rfl ?_
    refine Go.aload 21 d17_19 rfl rfl rfl ?_
    refine Go.getF 24 d17_21 rfl (w102 hw) Via.refl fk2 ?_
    refine Go.aloadN 25 d17_24 rfl rfl rfl ?_
    obtain ⟨tk_, Ek_, Ck_, -⟩ := id sk2
    refine Go.callV (S := []) (a := k2) 28 [(.ref x)] d17_25 rfl rfl (w104 hw) (w105 hw) (w107 hw) (w106 hw) (fun _ q => notFace_of_selects (args := #[]) (mvT q (w107 hw))) (by decide) sk2.exa (call_of_go (R := _) (len := 3) (W := 0) (plainFor_of_name pn_1) (fun mid => ef_eqw mid k2 x z ) (c_eqw hw k2 x z Ek_ Ex Ck_ Cx SC hz) (w108 hw) (w1 hw) (by decide) (by decide)) (lenOf pd_18 rfl) (Nat.le_of_ble_eq_true rfl) rfl (Nat.le_of_ble_eq_true rfl) (Nat.le_of_ble_eq_true rfl) (fun _ q => nomatch q) (fun v h_18 sf_19 hq => ?_)
    obtain ⟨rfl, rfl⟩ := hq
    have ne2 : ¬ ws = kw2 := wide_ne hbig (by decide)
    refine Go.more (sf' := []) ?_ (Nat.le_refl _) (Nat.le_refl _) (fun _ q => List.mem_append_right _ q)
    show G_fromkw md l Z n0 x va a0 a1 a2 a3 k0 k1 k2 k3 z ws h0 1 4 [] h1 28 #[.val (.ref x), .val (.ref r), .val (.int (4 : Int32)), .val (.int (2 : Int32)), .val (.ref a2)] [(.int (0 : Int32))]
    refine Go.ifY 34 d17_28 (by decide) (by decide) (teq (by decide)).1 ?_
    refine Go.iinc 37 #[.val (.ref x), .val (.ref r), .val (.int (4 : Int32)), .val (.int ((2 : Int32) + (1 : Int32))), .val (.ref a2)] (1 : Int32) d17_34 rfl rfl rfl rfl ?_
    rw [show ((2 : Int32) + (1 : Int32)) = (3 : Int32) from by decide]
    refine Go.goto 9 d17_37 (by decide) (by decide) ?_
    refine Go.iloadN 10 d17_9 rfl rfl ?_
    refine Go.iloadN 11 d17_10 rfl rfl ?_
    refine Go.icmpN 14 d17_11 rfl (tlt (by decide)).2.1 ?_
    refine Go.aloadN 15 d17_14 rfl rfl rfl ?_
    refine Go.iloadN 16 d17_15 rfl rfl ?_
    refine Go.aaload 3 17 d17_16 rfl rfl Ar (by decide) rfl ?_
    refine Go.astore 19 #[.val (.ref x), .val (.ref r), .val (.int (4 : Int32)), .val (.int (3 : Int32)), .val (.ref a3)] d17_17 rfl rfl rfl ?_
    refine Go.aload 21 d17_19 rfl rfl rfl ?_
    refine Go.getF 24 d17_21 rfl (w102 hw) Via.refl fk3 ?_
    refine Go.aloadN 25 d17_24 rfl rfl rfl ?_
    obtain ⟨tk_, Ek_, Ck_, -⟩ := id sk3
    refine Go.callV (S := []) (a := k3) 28 [(.ref x)] d17_25 rfl rfl (w104 hw) (w105 hw) (w107 hw) (w106 hw) (fun _ q => notFace_of_selects (args := #[]) (mvT q (w107 hw))) (by decide) sk3.exa (call_of_go (R := _) (len := 3) (W := 0) (plainFor_of_name pn_1) (fun mid => ef_eqw mid k3 x z ) (c_eqw hw k3 x z Ek_ Ex Ck_ Cx SC hz) (w108 hw) (w1 hw) (by decide) (by decide)) (lenOf pd_18 rfl) (Nat.le_of_ble_eq_true rfl) rfl (Nat.le_of_ble_eq_true rfl) (Nat.le_of_ble_eq_true rfl) (fun _ q => nomatch q) (fun v h_20 sf_21 hq => ?_)
    obtain ⟨rfl, rfl⟩ := hq
    have ne3 : ¬ ws = kw3 := wide_ne hbig (by decide)
    refine Go.more (sf' := []) ?_ (Nat.le_refl _) (Nat.le_refl _) (fun _ q => List.mem_append_right _ q)
    show G_fromkw md l Z n0 x va a0 a1 a2 a3 k0 k1 k2 k3 z ws h0 1 4 [] h1 28 #[.val (.ref x), .val (.ref r), .val (.int (4 : Int32)), .val (.int (3 : Int32)), .val (.ref a3)] [(.int (0 : Int32))]
    refine Go.ifY 34 d17_28 (by decide) (by decide) (teq (by decide)).1 ?_
    refine Go.iinc 37 #[.val (.ref x), .val (.ref r), .val (.int (4 : Int32)), .val (.int ((3 : Int32) + (1 : Int32))), .val (.ref a3)] (1 : Int32) d17_34 rfl rfl rfl rfl ?_
    rw [show ((3 : Int32) + (1 : Int32)) = (4 : Int32) from by decide]
    refine Go.goto 9 d17_37 (by decide) (by decide) ?_
    refine Go.iloadN 10 d17_9 rfl rfl ?_
    refine Go.iloadN 11 d17_10 rfl rfl ?_
    refine Go.icmpY 40 d17_11 (by decide) (by decide) (flt (by decide)).2.1 ?_
    refine Go.aconstNull 41 d17_40 rfl ?_
    exact Go.retA d17_41 rfl rfl rfl (sf' := []) (⟨_, rfl, rfl, Xr, Or.inr (Or.inr (Or.inr (Or.inr ⟨rfl, ne0, ne1, ne2, ne3⟩)))⟩) (fun _ q => nomatch q) (Nat.le_of_ble_eq_true rfl) (Nat.le_of_ble_eq_true rfl)
abbrev G_law (l : Launch) (Z : State) (n0 : Nat) := Go (some consts_1) l Z n0 room_1 code maxLocals ret "com/example/avain/avain/model/TypeFromKeywordPinLaw" "law" (fun v _ _ => v = some (.int 1))
theorem ef_law (m : MethodId) (p0 : Int32) (p1 : Int32) (p2 : Int32) (p3 : Int32) : entryFrame m #[(.int p0), (.int p1), (.int p2), (.int p3)] maxLocals = mkF m 0 #[.val (.int p0), .val (.int p1), .val (.int p2), .val (.int p3), .unset, .unset, .unset, .unset, .unset, .unset, .unset, .unset, .unset, .unset] [] := by first | (simp [entryFrame, mkF, argsToLocals, Value.category, maxLocals]; done) | rfl
set_option maxRecDepth 65536 in
set_option maxHeartbeats 40000000 in
theorem law_tail {l : Launch} {Z : State} {n0 : Nat} {a0_ : Array Value} (hw : HW a0_ Z) (z : Int32) (fm : Value) (SC : Sta Z Z.heap "java/lang/String" "COMPACT_STRINGS" "Z" (.int z)) (hz : ¬ z = 0) (SF : Sta Z Z.heap "jdk/internal/util/Preconditions" "SIOOBE_FORMATTER" "Ljava/util/function/BiFunction;" fm) (rF : fm.isRef = true) (UA : Sta Z Z.heap "java/lang/StringUTF16" "$assertionsDisabled" "Z" (.int 1)) (UH : Sta Z Z.heap "java/lang/StringUTF16" "HI_BYTE_SHIFT" "I" (.int 0)) (UL : Sta Z Z.heap "java/lang/StringUTF16" "LO_BYTE_SHIFT" "I" (.int 8)) (va a0 a1 a2 a3 k0 k1 k2 k3 : Addr) (Z0 : Sta Z Z.heap "com/example/avain/avain/model/Type" "AGENT" "Lcom/example/avain/avain/model/Type;" (.ref a0)) (Z1 : Sta Z Z.heap "com/example/avain/avain/model/Type" "NUMBER" "Lcom/example/avain/avain/model/Type;" (.ref a1)) (Z2 : Sta Z Z.heap "com/example/avain/avain/model/Type" "SYMMETRIC_KEY" "Lcom/example/avain/avain/model/Type;" (.ref a2)) (Z3 : Sta Z Z.heap "com/example/avain/avain/model/Type" "FUNCTION" "Lcom/example/avain/avain/model/Type;" (.ref a3)) (FK0 : Fld Z Z.heap a0 "com/example/avain/avain/model/Type" "keyword" "Ljava/lang/String;" (.ref k0)) (SK0 : Str Z Z.heap k0 kw0) (FK1 : Fld Z Z.heap a1 "com/example/avain/avain/model/Type" "keyword" "Ljava/lang/String;" (.ref k1)) (SK1 : Str Z Z.heap k1 kw1) (FK2 : Fld Z Z.heap a2 "com/example/avain/avain/model/Type" "keyword" "Ljava/lang/String;" (.ref k2)) (SK2 : Str Z Z.heap k2 kw2) (FK3 : Fld Z Z.heap a3 "com/example/avain/avain/model/Type" "keyword" "Ljava/lang/String;" (.ref k3)) (SK3 : Str Z Z.heap k3 kw3) (ZV : Sta Z Z.heap "com/example/avain/avain/model/Type" "$VALUES" "[Lcom/example/avain/avain/model/Type;" (.ref va)) (AV : Ary Z Z.heap va (.object "com/example/avain/avain/model/Type") [(.ref a0), (.ref a1), (.ref a2), (.ref a3)]) (XV : Exa Z Z.heap va "[Lcom/example/avain/avain/model/Type;")  {h : Heap} {L : Array Slot} {x : Addr} {e : Value} {ws : List Int32} (hL : L.size = maxLocals) (h12 : L[12]? = some (.val (.ref x))) (h13 : L[13]? = some (.val e)) (he : e.isRef = true) (G : Gst Z h x ws) (hws : ws.length ≤ 4000) (hw_ : ((e = .null ∧ ¬ ws = kw0 ∧ ¬ ws = kw1 ∧ ¬ ws = kw2 ∧ ¬ ws = kw3) ∨ (e = .ref a0 ∧ ws = kw0) ∨ (e = .ref a1 ∧ ws = kw1) ∨ (e = .ref a2 ∧ ws = kw2) ∨ (e = .ref a3 ∧ ws = kw3))) : G_law l Z n0 12 200 [] h 274 L [] := by
  refine Go.aload 276 at_274 rfl h12 rfl ?_
  refine Go.callS (S := []) 279 [(.ref x)] at_276 rfl rfl (w81 hw) (w82 hw) (w9 hw) (w83 hw) (by decide) (call_of_go (R := _) (len := 3) (W := 0) (plainFor_of_name pn_4) (fun mid => ef_fromkw mid x va a0 a1 a2 a3 k0 k1 k2 k3 z ws ) (c_fromkw hw x va a0 a1 a2 a3 k0 k1 k2 k3 z ws G hws FK0 SK0 FK1 SK1 FK2 SK2 FK3 SK3 ZV AV XV SC hz) (w83 hw) (w9 hw) (by decide) (by decide)) (lenOf pd_19 rfl) (Nat.le_of_ble_eq_true rfl) hL (Nat.le_of_ble_eq_true rfl) (Nat.le_of_ble_eq_true rfl) (fun _ q => nomatch q) (fun v h2 sf_1 hq => ?_)
  obtain ⟨u, rfl, hur, X2, hu⟩ := hq
  refine Go.more (sf' := []) ?_ (Nat.le_refl _) (Nat.le_refl _) (fun _ q => List.mem_append_right _ q)
  show G_law l Z n0 13 204 [] h2 279 L [u]
  refine Go.aload 281 at_279 rfl h13 he ?_
  have eu : u = e := tail_eq hu hw_
  refine Go.acmpN 284 at_281 (by decide) rfl hur he (by rw [decide_eq_true eu]; rfl) ?_
  refine Go.iconst 285 (1 : Int32) at_284 rfl rfl ?_
  refine Go.goto 289 at_285 (by decide) (by decide) ?_
  exact Go.retN (1 : Int32) at_289 rfl (t := .boolean) (by simp) rfl (sf' := []) (rfl) (fun _ q => nomatch q) (Nat.le_of_ble_eq_true rfl) (Nat.le_of_ble_eq_true rfl)
set_option maxRecDepth 65536 in
set_option maxHeartbeats 40000000 in
theorem law_go {l : Launch} {Z : State} {n0 : Nat} {a0 : Array Value} (hw : HW a0 Z) (p0 : Int32) (p1 : Int32) (p2 : Int32) (p3 : Int32) (z : Int32) (fm : Value) (SC : Sta Z Z.heap "java/lang/String" "COMPACT_STRINGS" "Z" (.int z)) (hz : ¬ z = 0) (SF : Sta Z Z.heap "jdk/internal/util/Preconditions" "SIOOBE_FORMATTER" "Ljava/util/function/BiFunction;" fm) (rF : fm.isRef = true) (UA : Sta Z Z.heap "java/lang/StringUTF16" "$assertionsDisabled" "Z" (.int 1)) (UH : Sta Z Z.heap "java/lang/StringUTF16" "HI_BYTE_SHIFT" "I" (.int 0)) (UL : Sta Z Z.heap "java/lang/StringUTF16" "LO_BYTE_SHIFT" "I" (.int 8)) (va a0 a1 a2 a3 k0 k1 k2 k3 : Addr) (Z0 : Sta Z Z.heap "com/example/avain/avain/model/Type" "AGENT" "Lcom/example/avain/avain/model/Type;" (.ref a0)) (Z1 : Sta Z Z.heap "com/example/avain/avain/model/Type" "NUMBER" "Lcom/example/avain/avain/model/Type;" (.ref a1)) (Z2 : Sta Z Z.heap "com/example/avain/avain/model/Type" "SYMMETRIC_KEY" "Lcom/example/avain/avain/model/Type;" (.ref a2)) (Z3 : Sta Z Z.heap "com/example/avain/avain/model/Type" "FUNCTION" "Lcom/example/avain/avain/model/Type;" (.ref a3)) (FK0 : Fld Z Z.heap a0 "com/example/avain/avain/model/Type" "keyword" "Ljava/lang/String;" (.ref k0)) (SK0 : Str Z Z.heap k0 kw0) (FK1 : Fld Z Z.heap a1 "com/example/avain/avain/model/Type" "keyword" "Ljava/lang/String;" (.ref k1)) (SK1 : Str Z Z.heap k1 kw1) (FK2 : Fld Z Z.heap a2 "com/example/avain/avain/model/Type" "keyword" "Ljava/lang/String;" (.ref k2)) (SK2 : Str Z Z.heap k2 kw2) (FK3 : Fld Z Z.heap a3 "com/example/avain/avain/model/Type" "keyword" "Ljava/lang/String;" (.ref k3)) (SK3 : Str Z Z.heap k3 kw3) (ZV : Sta Z Z.heap "com/example/avain/avain/model/Type" "$VALUES" "[Lcom/example/avain/avain/model/Type;" (.ref va)) (AV : Ary Z Z.heap va (.object "com/example/avain/avain/model/Type") [(.ref a0), (.ref a1), (.ref a2), (.ref a3)]) (XV : Exa Z Z.heap va "[Lcom/example/avain/avain/model/Type;")  {h0 : Heap} : G_law l Z n0 0 0 [] h0 0 #[.val (.int p0), .val (.int p1), .val (.int p2), .val (.int p3), .unset, .unset, .unset, .unset, .unset, .unset, .unset, .unset, .unset, .unset] [] := by
  refine Go.iloadN 1 at_0 rfl rfl ?_
  refine Go.iconst 2 (3 : Int32) at_1 rfl rfl ?_
  refine Go.iand 3 at_2 rfl ?_
  obtain ⟨ki, e_ki⟩ : ∃ y_ : Int32, y_ = (p1 &&& (3 : Int32)) := ⟨_, rfl⟩
  rw [← e_ki]
  show G_law l Z n0 0 0 [] h0 3 #[.val (.int p0), .val (.int p1), .val (.int p2), .val (.int p3), .unset, .unset, .unset, .unset, .unset, .unset, .unset, .unset, .unset, .unset] [(.int ki)]
  refine Go.istore 5 #[.val (.int p0), .val (.int p1), .val (.int p2), .val (.int p3), .val (.int ki), .unset, .unset, .unset, .unset, .unset, .unset, .unset, .unset, .unset] at_3 rfl rfl ?_
  refine Go.iload 7 at_5 rfl rfl ?_
  by_cases hc7 : ki = (0 : Int32)
  · skip
    refine Go.ifN 10 at_7 rfl (teq hc7).2 ?_
    refine Go.ldcL (vs := [(.int (65 : Int32)), (.int (103 : Int32)), (.int (101 : Int32)), (.int (110 : Int32)), (.int (116 : Int32))]) (z := (5 : Int32)) 20 12 at_10 rfl (w116 hw) (wS hw) (List.mem_of_getElem? (i := 0) rfl) ⟨by decide, rfl⟩ (by decide) (by decide) (by decide) (by decide) (Nat.le_of_ble_eq_true rfl) (Nat.le_of_ble_eq_true rfl) (fun h_1 s_2 b_3 k_4 E_5 A_6 C_7 V_8 B_9 ne_10 => ?_)
    have B_11 : Ary Z h_1 b_3 .byte [(.int (65 : Int32)), (.int (103 : Int32)), (.int (101 : Int32)), (.int (110 : Int32)), (.int (116 : Int32))] := Ary.ofArv B_9 rfl (by decide)
    have S_12 : Str Z h_1 s_2 [(65 : Int32), (103 : Int32), (101 : Int32), (110 : Int32), (116 : Int32)] := ⟨_, A_6, C_7, V_8, B_11, by unfold Lat; decide⟩
    show G_law l Z n0 2 24 [] h_1 12 #[.val (.int p0), .val (.int p1), .val (.int p2), .val (.int p3), .val (.int ki), .unset, .unset, .unset, .unset, .unset, .unset, .unset, .unset, .unset] [(.ref s_2)]
    refine Go.astore 14 #[.val (.int p0), .val (.int p1), .val (.int p2), .val (.int p3), .val (.int ki), .val (.ref s_2), .unset, .unset, .unset, .unset, .unset, .unset, .unset, .unset] at_12 rfl rfl rfl ?_
    refine Go.getS 17 at_14 rfl (w117 hw) Via.refl Z0 ?_
    refine Go.astore 19 #[.val (.int p0), .val (.int p1), .val (.int p2), .val (.int p3), .val (.int ki), .val (.ref s_2), .val (.ref a0), .unset, .unset, .unset, .unset, .unset, .unset, .unset] at_17 rfl rfl rfl ?_
    refine Go.goto 67 at_19 (by decide) (by decide) ?_
    refine Go.aload 69 at_67 rfl rfl rfl ?_
    refine Go.old fun o_13 _ => ?_
    refine Go.callV (S := []) (a := s_2) 72 [] at_69 rfl rfl (w11 hw) (w12 hw) (w14 hw) (w13 hw) (fun _ q => notFace_of_selects (args := #[]) (mvT q (w14 hw))) (by decide) A_6 (strLen (W := 0) (hln hw) (w2 hw) S_12 (by decide) o_13 SC hz (by decide) (by decide)) (lenOf pd_13 rfl) (Nat.le_of_ble_eq_true rfl) rfl (Nat.le_of_ble_eq_true rfl) (Nat.le_of_ble_eq_true rfl) (fun _ q => q) (fun v h_14 sf_15 hq => ?_)
    obtain ⟨rfl, rfl⟩ := hq
    refine Go.more (sf' := []) ?_ (Nat.le_refl _) (Nat.le_refl _) (fun _ q => List.mem_append_right _ q)
    show G_law l Z n0 2 24 [] h_1 72 #[.val (.int p0), .val (.int p1), .val (.int p2), .val (.int p3), .val (.int ki), .val (.ref s_2), .val (.ref a0), .unset, .unset, .unset, .unset, .unset, .unset, .unset] [(.int (Int32.ofNat ([(65 : Int32), (103 : Int32), (101 : Int32), (110 : Int32), (116 : Int32)]).length))]
    rw [show (Int32.ofNat ([(65 : Int32), (103 : Int32), (101 : Int32), (110 : Int32), (116 : Int32)]).length) = (5 : Int32) from by decide]
    show G_law l Z n0 2 24 [] h_1 72 #[.val (.int p0), .val (.int p1), .val (.int p2), .val (.int p3), .val (.int ki), .val (.ref s_2), .val (.ref a0), .unset, .unset, .unset, .unset, .unset, .unset, .unset] [(.int (5 : Int32))]
    refine Go.istore 74 #[.val (.int p0), .val (.int p1), .val (.int p2), .val (.int p3), .val (.int ki), .val (.ref s_2), .val (.ref a0), .val (.int (5 : Int32)), .unset, .unset, .unset, .unset, .unset, .unset] at_72 rfl rfl ?_
    refine Go.iloadN 75 at_74 rfl rfl ?_
    refine Go.ldcI 77 at_75 rfl (w24 hw) ?_
    refine Go.iand 78 at_77 rfl ?_
    refine Go.iload 80 at_78 rfl rfl ?_
    refine Go.irem 81 at_80 rfl (by decide) ?_
    obtain ⟨p, e_p⟩ : ∃ y_ : Int32, y_ = ((p2 &&& (2147483647 : Int32)) % (5 : Int32)) := ⟨_, rfl⟩
    have b_p : 0 ≤ p.toInt ∧ p.toInt < 5 := by rw [e_p]; exact (fun q => ⟨q.1, q.2.1⟩) ((c_iremV (p2 &&& (2147483647 : Int32)) (5 : Int32)).1 (c_and p2 2147483647 (by decide)).1 (by decide))
    rw [← e_p]
    show G_law l Z n0 2 24 [] h_1 81 #[.val (.int p0), .val (.int p1), .val (.int p2), .val (.int p3), .val (.int ki), .val (.ref s_2), .val (.ref a0), .val (.int (5 : Int32)), .unset, .unset, .unset, .unset, .unset, .unset] [(.int p)]
    refine Go.istore 83 #[.val (.int p0), .val (.int p1), .val (.int p2), .val (.int p3), .val (.int ki), .val (.ref s_2), .val (.ref a0), .val (.int (5 : Int32)), .val (.int p), .unset, .unset, .unset, .unset, .unset] at_81 rfl rfl ?_
    refine Go.iloadN 84 at_83 rfl rfl ?_
    refine Go.ldcI 86 at_84 rfl (w25 hw) ?_
    refine Go.iand 87 at_86 rfl ?_
    refine Go.i2c 88 at_87 rfl ?_
    obtain ⟨dr, e_dr⟩ : ∃ y_ : Int32, y_ = (chr (p3 &&& (65535 : Int32))) := ⟨_, rfl⟩
    have b_dr : CHP dr := by rw [e_dr]; exact chp_chr _
    rw [← e_dr]
    show G_law l Z n0 2 24 [] h_1 88 #[.val (.int p0), .val (.int p1), .val (.int p2), .val (.int p3), .val (.int ki), .val (.ref s_2), .val (.ref a0), .val (.int (5 : Int32)), .val (.int p), .unset, .unset, .unset, .unset, .unset] [(.int dr)]
    refine Go.istore 90 #[.val (.int p0), .val (.int p1), .val (.int p2), .val (.int p3), .val (.int ki), .val (.ref s_2), .val (.ref a0), .val (.int (5 : Int32)), .val (.int p), .val (.int dr), .unset, .unset, .unset, .unset] at_88 rfl rfl ?_
    refine Go.aload 92 at_90 rfl rfl rfl ?_
    refine Go.iload 94 at_92 rfl rfl ?_
    refine Go.old fun o_16 _ => ?_
    refine Go.callV (S := []) (a := s_2) 97 [(.int p)] at_94 rfl rfl (w26 hw) (w27 hw) (w29 hw) (w28 hw) (fun _ q => notFace_of_selects (args := #[]) (mvT q (w29 hw))) (by decide) A_6 (strCh (W := 0) (hch hw) (w2 hw) S_12 (by decide) o_16 SC hz SF rF p.toInt.toNat (Int.toNat_of_nonneg b_p.1).symm (by show p.toInt.toNat < 5; omega) (by decide) (by decide)) (lenOf pd_12 rfl) (Nat.le_of_ble_eq_true rfl) rfl (Nat.le_of_ble_eq_true rfl) (Nat.le_of_ble_eq_true rfl) (fun _ q => q) (fun v h_17 sf_18 hq => ?_)
    obtain ⟨rfl, rfl⟩ := hq
    refine Go.more (sf' := []) ?_ (Nat.le_refl _) (Nat.le_refl _) (fun _ q => List.mem_append_right _ q)
    show G_law l Z n0 2 24 [] h_1 97 #[.val (.int p0), .val (.int p1), .val (.int p2), .val (.int p3), .val (.int ki), .val (.ref s_2), .val (.ref a0), .val (.int (5 : Int32)), .val (.int p), .val (.int dr), .unset, .unset, .unset, .unset] [(.int (([(65 : Int32), (103 : Int32), (101 : Int32), (110 : Int32), (116 : Int32)]).getD p.toInt.toNat 0))]
    obtain ⟨og, e_og⟩ : ∃ y_ : Int32, y_ = (([(65 : Int32), (103 : Int32), (101 : Int32), (110 : Int32), (116 : Int32)]).getD p.toInt.toNat 0) := ⟨_, rfl⟩
    have b_og : CHP og := by rw [e_og]; exact kw_chp (by unfold CHP; decide) _
    rw [← e_og]
    show G_law l Z n0 2 24 [] h_1 97 #[.val (.int p0), .val (.int p1), .val (.int p2), .val (.int p3), .val (.int ki), .val (.ref s_2), .val (.ref a0), .val (.int (5 : Int32)), .val (.int p), .val (.int dr), .unset, .unset, .unset, .unset] [(.int og)]
    refine Go.istore 99 #[.val (.int p0), .val (.int p1), .val (.int p2), .val (.int p3), .val (.int ki), .val (.ref s_2), .val (.ref a0), .val (.int (5 : Int32)), .val (.int p), .val (.int dr), .val (.int og), .unset, .unset, .unset] at_97 rfl rfl ?_
    refine Go.iloadN 100 at_99 rfl rfl ?_
    refine Go.bipush 102 (7 : Int32) at_100 rfl rfl ?_
    refine Go.iand 103 at_102 rfl ?_
    obtain ⟨sm, e_sm⟩ : ∃ y_ : Int32, y_ = (p0 &&& (7 : Int32)) := ⟨_, rfl⟩
    rw [← e_sm]
    show G_law l Z n0 2 24 [] h_1 103 #[.val (.int p0), .val (.int p1), .val (.int p2), .val (.int p3), .val (.int ki), .val (.ref s_2), .val (.ref a0), .val (.int (5 : Int32)), .val (.int p), .val (.int dr), .val (.int og), .unset, .unset, .unset] [(.int sm)]
    refine Go.istore 105 #[.val (.int p0), .val (.int p1), .val (.int p2), .val (.int p3), .val (.int ki), .val (.ref s_2), .val (.ref a0), .val (.int (5 : Int32)), .val (.int p), .val (.int dr), .val (.int og), .val (.int sm), .unset, .unset] at_103 rfl rfl ?_
    refine Go.iload 107 at_105 rfl rfl ?_
    by_cases hc107 : sm = (0 : Int32)
    · skip
      refine Go.ifN 110 at_107 rfl (teq hc107).2 ?_
      refine Go.aload 112 at_110 rfl rfl rfl ?_
      refine Go.iconst 113 (0 : Int32) at_112 rfl rfl ?_
      refine Go.iload 115 at_113 rfl rfl ?_
      refine Go.iload 117 at_115 rfl rfl ?_
      refine Go.bipush 119 (32 : Int32) at_117 rfl rfl ?_
      refine Go.ixor 120 at_119 rfl ?_
      refine Go.i2c 121 at_120 rfl ?_
      refine Go.callS (S := []) 124 [(.ref s_2), (.int (0 : Int32)), (.int p), (.int (chr (og ^^^ (32 : Int32))))] at_121 rfl rfl (w48 hw) (w49 hw) (w50 hw) (w51 hw) (by decide) (call_of_go (R := _) (len := 3) (W := 0) (plainFor_of_name pn_3) (fun mid => ef_bld1 mid s_2 p (chr (og ^^^ (32 : Int32))) z (5 : Int32) (5 : Int32) (5 : Int32) fm p.toInt.toNat 5 5 5 [(65 : Int32), (103 : Int32), (101 : Int32), (110 : Int32), (116 : Int32)] [(65 : Int32), (103 : Int32), (101 : Int32), (110 : Int32), (116 : Int32)] ) (c_bld1 hw s_2 p (chr (og ^^^ (32 : Int32))) z (5 : Int32) (5 : Int32) (5 : Int32) fm p.toInt.toNat 5 5 5 [(65 : Int32), (103 : Int32), (101 : Int32), (110 : Int32), (116 : Int32)] [(65 : Int32), (103 : Int32), (101 : Int32), (110 : Int32), (116 : Int32)] S_12 (chp_chr _) (by unfold CHP; decide) (Nat.le_of_ble_eq_true rfl) (by decide) (by decide) (by decide) (by decide) (by decide) (by decide) (by decide) (by decide) (by decide) (by decide) rfl (Int.toNat_of_nonneg b_p.1).symm (by omega) SC hz SF rF UA UH UL) (w51 hw) (w50 hw) (by decide) (by decide)) (lenOf pd_20 rfl) (Nat.le_of_ble_eq_true rfl) rfl (Nat.le_of_ble_eq_true rfl) (Nat.le_of_ble_eq_true rfl) (fun _ q => nomatch q) (fun v h_19 sf_24 hq => ?_)
      obtain ⟨x_20, rfl, E_21, le_22, S_23⟩ := hq
      refine Go.more (sf' := []) ?_ (Nat.le_refl _) (Nat.le_refl _) (fun _ q => List.mem_append_right _ q)
      show G_law l Z n0 6 80 [] h_19 124 #[.val (.int p0), .val (.int p1), .val (.int p2), .val (.int p3), .val (.int ki), .val (.ref s_2), .val (.ref a0), .val (.int (5 : Int32)), .val (.int p), .val (.int dr), .val (.int og), .val (.int sm), .unset, .unset] [(.ref x_20)]
      refine Go.astore 126 #[.val (.int p0), .val (.int p1), .val (.int p2), .val (.int p3), .val (.int ki), .val (.ref s_2), .val (.ref a0), .val (.int (5 : Int32)), .val (.int p), .val (.int dr), .val (.int og), .val (.int sm), .val (.ref x_20), .unset] at_124 rfl rfl rfl ?_
      refine Go.aconstNull 127 at_126 rfl ?_
      refine Go.astore 129 #[.val (.int p0), .val (.int p1), .val (.int p2), .val (.int p3), .val (.int ki), .val (.ref s_2), .val (.ref a0), .val (.int (5 : Int32)), .val (.int p), .val (.int dr), .val (.int og), .val (.int sm), .val (.ref x_20), .val .null] at_127 rfl rfl rfl ?_
      refine Go.goto 274 at_129 (by decide) (by decide) ?_
      refine Go.more (cells' := 12) (slots' := 200) (sf' := []) ?_ (Nat.le_of_ble_eq_true rfl) (Nat.le_of_ble_eq_true rfl) (fun _ q => nomatch q)
      exact law_tail (ws := ([(65 : Int32), (103 : Int32), (101 : Int32), (110 : Int32), (116 : Int32)].set p.toInt.toNat (chr (og ^^^ (32 : Int32))))) hw z fm SC hz SF rF UA UH UL va a0 a1 a2 a3 k0 k1 k2 k3 Z0 Z1 Z2 Z3 FK0 SK0 FK1 SK1 FK2 SK2 FK3 SK3 ZV AV XV rfl rfl rfl rfl S_23 (by simp) (Or.inl ⟨rfl, (by rw [e_og]; exact flip0 (by omega)), (len_ne (by simp [kw1])), (len_ne (by simp [kw2])), (len_ne (by simp [kw3]))⟩)
    · skip
      refine Go.ifY 132 at_107 (by decide) (by decide) (feq hc107).2 ?_
      refine Go.iload 134 at_132 rfl rfl ?_
      refine Go.iconst 135 (1 : Int32) at_134 rfl rfl ?_
      by_cases hc135 : sm = (1 : Int32)
      · skip
        refine Go.icmpN 138 at_135 rfl (teq hc135).2 ?_
        refine Go.iload 140 at_138 rfl rfl ?_
        refine Go.callS (S := []) 143 [(.int dr)] at_140 rfl rfl (w118 hw) (w119 hw) (w1 hw) (w120 hw) (by decide) (call_of_go (R := _) (len := 3) (W := 0) (plainFor_of_name pn_1) (fun mid => ef_valueof mid dr z ) (c_valueof hw dr z b_dr SC hz UA UH UL) (w120 hw) (w1 hw) (by decide) (by decide)) (lenOf pd_21 rfl) (Nat.le_of_ble_eq_true rfl) rfl (Nat.le_of_ble_eq_true rfl) (Nat.le_of_ble_eq_true rfl) (fun _ q => nomatch q) (fun v h_25 sf_30 hq => ?_)
        obtain ⟨x_26, rfl, E_27, le_28, S_29⟩ := hq
        refine Go.more (sf' := []) ?_ (Nat.le_refl _) (Nat.le_refl _) (fun _ q => List.mem_append_right _ q)
        show G_law l Z n0 4 30 [] h_25 143 #[.val (.int p0), .val (.int p1), .val (.int p2), .val (.int p3), .val (.int ki), .val (.ref s_2), .val (.ref a0), .val (.int (5 : Int32)), .val (.int p), .val (.int dr), .val (.int og), .val (.int sm), .unset, .unset] [(.ref x_26)]
        refine Go.astore 145 #[.val (.int p0), .val (.int p1), .val (.int p2), .val (.int p3), .val (.int ki), .val (.ref s_2), .val (.ref a0), .val (.int (5 : Int32)), .val (.int p), .val (.int dr), .val (.int og), .val (.int sm), .val (.ref x_26), .unset] at_143 rfl rfl rfl ?_
        refine Go.aconstNull 146 at_145 rfl ?_
        refine Go.astore 148 #[.val (.int p0), .val (.int p1), .val (.int p2), .val (.int p3), .val (.int ki), .val (.ref s_2), .val (.ref a0), .val (.int (5 : Int32)), .val (.int p), .val (.int dr), .val (.int og), .val (.int sm), .val (.ref x_26), .val .null] at_146 rfl rfl rfl ?_
        refine Go.goto 274 at_148 (by decide) (by decide) ?_
        refine Go.more (cells' := 12) (slots' := 200) (sf' := []) ?_ (Nat.le_of_ble_eq_true rfl) (Nat.le_of_ble_eq_true rfl) (fun _ q => nomatch q)
        exact law_tail (ws := [dr]) hw z fm SC hz SF rF UA UH UL va a0 a1 a2 a3 k0 k1 k2 k3 Z0 Z1 Z2 Z3 FK0 SK0 FK1 SK1 FK2 SK2 FK3 SK3 ZV AV XV rfl rfl rfl rfl S_29 (Nat.le_of_ble_eq_true rfl) (Or.inl ⟨rfl, (by simp [kw0]), (by simp [kw1]), (by simp [kw2]), (by simp [kw3])⟩)
      · skip
        refine Go.icmpY 151 at_135 (by decide) (by decide) (feq hc135).2 ?_
        refine Go.iload 153 at_151 rfl rfl ?_
        refine Go.iconst 154 (2 : Int32) at_153 rfl rfl ?_
        by_cases hc154 : sm = (2 : Int32)
        · skip
          refine Go.icmpN 157 at_154 rfl (teq hc154).2 ?_
          refine Go.ldcL (vs := []) (z := (0 : Int32)) 0 159 at_157 rfl (w115 hw) (wS hw) (List.mem_of_getElem? (i := 4) rfl) ⟨by decide, rfl⟩ (by decide) (by decide) (by decide) (by decide) (Nat.le_of_ble_eq_true rfl) (Nat.le_of_ble_eq_true rfl) (fun h_31 s_32 b_33 k_34 E_35 A_36 C_37 V_38 B_39 ne_40 => ?_)
          have B_41 : Ary Z h_31 b_33 .byte [] := Ary.ofArv B_39 rfl (by decide)
          have S_42 : Str Z h_31 s_32 [] := ⟨_, A_36, C_37, V_38, B_41, by unfold Lat; decide⟩
          show G_law l Z n0 4 28 [] h_31 159 #[.val (.int p0), .val (.int p1), .val (.int p2), .val (.int p3), .val (.int ki), .val (.ref s_2), .val (.ref a0), .val (.int (5 : Int32)), .val (.int p), .val (.int dr), .val (.int og), .val (.int sm), .unset, .unset] [(.ref s_32)]
          refine Go.astore 161 #[.val (.int p0), .val (.int p1), .val (.int p2), .val (.int p3), .val (.int ki), .val (.ref s_2), .val (.ref a0), .val (.int (5 : Int32)), .val (.int p), .val (.int dr), .val (.int og), .val (.int sm), .val (.ref s_32), .unset] at_159 rfl rfl rfl ?_
          refine Go.aconstNull 162 at_161 rfl ?_
          refine Go.astore 164 #[.val (.int p0), .val (.int p1), .val (.int p2), .val (.int p3), .val (.int ki), .val (.ref s_2), .val (.ref a0), .val (.int (5 : Int32)), .val (.int p), .val (.int dr), .val (.int og), .val (.int sm), .val (.ref s_32), .val .null] at_162 rfl rfl rfl ?_
          refine Go.goto 274 at_164 (by decide) (by decide) ?_
          refine Go.more (cells' := 12) (slots' := 200) (sf' := []) ?_ (Nat.le_of_ble_eq_true rfl) (Nat.le_of_ble_eq_true rfl) (fun _ q => nomatch q)
          exact law_tail (ws := []) hw z fm SC hz SF rF UA UH UL va a0 a1 a2 a3 k0 k1 k2 k3 Z0 Z1 Z2 Z3 FK0 SK0 FK1 SK1 FK2 SK2 FK3 SK3 ZV AV XV rfl rfl rfl rfl (Gst.ofStr S_42) (Nat.le_of_ble_eq_true rfl) (Or.inl ⟨rfl, (by simp [kw0]), (by simp [kw1]), (by simp [kw2]), (by simp [kw3])⟩)
        · skip
          refine Go.icmpY 167 at_154 (by decide) (by decide) (feq hc154).2 ?_
          refine Go.iload 169 at_167 rfl rfl ?_
          refine Go.iconst 170 (3 : Int32) at_169 rfl rfl ?_
          by_cases hc170 : sm = (3 : Int32)
          · skip
            refine Go.icmpN 173 at_170 rfl (teq hc170).2 ?_
            refine Go.aload 175 at_173 rfl rfl rfl ?_
            refine Go.iconst 176 (0 : Int32) at_175 rfl rfl ?_
            refine Go.iload 178 at_176 rfl rfl ?_
            refine Go.iload 180 at_178 rfl rfl ?_
            refine Go.callS (S := []) 183 [(.ref s_2), (.int (0 : Int32)), (.int p), (.int og)] at_180 rfl rfl (w48 hw) (w49 hw) (w50 hw) (w51 hw) (by decide) (call_of_go (R := _) (len := 3) (W := 0) (plainFor_of_name pn_3) (fun mid => ef_bld1 mid s_2 p og z (5 : Int32) (5 : Int32) (5 : Int32) fm p.toInt.toNat 5 5 5 [(65 : Int32), (103 : Int32), (101 : Int32), (110 : Int32), (116 : Int32)] [(65 : Int32), (103 : Int32), (101 : Int32), (110 : Int32), (116 : Int32)] ) (c_bld1 hw s_2 p og z (5 : Int32) (5 : Int32) (5 : Int32) fm p.toInt.toNat 5 5 5 [(65 : Int32), (103 : Int32), (101 : Int32), (110 : Int32), (116 : Int32)] [(65 : Int32), (103 : Int32), (101 : Int32), (110 : Int32), (116 : Int32)] S_12 b_og (by unfold CHP; decide) (Nat.le_of_ble_eq_true rfl) (by decide) (by decide) (by decide) (by decide) (by decide) (by decide) (by decide) (by decide) (by decide) (by decide) rfl (Int.toNat_of_nonneg b_p.1).symm (by omega) SC hz SF rF UA UH UL) (w51 hw) (w50 hw) (by decide) (by decide)) (lenOf pd_20 rfl) (Nat.le_of_ble_eq_true rfl) rfl (Nat.le_of_ble_eq_true rfl) (Nat.le_of_ble_eq_true rfl) (fun _ q => nomatch q) (fun v h_43 sf_48 hq => ?_)
            obtain ⟨x_44, rfl, E_45, le_46, S_47⟩ := hq
            refine Go.more (sf' := []) ?_ (Nat.le_refl _) (Nat.le_refl _) (fun _ q => List.mem_append_right _ q)
            show G_law l Z n0 6 80 [] h_43 183 #[.val (.int p0), .val (.int p1), .val (.int p2), .val (.int p3), .val (.int ki), .val (.ref s_2), .val (.ref a0), .val (.int (5 : Int32)), .val (.int p), .val (.int dr), .val (.int og), .val (.int sm), .unset, .unset] [(.ref x_44)]
            refine Go.astore 185 #[.val (.int p0), .val (.int p1), .val (.int p2), .val (.int p3), .val (.int ki), .val (.ref s_2), .val (.ref a0), .val (.int (5 : Int32)), .val (.int p), .val (.int dr), .val (.int og), .val (.int sm), .val (.ref x_44), .unset] at_183 rfl rfl rfl ?_
            refine Go.aload 187 at_185 rfl rfl rfl ?_
            refine Go.astore 189 #[.val (.int p0), .val (.int p1), .val (.int p2), .val (.int p3), .val (.int ki), .val (.ref s_2), .val (.ref a0), .val (.int (5 : Int32)), .val (.int p), .val (.int dr), .val (.int og), .val (.int sm), .val (.ref x_44), .val (.ref a0)] at_187 rfl rfl rfl ?_
            refine Go.goto 274 at_189 (by decide) (by decide) ?_
            refine Go.more (cells' := 12) (slots' := 200) (sf' := []) ?_ (Nat.le_of_ble_eq_true rfl) (Nat.le_of_ble_eq_true rfl) (fun _ q => nomatch q)
            exact law_tail (ws := ([(65 : Int32), (103 : Int32), (101 : Int32), (110 : Int32), (116 : Int32)].set p.toInt.toNat og)) hw z fm SC hz SF rF UA UH UL va a0 a1 a2 a3 k0 k1 k2 k3 Z0 Z1 Z2 Z3 FK0 SK0 FK1 SK1 FK2 SK2 FK3 SK3 ZV AV XV rfl rfl rfl rfl S_47 (by simp) (Or.inr (Or.inl ⟨rfl, set_same e_og⟩))
          · skip
            refine Go.icmpY 192 at_170 (by decide) (by decide) (feq hc170).2 ?_
            refine Go.iload 194 at_192 rfl rfl ?_
            refine Go.iconst 195 (4 : Int32) at_194 rfl rfl ?_
            by_cases hc195 : sm = (4 : Int32)
            · skip
              refine Go.icmpY 204 at_195 (by decide) (by decide) (teq hc195).1 ?_
              refine Go.aload 206 at_204 rfl rfl rfl ?_
              refine Go.iconst 207 (0 : Int32) at_206 rfl rfl ?_
              refine Go.iload 209 at_207 rfl rfl ?_
              refine Go.iload 211 at_209 rfl rfl ?_
              refine Go.callS (S := []) 214 [(.ref s_2), (.int (0 : Int32)), (.int p), (.int dr)] at_211 rfl rfl (w48 hw) (w49 hw) (w50 hw) (w51 hw) (by decide) (call_of_go (R := _) (len := 3) (W := 0) (plainFor_of_name pn_3) (fun mid => ef_bld1 mid s_2 p dr z (5 : Int32) (5 : Int32) (5 : Int32) fm p.toInt.toNat 5 5 5 [(65 : Int32), (103 : Int32), (101 : Int32), (110 : Int32), (116 : Int32)] [(65 : Int32), (103 : Int32), (101 : Int32), (110 : Int32), (116 : Int32)] ) (c_bld1 hw s_2 p dr z (5 : Int32) (5 : Int32) (5 : Int32) fm p.toInt.toNat 5 5 5 [(65 : Int32), (103 : Int32), (101 : Int32), (110 : Int32), (116 : Int32)] [(65 : Int32), (103 : Int32), (101 : Int32), (110 : Int32), (116 : Int32)] S_12 b_dr (by unfold CHP; decide) (Nat.le_of_ble_eq_true rfl) (by decide) (by decide) (by decide) (by decide) (by decide) (by decide) (by decide) (by decide) (by decide) (by decide) rfl (Int.toNat_of_nonneg b_p.1).symm (by omega) SC hz SF rF UA UH UL) (w51 hw) (w50 hw) (by decide) (by decide)) (lenOf pd_20 rfl) (Nat.le_of_ble_eq_true rfl) rfl (Nat.le_of_ble_eq_true rfl) (Nat.le_of_ble_eq_true rfl) (fun _ q => nomatch q) (fun v h_49 sf_54 hq => ?_)
              obtain ⟨x_50, rfl, E_51, le_52, S_53⟩ := hq
              refine Go.more (sf' := []) ?_ (Nat.le_refl _) (Nat.le_refl _) (fun _ q => List.mem_append_right _ q)
              show G_law l Z n0 6 80 [] h_49 214 #[.val (.int p0), .val (.int p1), .val (.int p2), .val (.int p3), .val (.int ki), .val (.ref s_2), .val (.ref a0), .val (.int (5 : Int32)), .val (.int p), .val (.int dr), .val (.int og), .val (.int sm), .unset, .unset] [(.ref x_50)]
              refine Go.astore 216 #[.val (.int p0), .val (.int p1), .val (.int p2), .val (.int p3), .val (.int ki), .val (.ref s_2), .val (.ref a0), .val (.int (5 : Int32)), .val (.int p), .val (.int dr), .val (.int og), .val (.int sm), .val (.ref x_50), .unset] at_214 rfl rfl rfl ?_
              refine Go.iload 218 at_216 rfl rfl ?_
              refine Go.iload 220 at_218 rfl rfl ?_
              by_cases hc220 : dr = og
              · skip
                refine Go.icmpN 223 at_220 rfl (teq hc220).2 ?_
                refine Go.aload 225 at_223 rfl rfl rfl ?_
                refine Go.goto 229 at_225 (by decide) (by decide) ?_
                refine Go.astore 231 #[.val (.int p0), .val (.int p1), .val (.int p2), .val (.int p3), .val (.int ki), .val (.ref s_2), .val (.ref a0), .val (.int (5 : Int32)), .val (.int p), .val (.int dr), .val (.int og), .val (.int sm), .val (.ref x_50), .val (.ref a0)] at_229 rfl rfl rfl ?_
                refine Go.goto 274 at_231 (by decide) (by decide) ?_
                refine Go.more (cells' := 12) (slots' := 200) (sf' := []) ?_ (Nat.le_of_ble_eq_true rfl) (Nat.le_of_ble_eq_true rfl) (fun _ q => nomatch q)
                exact law_tail (ws := ([(65 : Int32), (103 : Int32), (101 : Int32), (110 : Int32), (116 : Int32)].set p.toInt.toNat dr)) hw z fm SC hz SF rF UA UH UL va a0 a1 a2 a3 k0 k1 k2 k3 Z0 Z1 Z2 Z3 FK0 SK0 FK1 SK1 FK2 SK2 FK3 SK3 ZV AV XV rfl rfl rfl rfl S_53 (by simp) (Or.inr (Or.inl ⟨rfl, set_same (hc220.trans e_og)⟩))
              · skip
                refine Go.icmpY 228 at_220 (by decide) (by decide) (feq hc220).2 ?_
                refine Go.aconstNull 229 at_228 rfl ?_
                refine Go.astore 231 #[.val (.int p0), .val (.int p1), .val (.int p2), .val (.int p3), .val (.int ki), .val (.ref s_2), .val (.ref a0), .val (.int (5 : Int32)), .val (.int p), .val (.int dr), .val (.int og), .val (.int sm), .val (.ref x_50), .val .null] at_229 rfl rfl rfl ?_
                refine Go.goto 274 at_231 (by decide) (by decide) ?_
                refine Go.more (cells' := 12) (slots' := 200) (sf' := []) ?_ (Nat.le_of_ble_eq_true rfl) (Nat.le_of_ble_eq_true rfl) (fun _ q => nomatch q)
                exact law_tail (ws := ([(65 : Int32), (103 : Int32), (101 : Int32), (110 : Int32), (116 : Int32)].set p.toInt.toNat dr)) hw z fm SC hz SF rF UA UH UL va a0 a1 a2 a3 k0 k1 k2 k3 Z0 Z1 Z2 Z3 FK0 SK0 FK1 SK1 FK2 SK2 FK3 SK3 ZV AV XV rfl rfl rfl rfl S_53 (by simp) (Or.inl ⟨rfl, (set_ne e_og hc220 (by show p.toInt.toNat < 5; omega)), (len_ne (by simp [kw1])), (len_ne (by simp [kw2])), (len_ne (by simp [kw3]))⟩)
            · skip
              refine Go.icmpN 198 at_195 rfl (feq hc195).1 ?_
              refine Go.iload 200 at_198 rfl rfl ?_
              refine Go.iconst 201 (5 : Int32) at_200 rfl rfl ?_
              by_cases hc201 : sm = (5 : Int32)
              · skip
                refine Go.icmpN 204 at_201 rfl (teq hc201).2 ?_
                refine Go.aload 206 at_204 rfl rfl rfl ?_
                refine Go.iconst 207 (0 : Int32) at_206 rfl rfl ?_
                refine Go.iload 209 at_207 rfl rfl ?_
                refine Go.iload 211 at_209 rfl rfl ?_
                refine Go.callS (S := []) 214 [(.ref s_2), (.int (0 : Int32)), (.int p), (.int dr)] at_211 rfl rfl (w48 hw) (w49 hw) (w50 hw) (w51 hw) (by decide) (call_of_go (R := _) (len := 3) (W := 0) (plainFor_of_name pn_3) (fun mid => ef_bld1 mid s_2 p dr z (5 : Int32) (5 : Int32) (5 : Int32) fm p.toInt.toNat 5 5 5 [(65 : Int32), (103 : Int32), (101 : Int32), (110 : Int32), (116 : Int32)] [(65 : Int32), (103 : Int32), (101 : Int32), (110 : Int32), (116 : Int32)] ) (c_bld1 hw s_2 p dr z (5 : Int32) (5 : Int32) (5 : Int32) fm p.toInt.toNat 5 5 5 [(65 : Int32), (103 : Int32), (101 : Int32), (110 : Int32), (116 : Int32)] [(65 : Int32), (103 : Int32), (101 : Int32), (110 : Int32), (116 : Int32)] S_12 b_dr (by unfold CHP; decide) (Nat.le_of_ble_eq_true rfl) (by decide) (by decide) (by decide) (by decide) (by decide) (by decide) (by decide) (by decide) (by decide) (by decide) rfl (Int.toNat_of_nonneg b_p.1).symm (by omega) SC hz SF rF UA UH UL) (w51 hw) (w50 hw) (by decide) (by decide)) (lenOf pd_20 rfl) (Nat.le_of_ble_eq_true rfl) rfl (Nat.le_of_ble_eq_true rfl) (Nat.le_of_ble_eq_true rfl) (fun _ q => nomatch q) (fun v h_55 sf_60 hq => ?_)
                obtain ⟨x_56, rfl, E_57, le_58, S_59⟩ := hq
                refine Go.more (sf' := []) ?_ (Nat.le_refl _) (Nat.le_refl _) (fun _ q => List.mem_append_right _ q)
                show G_law l Z n0 6 80 [] h_55 214 #[.val (.int p0), .val (.int p1), .val (.int p2), .val (.int p3), .val (.int ki), .val (.ref s_2), .val (.ref a0), .val (.int (5 : Int32)), .val (.int p), .val (.int dr), .val (.int og), .val (.int sm), .unset, .unset] [(.ref x_56)]
                refine Go.astore 216 #[.val (.int p0), .val (.int p1), .val (.int p2), .val (.int p3), .val (.int ki), .val (.ref s_2), .val (.ref a0), .val (.int (5 : Int32)), .val (.int p), .val (.int dr), .val (.int og), .val (.int sm), .val (.ref x_56), .unset] at_214 rfl rfl rfl ?_
                refine Go.iload 218 at_216 rfl rfl ?_
                refine Go.iload 220 at_218 rfl rfl ?_
                by_cases hc220 : dr = og
                · skip
                  refine Go.icmpN 223 at_220 rfl (teq hc220).2 ?_
                  refine Go.aload 225 at_223 rfl rfl rfl ?_
                  refine Go.goto 229 at_225 (by decide) (by decide) ?_
                  refine Go.astore 231 #[.val (.int p0), .val (.int p1), .val (.int p2), .val (.int p3), .val (.int ki), .val (.ref s_2), .val (.ref a0), .val (.int (5 : Int32)), .val (.int p), .val (.int dr), .val (.int og), .val (.int sm), .val (.ref x_56), .val (.ref a0)] at_229 rfl rfl rfl ?_
                  refine Go.goto 274 at_231 (by decide) (by decide) ?_
                  refine Go.more (cells' := 12) (slots' := 200) (sf' := []) ?_ (Nat.le_of_ble_eq_true rfl) (Nat.le_of_ble_eq_true rfl) (fun _ q => nomatch q)
                  exact law_tail (ws := ([(65 : Int32), (103 : Int32), (101 : Int32), (110 : Int32), (116 : Int32)].set p.toInt.toNat dr)) hw z fm SC hz SF rF UA UH UL va a0 a1 a2 a3 k0 k1 k2 k3 Z0 Z1 Z2 Z3 FK0 SK0 FK1 SK1 FK2 SK2 FK3 SK3 ZV AV XV rfl rfl rfl rfl S_59 (by simp) (Or.inr (Or.inl ⟨rfl, set_same (hc220.trans e_og)⟩))
                · skip
                  refine Go.icmpY 228 at_220 (by decide) (by decide) (feq hc220).2 ?_
                  refine Go.aconstNull 229 at_228 rfl ?_
                  refine Go.astore 231 #[.val (.int p0), .val (.int p1), .val (.int p2), .val (.int p3), .val (.int ki), .val (.ref s_2), .val (.ref a0), .val (.int (5 : Int32)), .val (.int p), .val (.int dr), .val (.int og), .val (.int sm), .val (.ref x_56), .val .null] at_229 rfl rfl rfl ?_
                  refine Go.goto 274 at_231 (by decide) (by decide) ?_
                  refine Go.more (cells' := 12) (slots' := 200) (sf' := []) ?_ (Nat.le_of_ble_eq_true rfl) (Nat.le_of_ble_eq_true rfl) (fun _ q => nomatch q)
                  exact law_tail (ws := ([(65 : Int32), (103 : Int32), (101 : Int32), (110 : Int32), (116 : Int32)].set p.toInt.toNat dr)) hw z fm SC hz SF rF UA UH UL va a0 a1 a2 a3 k0 k1 k2 k3 Z0 Z1 Z2 Z3 FK0 SK0 FK1 SK1 FK2 SK2 FK3 SK3 ZV AV XV rfl rfl rfl rfl S_59 (by simp) (Or.inl ⟨rfl, (set_ne e_og hc220 (by show p.toInt.toNat < 5; omega)), (len_ne (by simp [kw1])), (len_ne (by simp [kw2])), (len_ne (by simp [kw3]))⟩)
              · skip
                refine Go.icmpY 234 at_201 (by decide) (by decide) (feq hc201).2 ?_
                refine Go.iload 236 at_234 rfl rfl ?_
                refine Go.bipush 238 (6 : Int32) at_236 rfl rfl ?_
                by_cases hc238 : sm = (6 : Int32)
                · skip
                  refine Go.icmpN 241 at_238 rfl (teq hc238).2 ?_
                  refine Go.aload 243 at_241 rfl rfl rfl ?_
                  refine Go.iconst 244 (-1 : Int32) at_243 rfl rfl ?_
                  refine Go.iload 246 at_244 rfl rfl ?_
                  refine Go.iload 248 at_246 rfl rfl ?_
                  refine Go.callS (S := []) 251 [(.ref s_2), (.int (-1 : Int32)), (.int p), (.int dr)] at_248 rfl rfl (w48 hw) (w49 hw) (w50 hw) (w51 hw) (by decide) (call_of_go (R := _) (len := 3) (W := 0) (plainFor_of_name pn_3) (fun mid => ef_bld0 mid s_2 p dr z (5 : Int32) (4 : Int32) (4 : Int32) fm p.toInt.toNat 5 4 4 [(65 : Int32), (103 : Int32), (101 : Int32), (110 : Int32), (116 : Int32)] [(65 : Int32), (103 : Int32), (101 : Int32), (110 : Int32)] ) (c_bld0 hw s_2 p dr z (5 : Int32) (4 : Int32) (4 : Int32) fm p.toInt.toNat 5 4 4 [(65 : Int32), (103 : Int32), (101 : Int32), (110 : Int32), (116 : Int32)] [(65 : Int32), (103 : Int32), (101 : Int32), (110 : Int32)] S_12 b_dr (by unfold CHP; decide) (Nat.le_of_ble_eq_true rfl) (by decide) (by decide) (by decide) (by decide) (by decide) (by decide) (by decide) (by decide) (by decide) (by decide) rfl SC hz SF rF UA UH UL) (w51 hw) (w50 hw) (by decide) (by decide)) (lenOf pd_20 rfl) (Nat.le_of_ble_eq_true rfl) rfl (Nat.le_of_ble_eq_true rfl) (Nat.le_of_ble_eq_true rfl) (fun _ q => nomatch q) (fun v h_61 sf_66 hq => ?_)
                  obtain ⟨x_62, rfl, E_63, le_64, S_65⟩ := hq
                  refine Go.more (sf' := []) ?_ (Nat.le_refl _) (Nat.le_refl _) (fun _ q => List.mem_append_right _ q)
                  show G_law l Z n0 6 80 [] h_61 251 #[.val (.int p0), .val (.int p1), .val (.int p2), .val (.int p3), .val (.int ki), .val (.ref s_2), .val (.ref a0), .val (.int (5 : Int32)), .val (.int p), .val (.int dr), .val (.int og), .val (.int sm), .unset, .unset] [(.ref x_62)]
                  refine Go.astore 253 #[.val (.int p0), .val (.int p1), .val (.int p2), .val (.int p3), .val (.int ki), .val (.ref s_2), .val (.ref a0), .val (.int (5 : Int32)), .val (.int p), .val (.int dr), .val (.int og), .val (.int sm), .val (.ref x_62), .unset] at_251 rfl rfl rfl ?_
                  refine Go.aconstNull 254 at_253 rfl ?_
                  refine Go.astore 256 #[.val (.int p0), .val (.int p1), .val (.int p2), .val (.int p3), .val (.int ki), .val (.ref s_2), .val (.ref a0), .val (.int (5 : Int32)), .val (.int p), .val (.int dr), .val (.int og), .val (.int sm), .val (.ref x_62), .val .null] at_254 rfl rfl rfl ?_
                  refine Go.goto 274 at_256 (by decide) (by decide) ?_
                  refine Go.more (cells' := 12) (slots' := 200) (sf' := []) ?_ (Nat.le_of_ble_eq_true rfl) (Nat.le_of_ble_eq_true rfl) (fun _ q => nomatch q)
                  exact law_tail (ws := [(65 : Int32), (103 : Int32), (101 : Int32), (110 : Int32)]) hw z fm SC hz SF rF UA UH UL va a0 a1 a2 a3 k0 k1 k2 k3 Z0 Z1 Z2 Z3 FK0 SK0 FK1 SK1 FK2 SK2 FK3 SK3 ZV AV XV rfl rfl rfl rfl S_65 (Nat.le_of_ble_eq_true rfl) (Or.inl ⟨rfl, (by decide), (by decide), (by decide), (by decide)⟩)
                · skip
                  refine Go.icmpY 259 at_238 (by decide) (by decide) (feq hc238).2 ?_
                  refine Go.aload 261 at_259 rfl rfl rfl ?_
                  refine Go.iconst 262 (1 : Int32) at_261 rfl rfl ?_
                  refine Go.iload 264 at_262 rfl rfl ?_
                  refine Go.iload 266 at_264 rfl rfl ?_
                  refine Go.callS (S := []) 269 [(.ref s_2), (.int (1 : Int32)), (.int p), (.int dr)] at_266 rfl rfl (w48 hw) (w49 hw) (w50 hw) (w51 hw) (by decide) (call_of_go (R := _) (len := 3) (W := 0) (plainFor_of_name pn_3) (fun mid => ef_bld2 mid s_2 p dr z (5 : Int32) (6 : Int32) (5 : Int32) fm p.toInt.toNat 5 6 5 [(65 : Int32), (103 : Int32), (101 : Int32), (110 : Int32), (116 : Int32)] [(65 : Int32), (103 : Int32), (101 : Int32), (110 : Int32), (116 : Int32), (0 : Int32)] ) (c_bld2 hw s_2 p dr z (5 : Int32) (6 : Int32) (5 : Int32) fm p.toInt.toNat 5 6 5 [(65 : Int32), (103 : Int32), (101 : Int32), (110 : Int32), (116 : Int32)] [(65 : Int32), (103 : Int32), (101 : Int32), (110 : Int32), (116 : Int32), (0 : Int32)] S_12 b_dr (by unfold CHP; decide) (Nat.le_of_ble_eq_true rfl) (by decide) (by decide) (by decide) (by decide) (by decide) (by decide) (by decide) (by decide) (by decide) (by decide) rfl (by decide) (by decide) SC hz SF rF UA UH UL) (w51 hw) (w50 hw) (by decide) (by decide)) (lenOf pd_20 rfl) (Nat.le_of_ble_eq_true rfl) rfl (Nat.le_of_ble_eq_true rfl) (Nat.le_of_ble_eq_true rfl) (fun _ q => nomatch q) (fun v h_67 sf_72 hq => ?_)
                  obtain ⟨x_68, rfl, E_69, le_70, S_71⟩ := hq
                  refine Go.more (sf' := []) ?_ (Nat.le_refl _) (Nat.le_refl _) (fun _ q => List.mem_append_right _ q)
                  show G_law l Z n0 6 80 [] h_67 269 #[.val (.int p0), .val (.int p1), .val (.int p2), .val (.int p3), .val (.int ki), .val (.ref s_2), .val (.ref a0), .val (.int (5 : Int32)), .val (.int p), .val (.int dr), .val (.int og), .val (.int sm), .unset, .unset] [(.ref x_68)]
                  refine Go.astore 271 #[.val (.int p0), .val (.int p1), .val (.int p2), .val (.int p3), .val (.int ki), .val (.ref s_2), .val (.ref a0), .val (.int (5 : Int32)), .val (.int p), .val (.int dr), .val (.int og), .val (.int sm), .val (.ref x_68), .unset] at_269 rfl rfl rfl ?_
                  refine Go.aconstNull 272 at_271 rfl ?_
                  refine Go.astore 274 #[.val (.int p0), .val (.int p1), .val (.int p2), .val (.int p3), .val (.int ki), .val (.ref s_2), .val (.ref a0), .val (.int (5 : Int32)), .val (.int p), .val (.int dr), .val (.int og), .val (.int sm), .val (.ref x_68), .val .null] at_272 rfl rfl rfl ?_
                  refine Go.more (cells' := 12) (slots' := 200) (sf' := []) ?_ (Nat.le_of_ble_eq_true rfl) (Nat.le_of_ble_eq_true rfl) (fun _ q => nomatch q)
                  exact law_tail (ws := [(65 : Int32), (103 : Int32), (101 : Int32), (110 : Int32), (116 : Int32), dr]) hw z fm SC hz SF rF UA UH UL va a0 a1 a2 a3 k0 k1 k2 k3 Z0 Z1 Z2 Z3 FK0 SK0 FK1 SK1 FK2 SK2 FK3 SK3 ZV AV XV rfl rfl rfl rfl S_71 (Nat.le_of_ble_eq_true rfl) (Or.inl ⟨rfl, (by simp [kw0]), (by simp [kw1]), (by simp [kw2]), (by simp [kw3])⟩)
  · skip
    refine Go.ifY 22 at_7 (by decide) (by decide) (feq hc7).2 ?_
    refine Go.iload 24 at_22 rfl rfl ?_
    refine Go.iconst 25 (1 : Int32) at_24 rfl rfl ?_
    by_cases hc25 : ki = (1 : Int32)
    · skip
      refine Go.icmpN 28 at_25 rfl (teq hc25).2 ?_
      refine Go.ldcL (vs := [(.int (78 : Int32)), (.int (117 : Int32)), (.int (109 : Int32)), (.int (98 : Int32)), (.int (101 : Int32)), (.int (114 : Int32))]) (z := (6 : Int32)) 24 30 at_28 rfl (w130 hw) (wS hw) (List.mem_of_getElem? (i := 1) rfl) ⟨by decide, rfl⟩ (by decide) (by decide) (by decide) (by decide) (Nat.le_of_ble_eq_true rfl) (Nat.le_of_ble_eq_true rfl) (fun h_73 s_74 b_75 k_76 E_77 A_78 C_79 V_80 B_81 ne_82 => ?_)
      have B_83 : Ary Z h_73 b_75 .byte [(.int (78 : Int32)), (.int (117 : Int32)), (.int (109 : Int32)), (.int (98 : Int32)), (.int (101 : Int32)), (.int (114 : Int32))] := Ary.ofArv B_81 rfl (by decide)
      have S_84 : Str Z h_73 s_74 [(78 : Int32), (117 : Int32), (109 : Int32), (98 : Int32), (101 : Int32), (114 : Int32)] := ⟨_, A_78, C_79, V_80, B_83, by unfold Lat; decide⟩
      show G_law l Z n0 2 28 [] h_73 30 #[.val (.int p0), .val (.int p1), .val (.int p2), .val (.int p3), .val (.int ki), .unset, .unset, .unset, .unset, .unset, .unset, .unset, .unset, .unset] [(.ref s_74)]
      refine Go.astore 32 #[.val (.int p0), .val (.int p1), .val (.int p2), .val (.int p3), .val (.int ki), .val (.ref s_74), .unset, .unset, .unset, .unset, .unset, .unset, .unset, .unset] at_30 rfl rfl rfl ?_
      refine Go.getS 35 at_32 rfl (w131 hw) Via.refl Z1 ?_
      refine Go.astore 37 #[.val (.int p0), .val (.int p1), .val (.int p2), .val (.int p3), .val (.int ki), .val (.ref s_74), .val (.ref a1), .unset, .unset, .unset, .unset, .unset, .unset, .unset] at_35 rfl rfl rfl ?_
      refine Go.goto 67 at_37 (by decide) (by decide) ?_
      refine Go.aload 69 at_67 rfl rfl rfl ?_
      refine Go.old fun o_85 _ => ?_
      refine Go.callV (S := []) (a := s_74) 72 [] at_69 rfl rfl (w11 hw) (w12 hw) (w14 hw) (w13 hw) (fun _ q => notFace_of_selects (args := #[]) (mvT q (w14 hw))) (by decide) A_78 (strLen (W := 0) (hln hw) (w2 hw) S_84 (by decide) o_85 SC hz (by decide) (by decide)) (lenOf pd_13 rfl) (Nat.le_of_ble_eq_true rfl) rfl (Nat.le_of_ble_eq_true rfl) (Nat.le_of_ble_eq_true rfl) (fun _ q => q) (fun v h_86 sf_87 hq => ?_)
      obtain ⟨rfl, rfl⟩ := hq
      refine Go.more (sf' := []) ?_ (Nat.le_refl _) (Nat.le_refl _) (fun _ q => List.mem_append_right _ q)
      show G_law l Z n0 2 28 [] h_73 72 #[.val (.int p0), .val (.int p1), .val (.int p2), .val (.int p3), .val (.int ki), .val (.ref s_74), .val (.ref a1), .unset, .unset, .unset, .unset, .unset, .unset, .unset] [(.int (Int32.ofNat ([(78 : Int32), (117 : Int32), (109 : Int32), (98 : Int32), (101 : Int32), (114 : Int32)]).length))]
      rw [show (Int32.ofNat ([(78 : Int32), (117 : Int32), (109 : Int32), (98 : Int32), (101 : Int32), (114 : Int32)]).length) = (6 : Int32) from by decide]
      show G_law l Z n0 2 28 [] h_73 72 #[.val (.int p0), .val (.int p1), .val (.int p2), .val (.int p3), .val (.int ki), .val (.ref s_74), .val (.ref a1), .unset, .unset, .unset, .unset, .unset, .unset, .unset] [(.int (6 : Int32))]
      refine Go.istore 74 #[.val (.int p0), .val (.int p1), .val (.int p2), .val (.int p3), .val (.int ki), .val (.ref s_74), .val (.ref a1), .val (.int (6 : Int32)), .unset, .unset, .unset, .unset, .unset, .unset] at_72 rfl rfl ?_
      refine Go.iloadN 75 at_74 rfl rfl ?_
      refine Go.ldcI 77 at_75 rfl (w24 hw) ?_
      refine Go.iand 78 at_77 rfl ?_
      refine Go.iload 80 at_78 rfl rfl ?_
      refine Go.irem 81 at_80 rfl (by decide) ?_
      obtain ⟨p, e_p⟩ : ∃ y_ : Int32, y_ = ((p2 &&& (2147483647 : Int32)) % (6 : Int32)) := ⟨_, rfl⟩
      have b_p : 0 ≤ p.toInt ∧ p.toInt < 6 := by rw [e_p]; exact (fun q => ⟨q.1, q.2.1⟩) ((c_iremV (p2 &&& (2147483647 : Int32)) (6 : Int32)).1 (c_and p2 2147483647 (by decide)).1 (by decide))
      rw [← e_p]
      show G_law l Z n0 2 28 [] h_73 81 #[.val (.int p0), .val (.int p1), .val (.int p2), .val (.int p3), .val (.int ki), .val (.ref s_74), .val (.ref a1), .val (.int (6 : Int32)), .unset, .unset, .unset, .unset, .unset, .unset] [(.int p)]
      refine Go.istore 83 #[.val (.int p0), .val (.int p1), .val (.int p2), .val (.int p3), .val (.int ki), .val (.ref s_74), .val (.ref a1), .val (.int (6 : Int32)), .val (.int p), .unset, .unset, .unset, .unset, .unset] at_81 rfl rfl ?_
      refine Go.iloadN 84 at_83 rfl rfl ?_
      refine Go.ldcI 86 at_84 rfl (w25 hw) ?_
      refine Go.iand 87 at_86 rfl ?_
      refine Go.i2c 88 at_87 rfl ?_
      obtain ⟨dr, e_dr⟩ : ∃ y_ : Int32, y_ = (chr (p3 &&& (65535 : Int32))) := ⟨_, rfl⟩
      have b_dr : CHP dr := by rw [e_dr]; exact chp_chr _
      rw [← e_dr]
      show G_law l Z n0 2 28 [] h_73 88 #[.val (.int p0), .val (.int p1), .val (.int p2), .val (.int p3), .val (.int ki), .val (.ref s_74), .val (.ref a1), .val (.int (6 : Int32)), .val (.int p), .unset, .unset, .unset, .unset, .unset] [(.int dr)]
      refine Go.istore 90 #[.val (.int p0), .val (.int p1), .val (.int p2), .val (.int p3), .val (.int ki), .val (.ref s_74), .val (.ref a1), .val (.int (6 : Int32)), .val (.int p), .val (.int dr), .unset, .unset, .unset, .unset] at_88 rfl rfl ?_
      refine Go.aload 92 at_90 rfl rfl rfl ?_
      refine Go.iload 94 at_92 rfl rfl ?_
      refine Go.old fun o_88 _ => ?_
      refine Go.callV (S := []) (a := s_74) 97 [(.int p)] at_94 rfl rfl (w26 hw) (w27 hw) (w29 hw) (w28 hw) (fun _ q => notFace_of_selects (args := #[]) (mvT q (w29 hw))) (by decide) A_78 (strCh (W := 0) (hch hw) (w2 hw) S_84 (by decide) o_88 SC hz SF rF p.toInt.toNat (Int.toNat_of_nonneg b_p.1).symm (by show p.toInt.toNat < 6; omega) (by decide) (by decide)) (lenOf pd_12 rfl) (Nat.le_of_ble_eq_true rfl) rfl (Nat.le_of_ble_eq_true rfl) (Nat.le_of_ble_eq_true rfl) (fun _ q => q) (fun v h_89 sf_90 hq => ?_)
      obtain ⟨rfl, rfl⟩ := hq
      refine Go.more (sf' := []) ?_ (Nat.le_refl _) (Nat.le_refl _) (fun _ q => List.mem_append_right _ q)
      show G_law l Z n0 2 28 [] h_73 97 #[.val (.int p0), .val (.int p1), .val (.int p2), .val (.int p3), .val (.int ki), .val (.ref s_74), .val (.ref a1), .val (.int (6 : Int32)), .val (.int p), .val (.int dr), .unset, .unset, .unset, .unset] [(.int (([(78 : Int32), (117 : Int32), (109 : Int32), (98 : Int32), (101 : Int32), (114 : Int32)]).getD p.toInt.toNat 0))]
      obtain ⟨og, e_og⟩ : ∃ y_ : Int32, y_ = (([(78 : Int32), (117 : Int32), (109 : Int32), (98 : Int32), (101 : Int32), (114 : Int32)]).getD p.toInt.toNat 0) := ⟨_, rfl⟩
      have b_og : CHP og := by rw [e_og]; exact kw_chp (by unfold CHP; decide) _
      rw [← e_og]
      show G_law l Z n0 2 28 [] h_73 97 #[.val (.int p0), .val (.int p1), .val (.int p2), .val (.int p3), .val (.int ki), .val (.ref s_74), .val (.ref a1), .val (.int (6 : Int32)), .val (.int p), .val (.int dr), .unset, .unset, .unset, .unset] [(.int og)]
      refine Go.istore 99 #[.val (.int p0), .val (.int p1), .val (.int p2), .val (.int p3), .val (.int ki), .val (.ref s_74), .val (.ref a1), .val (.int (6 : Int32)), .val (.int p), .val (.int dr), .val (.int og), .unset, .unset, .unset] at_97 rfl rfl ?_
      refine Go.iloadN 100 at_99 rfl rfl ?_
      refine Go.bipush 102 (7 : Int32) at_100 rfl rfl ?_
      refine Go.iand 103 at_102 rfl ?_
      obtain ⟨sm, e_sm⟩ : ∃ y_ : Int32, y_ = (p0 &&& (7 : Int32)) := ⟨_, rfl⟩
      rw [← e_sm]
      show G_law l Z n0 2 28 [] h_73 103 #[.val (.int p0), .val (.int p1), .val (.int p2), .val (.int p3), .val (.int ki), .val (.ref s_74), .val (.ref a1), .val (.int (6 : Int32)), .val (.int p), .val (.int dr), .val (.int og), .unset, .unset, .unset] [(.int sm)]
      refine Go.istore 105 #[.val (.int p0), .val (.int p1), .val (.int p2), .val (.int p3), .val (.int ki), .val (.ref s_74), .val (.ref a1), .val (.int (6 : Int32)), .val (.int p), .val (.int dr), .val (.int og), .val (.int sm), .unset, .unset] at_103 rfl rfl ?_
      refine Go.iload 107 at_105 rfl rfl ?_
      by_cases hc107 : sm = (0 : Int32)
      · skip
        refine Go.ifN 110 at_107 rfl (teq hc107).2 ?_
        refine Go.aload 112 at_110 rfl rfl rfl ?_
        refine Go.iconst 113 (0 : Int32) at_112 rfl rfl ?_
        refine Go.iload 115 at_113 rfl rfl ?_
        refine Go.iload 117 at_115 rfl rfl ?_
        refine Go.bipush 119 (32 : Int32) at_117 rfl rfl ?_
        refine Go.ixor 120 at_119 rfl ?_
        refine Go.i2c 121 at_120 rfl ?_
        refine Go.callS (S := []) 124 [(.ref s_74), (.int (0 : Int32)), (.int p), (.int (chr (og ^^^ (32 : Int32))))] at_121 rfl rfl (w48 hw) (w49 hw) (w50 hw) (w51 hw) (by decide) (call_of_go (R := _) (len := 3) (W := 0) (plainFor_of_name pn_3) (fun mid => ef_bld1 mid s_74 p (chr (og ^^^ (32 : Int32))) z (6 : Int32) (6 : Int32) (6 : Int32) fm p.toInt.toNat 6 6 6 [(78 : Int32), (117 : Int32), (109 : Int32), (98 : Int32), (101 : Int32), (114 : Int32)] [(78 : Int32), (117 : Int32), (109 : Int32), (98 : Int32), (101 : Int32), (114 : Int32)] ) (c_bld1 hw s_74 p (chr (og ^^^ (32 : Int32))) z (6 : Int32) (6 : Int32) (6 : Int32) fm p.toInt.toNat 6 6 6 [(78 : Int32), (117 : Int32), (109 : Int32), (98 : Int32), (101 : Int32), (114 : Int32)] [(78 : Int32), (117 : Int32), (109 : Int32), (98 : Int32), (101 : Int32), (114 : Int32)] S_84 (chp_chr _) (by unfold CHP; decide) (Nat.le_of_ble_eq_true rfl) (by decide) (by decide) (by decide) (by decide) (by decide) (by decide) (by decide) (by decide) (by decide) (by decide) rfl (Int.toNat_of_nonneg b_p.1).symm (by omega) SC hz SF rF UA UH UL) (w51 hw) (w50 hw) (by decide) (by decide)) (lenOf pd_20 rfl) (Nat.le_of_ble_eq_true rfl) rfl (Nat.le_of_ble_eq_true rfl) (Nat.le_of_ble_eq_true rfl) (fun _ q => nomatch q) (fun v h_91 sf_96 hq => ?_)
        obtain ⟨x_92, rfl, E_93, le_94, S_95⟩ := hq
        refine Go.more (sf' := []) ?_ (Nat.le_refl _) (Nat.le_refl _) (fun _ q => List.mem_append_right _ q)
        show G_law l Z n0 6 84 [] h_91 124 #[.val (.int p0), .val (.int p1), .val (.int p2), .val (.int p3), .val (.int ki), .val (.ref s_74), .val (.ref a1), .val (.int (6 : Int32)), .val (.int p), .val (.int dr), .val (.int og), .val (.int sm), .unset, .unset] [(.ref x_92)]
        refine Go.astore 126 #[.val (.int p0), .val (.int p1), .val (.int p2), .val (.int p3), .val (.int ki), .val (.ref s_74), .val (.ref a1), .val (.int (6 : Int32)), .val (.int p), .val (.int dr), .val (.int og), .val (.int sm), .val (.ref x_92), .unset] at_124 rfl rfl rfl ?_
        refine Go.aconstNull 127 at_126 rfl ?_
        refine Go.astore 129 #[.val (.int p0), .val (.int p1), .val (.int p2), .val (.int p3), .val (.int ki), .val (.ref s_74), .val (.ref a1), .val (.int (6 : Int32)), .val (.int p), .val (.int dr), .val (.int og), .val (.int sm), .val (.ref x_92), .val .null] at_127 rfl rfl rfl ?_
        refine Go.goto 274 at_129 (by decide) (by decide) ?_
        refine Go.more (cells' := 12) (slots' := 200) (sf' := []) ?_ (Nat.le_of_ble_eq_true rfl) (Nat.le_of_ble_eq_true rfl) (fun _ q => nomatch q)
        exact law_tail (ws := ([(78 : Int32), (117 : Int32), (109 : Int32), (98 : Int32), (101 : Int32), (114 : Int32)].set p.toInt.toNat (chr (og ^^^ (32 : Int32))))) hw z fm SC hz SF rF UA UH UL va a0 a1 a2 a3 k0 k1 k2 k3 Z0 Z1 Z2 Z3 FK0 SK0 FK1 SK1 FK2 SK2 FK3 SK3 ZV AV XV rfl rfl rfl rfl S_95 (by simp) (Or.inl ⟨rfl, (len_ne (by simp [kw0])), (by rw [e_og]; exact flip1 (by omega)), (len_ne (by simp [kw2])), (len_ne (by simp [kw3]))⟩)
      · skip
        refine Go.ifY 132 at_107 (by decide) (by decide) (feq hc107).2 ?_
        refine Go.iload 134 at_132 rfl rfl ?_
        refine Go.iconst 135 (1 : Int32) at_134 rfl rfl ?_
        by_cases hc135 : sm = (1 : Int32)
        · skip
          refine Go.icmpN 138 at_135 rfl (teq hc135).2 ?_
          refine Go.iload 140 at_138 rfl rfl ?_
          refine Go.callS (S := []) 143 [(.int dr)] at_140 rfl rfl (w118 hw) (w119 hw) (w1 hw) (w120 hw) (by decide) (call_of_go (R := _) (len := 3) (W := 0) (plainFor_of_name pn_1) (fun mid => ef_valueof mid dr z ) (c_valueof hw dr z b_dr SC hz UA UH UL) (w120 hw) (w1 hw) (by decide) (by decide)) (lenOf pd_21 rfl) (Nat.le_of_ble_eq_true rfl) rfl (Nat.le_of_ble_eq_true rfl) (Nat.le_of_ble_eq_true rfl) (fun _ q => nomatch q) (fun v h_97 sf_102 hq => ?_)
          obtain ⟨x_98, rfl, E_99, le_100, S_101⟩ := hq
          refine Go.more (sf' := []) ?_ (Nat.le_refl _) (Nat.le_refl _) (fun _ q => List.mem_append_right _ q)
          show G_law l Z n0 4 34 [] h_97 143 #[.val (.int p0), .val (.int p1), .val (.int p2), .val (.int p3), .val (.int ki), .val (.ref s_74), .val (.ref a1), .val (.int (6 : Int32)), .val (.int p), .val (.int dr), .val (.int og), .val (.int sm), .unset, .unset] [(.ref x_98)]
          refine Go.astore 145 #[.val (.int p0), .val (.int p1), .val (.int p2), .val (.int p3), .val (.int ki), .val (.ref s_74), .val (.ref a1), .val (.int (6 : Int32)), .val (.int p), .val (.int dr), .val (.int og), .val (.int sm), .val (.ref x_98), .unset] at_143 rfl rfl rfl ?_
          refine Go.aconstNull 146 at_145 rfl ?_
          refine Go.astore 148 #[.val (.int p0), .val (.int p1), .val (.int p2), .val (.int p3), .val (.int ki), .val (.ref s_74), .val (.ref a1), .val (.int (6 : Int32)), .val (.int p), .val (.int dr), .val (.int og), .val (.int sm), .val (.ref x_98), .val .null] at_146 rfl rfl rfl ?_
          refine Go.goto 274 at_148 (by decide) (by decide) ?_
          refine Go.more (cells' := 12) (slots' := 200) (sf' := []) ?_ (Nat.le_of_ble_eq_true rfl) (Nat.le_of_ble_eq_true rfl) (fun _ q => nomatch q)
          exact law_tail (ws := [dr]) hw z fm SC hz SF rF UA UH UL va a0 a1 a2 a3 k0 k1 k2 k3 Z0 Z1 Z2 Z3 FK0 SK0 FK1 SK1 FK2 SK2 FK3 SK3 ZV AV XV rfl rfl rfl rfl S_101 (Nat.le_of_ble_eq_true rfl) (Or.inl ⟨rfl, (by simp [kw0]), (by simp [kw1]), (by simp [kw2]), (by simp [kw3])⟩)
        · skip
          refine Go.icmpY 151 at_135 (by decide) (by decide) (feq hc135).2 ?_
          refine Go.iload 153 at_151 rfl rfl ?_
          refine Go.iconst 154 (2 : Int32) at_153 rfl rfl ?_
          by_cases hc154 : sm = (2 : Int32)
          · skip
            refine Go.icmpN 157 at_154 rfl (teq hc154).2 ?_
            refine Go.ldcL (vs := []) (z := (0 : Int32)) 0 159 at_157 rfl (w115 hw) (wS hw) (List.mem_of_getElem? (i := 4) rfl) ⟨by decide, rfl⟩ (by decide) (by decide) (by decide) (by decide) (Nat.le_of_ble_eq_true rfl) (Nat.le_of_ble_eq_true rfl) (fun h_103 s_104 b_105 k_106 E_107 A_108 C_109 V_110 B_111 ne_112 => ?_)
            have B_113 : Ary Z h_103 b_105 .byte [] := Ary.ofArv B_111 rfl (by decide)
            have S_114 : Str Z h_103 s_104 [] := ⟨_, A_108, C_109, V_110, B_113, by unfold Lat; decide⟩
            show G_law l Z n0 4 32 [] h_103 159 #[.val (.int p0), .val (.int p1), .val (.int p2), .val (.int p3), .val (.int ki), .val (.ref s_74), .val (.ref a1), .val (.int (6 : Int32)), .val (.int p), .val (.int dr), .val (.int og), .val (.int sm), .unset, .unset] [(.ref s_104)]
            refine Go.astore 161 #[.val (.int p0), .val (.int p1), .val (.int p2), .val (.int p3), .val (.int ki), .val (.ref s_74), .val (.ref a1), .val (.int (6 : Int32)), .val (.int p), .val (.int dr), .val (.int og), .val (.int sm), .val (.ref s_104), .unset] at_159 rfl rfl rfl ?_
            refine Go.aconstNull 162 at_161 rfl ?_
            refine Go.astore 164 #[.val (.int p0), .val (.int p1), .val (.int p2), .val (.int p3), .val (.int ki), .val (.ref s_74), .val (.ref a1), .val (.int (6 : Int32)), .val (.int p), .val (.int dr), .val (.int og), .val (.int sm), .val (.ref s_104), .val .null] at_162 rfl rfl rfl ?_
            refine Go.goto 274 at_164 (by decide) (by decide) ?_
            refine Go.more (cells' := 12) (slots' := 200) (sf' := []) ?_ (Nat.le_of_ble_eq_true rfl) (Nat.le_of_ble_eq_true rfl) (fun _ q => nomatch q)
            exact law_tail (ws := []) hw z fm SC hz SF rF UA UH UL va a0 a1 a2 a3 k0 k1 k2 k3 Z0 Z1 Z2 Z3 FK0 SK0 FK1 SK1 FK2 SK2 FK3 SK3 ZV AV XV rfl rfl rfl rfl (Gst.ofStr S_114) (Nat.le_of_ble_eq_true rfl) (Or.inl ⟨rfl, (by simp [kw0]), (by simp [kw1]), (by simp [kw2]), (by simp [kw3])⟩)
          · skip
            refine Go.icmpY 167 at_154 (by decide) (by decide) (feq hc154).2 ?_
            refine Go.iload 169 at_167 rfl rfl ?_
            refine Go.iconst 170 (3 : Int32) at_169 rfl rfl ?_
            by_cases hc170 : sm = (3 : Int32)
            · skip
              refine Go.icmpN 173 at_170 rfl (teq hc170).2 ?_
              refine Go.aload 175 at_173 rfl rfl rfl ?_
              refine Go.iconst 176 (0 : Int32) at_175 rfl rfl ?_
              refine Go.iload 178 at_176 rfl rfl ?_
              refine Go.iload 180 at_178 rfl rfl ?_
              refine Go.callS (S := []) 183 [(.ref s_74), (.int (0 : Int32)), (.int p), (.int og)] at_180 rfl rfl (w48 hw) (w49 hw) (w50 hw) (w51 hw) (by decide) (call_of_go (R := _) (len := 3) (W := 0) (plainFor_of_name pn_3) (fun mid => ef_bld1 mid s_74 p og z (6 : Int32) (6 : Int32) (6 : Int32) fm p.toInt.toNat 6 6 6 [(78 : Int32), (117 : Int32), (109 : Int32), (98 : Int32), (101 : Int32), (114 : Int32)] [(78 : Int32), (117 : Int32), (109 : Int32), (98 : Int32), (101 : Int32), (114 : Int32)] ) (c_bld1 hw s_74 p og z (6 : Int32) (6 : Int32) (6 : Int32) fm p.toInt.toNat 6 6 6 [(78 : Int32), (117 : Int32), (109 : Int32), (98 : Int32), (101 : Int32), (114 : Int32)] [(78 : Int32), (117 : Int32), (109 : Int32), (98 : Int32), (101 : Int32), (114 : Int32)] S_84 b_og (by unfold CHP; decide) (Nat.le_of_ble_eq_true rfl) (by decide) (by decide) (by decide) (by decide) (by decide) (by decide) (by decide) (by decide) (by decide) (by decide) rfl (Int.toNat_of_nonneg b_p.1).symm (by omega) SC hz SF rF UA UH UL) (w51 hw) (w50 hw) (by decide) (by decide)) (lenOf pd_20 rfl) (Nat.le_of_ble_eq_true rfl) rfl (Nat.le_of_ble_eq_true rfl) (Nat.le_of_ble_eq_true rfl) (fun _ q => nomatch q) (fun v h_115 sf_120 hq => ?_)
              obtain ⟨x_116, rfl, E_117, le_118, S_119⟩ := hq
              refine Go.more (sf' := []) ?_ (Nat.le_refl _) (Nat.le_refl _) (fun _ q => List.mem_append_right _ q)
              show G_law l Z n0 6 84 [] h_115 183 #[.val (.int p0), .val (.int p1), .val (.int p2), .val (.int p3), .val (.int ki), .val (.ref s_74), .val (.ref a1), .val (.int (6 : Int32)), .val (.int p), .val (.int dr), .val (.int og), .val (.int sm), .unset, .unset] [(.ref x_116)]
              refine Go.astore 185 #[.val (.int p0), .val (.int p1), .val (.int p2), .val (.int p3), .val (.int ki), .val (.ref s_74), .val (.ref a1), .val (.int (6 : Int32)), .val (.int p), .val (.int dr), .val (.int og), .val (.int sm), .val (.ref x_116), .unset] at_183 rfl rfl rfl ?_
              refine Go.aload 187 at_185 rfl rfl rfl ?_
              refine Go.astore 189 #[.val (.int p0), .val (.int p1), .val (.int p2), .val (.int p3), .val (.int ki), .val (.ref s_74), .val (.ref a1), .val (.int (6 : Int32)), .val (.int p), .val (.int dr), .val (.int og), .val (.int sm), .val (.ref x_116), .val (.ref a1)] at_187 rfl rfl rfl ?_
              refine Go.goto 274 at_189 (by decide) (by decide) ?_
              refine Go.more (cells' := 12) (slots' := 200) (sf' := []) ?_ (Nat.le_of_ble_eq_true rfl) (Nat.le_of_ble_eq_true rfl) (fun _ q => nomatch q)
              exact law_tail (ws := ([(78 : Int32), (117 : Int32), (109 : Int32), (98 : Int32), (101 : Int32), (114 : Int32)].set p.toInt.toNat og)) hw z fm SC hz SF rF UA UH UL va a0 a1 a2 a3 k0 k1 k2 k3 Z0 Z1 Z2 Z3 FK0 SK0 FK1 SK1 FK2 SK2 FK3 SK3 ZV AV XV rfl rfl rfl rfl S_119 (by simp) (Or.inr (Or.inr (Or.inl ⟨rfl, set_same e_og⟩)))
            · skip
              refine Go.icmpY 192 at_170 (by decide) (by decide) (feq hc170).2 ?_
              refine Go.iload 194 at_192 rfl rfl ?_
              refine Go.iconst 195 (4 : Int32) at_194 rfl rfl ?_
              by_cases hc195 : sm = (4 : Int32)
              · skip
                refine Go.icmpY 204 at_195 (by decide) (by decide) (teq hc195).1 ?_
                refine Go.aload 206 at_204 rfl rfl rfl ?_
                refine Go.iconst 207 (0 : Int32) at_206 rfl rfl ?_
                refine Go.iload 209 at_207 rfl rfl ?_
                refine Go.iload 211 at_209 rfl rfl ?_
                refine Go.callS (S := []) 214 [(.ref s_74), (.int (0 : Int32)), (.int p), (.int dr)] at_211 rfl rfl (w48 hw) (w49 hw) (w50 hw) (w51 hw) (by decide) (call_of_go (R := _) (len := 3) (W := 0) (plainFor_of_name pn_3) (fun mid => ef_bld1 mid s_74 p dr z (6 : Int32) (6 : Int32) (6 : Int32) fm p.toInt.toNat 6 6 6 [(78 : Int32), (117 : Int32), (109 : Int32), (98 : Int32), (101 : Int32), (114 : Int32)] [(78 : Int32), (117 : Int32), (109 : Int32), (98 : Int32), (101 : Int32), (114 : Int32)] ) (c_bld1 hw s_74 p dr z (6 : Int32) (6 : Int32) (6 : Int32) fm p.toInt.toNat 6 6 6 [(78 : Int32), (117 : Int32), (109 : Int32), (98 : Int32), (101 : Int32), (114 : Int32)] [(78 : Int32), (117 : Int32), (109 : Int32), (98 : Int32), (101 : Int32), (114 : Int32)] S_84 b_dr (by unfold CHP; decide) (Nat.le_of_ble_eq_true rfl) (by decide) (by decide) (by decide) (by decide) (by decide) (by decide) (by decide) (by decide) (by decide) (by decide) rfl (Int.toNat_of_nonneg b_p.1).symm (by omega) SC hz SF rF UA UH UL) (w51 hw) (w50 hw) (by decide) (by decide)) (lenOf pd_20 rfl) (Nat.le_of_ble_eq_true rfl) rfl (Nat.le_of_ble_eq_true rfl) (Nat.le_of_ble_eq_true rfl) (fun _ q => nomatch q) (fun v h_121 sf_126 hq => ?_)
                obtain ⟨x_122, rfl, E_123, le_124, S_125⟩ := hq
                refine Go.more (sf' := []) ?_ (Nat.le_refl _) (Nat.le_refl _) (fun _ q => List.mem_append_right _ q)
                show G_law l Z n0 6 84 [] h_121 214 #[.val (.int p0), .val (.int p1), .val (.int p2), .val (.int p3), .val (.int ki), .val (.ref s_74), .val (.ref a1), .val (.int (6 : Int32)), .val (.int p), .val (.int dr), .val (.int og), .val (.int sm), .unset, .unset] [(.ref x_122)]
                refine Go.astore 216 #[.val (.int p0), .val (.int p1), .val (.int p2), .val (.int p3), .val (.int ki), .val (.ref s_74), .val (.ref a1), .val (.int (6 : Int32)), .val (.int p), .val (.int dr), .val (.int og), .val (.int sm), .val (.ref x_122), .unset] at_214 rfl rfl rfl ?_
                refine Go.iload 218 at_216 rfl rfl ?_
                refine Go.iload 220 at_218 rfl rfl ?_
                by_cases hc220 : dr = og
                · skip
                  refine Go.icmpN 223 at_220 rfl (teq hc220).2 ?_
                  refine Go.aload 225 at_223 rfl rfl rfl ?_
                  refine Go.goto 229 at_225 (by decide) (by decide) ?_
                  refine Go.astore 231 #[.val (.int p0), .val (.int p1), .val (.int p2), .val (.int p3), .val (.int ki), .val (.ref s_74), .val (.ref a1), .val (.int (6 : Int32)), .val (.int p), .val (.int dr), .val (.int og), .val (.int sm), .val (.ref x_122), .val (.ref a1)] at_229 rfl rfl rfl ?_
                  refine Go.goto 274 at_231 (by decide) (by decide) ?_
                  refine Go.more (cells' := 12) (slots' := 200) (sf' := []) ?_ (Nat.le_of_ble_eq_true rfl) (Nat.le_of_ble_eq_true rfl) (fun _ q => nomatch q)
                  exact law_tail (ws := ([(78 : Int32), (117 : Int32), (109 : Int32), (98 : Int32), (101 : Int32), (114 : Int32)].set p.toInt.toNat dr)) hw z fm SC hz SF rF UA UH UL va a0 a1 a2 a3 k0 k1 k2 k3 Z0 Z1 Z2 Z3 FK0 SK0 FK1 SK1 FK2 SK2 FK3 SK3 ZV AV XV rfl rfl rfl rfl S_125 (by simp) (Or.inr (Or.inr (Or.inl ⟨rfl, set_same (hc220.trans e_og)⟩)))
                · skip
                  refine Go.icmpY 228 at_220 (by decide) (by decide) (feq hc220).2 ?_
                  refine Go.aconstNull 229 at_228 rfl ?_
                  refine Go.astore 231 #[.val (.int p0), .val (.int p1), .val (.int p2), .val (.int p3), .val (.int ki), .val (.ref s_74), .val (.ref a1), .val (.int (6 : Int32)), .val (.int p), .val (.int dr), .val (.int og), .val (.int sm), .val (.ref x_122), .val .null] at_229 rfl rfl rfl ?_
                  refine Go.goto 274 at_231 (by decide) (by decide) ?_
                  refine Go.more (cells' := 12) (slots' := 200) (sf' := []) ?_ (Nat.le_of_ble_eq_true rfl) (Nat.le_of_ble_eq_true rfl) (fun _ q => nomatch q)
                  exact law_tail (ws := ([(78 : Int32), (117 : Int32), (109 : Int32), (98 : Int32), (101 : Int32), (114 : Int32)].set p.toInt.toNat dr)) hw z fm SC hz SF rF UA UH UL va a0 a1 a2 a3 k0 k1 k2 k3 Z0 Z1 Z2 Z3 FK0 SK0 FK1 SK1 FK2 SK2 FK3 SK3 ZV AV XV rfl rfl rfl rfl S_125 (by simp) (Or.inl ⟨rfl, (len_ne (by simp [kw0])), (set_ne e_og hc220 (by show p.toInt.toNat < 6; omega)), (len_ne (by simp [kw2])), (len_ne (by simp [kw3]))⟩)
              · skip
                refine Go.icmpN 198 at_195 rfl (feq hc195).1 ?_
                refine Go.iload 200 at_198 rfl rfl ?_
                refine Go.iconst 201 (5 : Int32) at_200 rfl rfl ?_
                by_cases hc201 : sm = (5 : Int32)
                · skip
                  refine Go.icmpN 204 at_201 rfl (teq hc201).2 ?_
                  refine Go.aload 206 at_204 rfl rfl rfl ?_
                  refine Go.iconst 207 (0 : Int32) at_206 rfl rfl ?_
                  refine Go.iload 209 at_207 rfl rfl ?_
                  refine Go.iload 211 at_209 rfl rfl ?_
                  refine Go.callS (S := []) 214 [(.ref s_74), (.int (0 : Int32)), (.int p), (.int dr)] at_211 rfl rfl (w48 hw) (w49 hw) (w50 hw) (w51 hw) (by decide) (call_of_go (R := _) (len := 3) (W := 0) (plainFor_of_name pn_3) (fun mid => ef_bld1 mid s_74 p dr z (6 : Int32) (6 : Int32) (6 : Int32) fm p.toInt.toNat 6 6 6 [(78 : Int32), (117 : Int32), (109 : Int32), (98 : Int32), (101 : Int32), (114 : Int32)] [(78 : Int32), (117 : Int32), (109 : Int32), (98 : Int32), (101 : Int32), (114 : Int32)] ) (c_bld1 hw s_74 p dr z (6 : Int32) (6 : Int32) (6 : Int32) fm p.toInt.toNat 6 6 6 [(78 : Int32), (117 : Int32), (109 : Int32), (98 : Int32), (101 : Int32), (114 : Int32)] [(78 : Int32), (117 : Int32), (109 : Int32), (98 : Int32), (101 : Int32), (114 : Int32)] S_84 b_dr (by unfold CHP; decide) (Nat.le_of_ble_eq_true rfl) (by decide) (by decide) (by decide) (by decide) (by decide) (by decide) (by decide) (by decide) (by decide) (by decide) rfl (Int.toNat_of_nonneg b_p.1).symm (by omega) SC hz SF rF UA UH UL) (w51 hw) (w50 hw) (by decide) (by decide)) (lenOf pd_20 rfl) (Nat.le_of_ble_eq_true rfl) rfl (Nat.le_of_ble_eq_true rfl) (Nat.le_of_ble_eq_true rfl) (fun _ q => nomatch q) (fun v h_127 sf_132 hq => ?_)
                  obtain ⟨x_128, rfl, E_129, le_130, S_131⟩ := hq
                  refine Go.more (sf' := []) ?_ (Nat.le_refl _) (Nat.le_refl _) (fun _ q => List.mem_append_right _ q)
                  show G_law l Z n0 6 84 [] h_127 214 #[.val (.int p0), .val (.int p1), .val (.int p2), .val (.int p3), .val (.int ki), .val (.ref s_74), .val (.ref a1), .val (.int (6 : Int32)), .val (.int p), .val (.int dr), .val (.int og), .val (.int sm), .unset, .unset] [(.ref x_128)]
                  refine Go.astore 216 #[.val (.int p0), .val (.int p1), .val (.int p2), .val (.int p3), .val (.int ki), .val (.ref s_74), .val (.ref a1), .val (.int (6 : Int32)), .val (.int p), .val (.int dr), .val (.int og), .val (.int sm), .val (.ref x_128), .unset] at_214 rfl rfl rfl ?_
                  refine Go.iload 218 at_216 rfl rfl ?_
                  refine Go.iload 220 at_218 rfl rfl ?_
                  by_cases hc220 : dr = og
                  · skip
                    refine Go.icmpN 223 at_220 rfl (teq hc220).2 ?_
                    refine Go.aload 225 at_223 rfl rfl rfl ?_
                    refine Go.goto 229 at_225 (by decide) (by decide) ?_
                    refine Go.astore 231 #[.val (.int p0), .val (.int p1), .val (.int p2), .val (.int p3), .val (.int ki), .val (.ref s_74), .val (.ref a1), .val (.int (6 : Int32)), .val (.int p), .val (.int dr), .val (.int og), .val (.int sm), .val (.ref x_128), .val (.ref a1)] at_229 rfl rfl rfl ?_
                    refine Go.goto 274 at_231 (by decide) (by decide) ?_
                    refine Go.more (cells' := 12) (slots' := 200) (sf' := []) ?_ (Nat.le_of_ble_eq_true rfl) (Nat.le_of_ble_eq_true rfl) (fun _ q => nomatch q)
                    exact law_tail (ws := ([(78 : Int32), (117 : Int32), (109 : Int32), (98 : Int32), (101 : Int32), (114 : Int32)].set p.toInt.toNat dr)) hw z fm SC hz SF rF UA UH UL va a0 a1 a2 a3 k0 k1 k2 k3 Z0 Z1 Z2 Z3 FK0 SK0 FK1 SK1 FK2 SK2 FK3 SK3 ZV AV XV rfl rfl rfl rfl S_131 (by simp) (Or.inr (Or.inr (Or.inl ⟨rfl, set_same (hc220.trans e_og)⟩)))
                  · skip
                    refine Go.icmpY 228 at_220 (by decide) (by decide) (feq hc220).2 ?_
                    refine Go.aconstNull 229 at_228 rfl ?_
                    refine Go.astore 231 #[.val (.int p0), .val (.int p1), .val (.int p2), .val (.int p3), .val (.int ki), .val (.ref s_74), .val (.ref a1), .val (.int (6 : Int32)), .val (.int p), .val (.int dr), .val (.int og), .val (.int sm), .val (.ref x_128), .val .null] at_229 rfl rfl rfl ?_
                    refine Go.goto 274 at_231 (by decide) (by decide) ?_
                    refine Go.more (cells' := 12) (slots' := 200) (sf' := []) ?_ (Nat.le_of_ble_eq_true rfl) (Nat.le_of_ble_eq_true rfl) (fun _ q => nomatch q)
                    exact law_tail (ws := ([(78 : Int32), (117 : Int32), (109 : Int32), (98 : Int32), (101 : Int32), (114 : Int32)].set p.toInt.toNat dr)) hw z fm SC hz SF rF UA UH UL va a0 a1 a2 a3 k0 k1 k2 k3 Z0 Z1 Z2 Z3 FK0 SK0 FK1 SK1 FK2 SK2 FK3 SK3 ZV AV XV rfl rfl rfl rfl S_131 (by simp) (Or.inl ⟨rfl, (len_ne (by simp [kw0])), (set_ne e_og hc220 (by show p.toInt.toNat < 6; omega)), (len_ne (by simp [kw2])), (len_ne (by simp [kw3]))⟩)
                · skip
                  refine Go.icmpY 234 at_201 (by decide) (by decide) (feq hc201).2 ?_
                  refine Go.iload 236 at_234 rfl rfl ?_
                  refine Go.bipush 238 (6 : Int32) at_236 rfl rfl ?_
                  by_cases hc238 : sm = (6 : Int32)
                  · skip
                    refine Go.icmpN 241 at_238 rfl (teq hc238).2 ?_
                    refine Go.aload 243 at_241 rfl rfl rfl ?_
                    refine Go.iconst 244 (-1 : Int32) at_243 rfl rfl ?_
                    refine Go.iload 246 at_244 rfl rfl ?_
                    refine Go.iload 248 at_246 rfl rfl ?_
                    refine Go.callS (S := []) 251 [(.ref s_74), (.int (-1 : Int32)), (.int p), (.int dr)] at_248 rfl rfl (w48 hw) (w49 hw) (w50 hw) (w51 hw) (by decide) (call_of_go (R := _) (len := 3) (W := 0) (plainFor_of_name pn_3) (fun mid => ef_bld0 mid s_74 p dr z (6 : Int32) (5 : Int32) (5 : Int32) fm p.toInt.toNat 6 5 5 [(78 : Int32), (117 : Int32), (109 : Int32), (98 : Int32), (101 : Int32), (114 : Int32)] [(78 : Int32), (117 : Int32), (109 : Int32), (98 : Int32), (101 : Int32)] ) (c_bld0 hw s_74 p dr z (6 : Int32) (5 : Int32) (5 : Int32) fm p.toInt.toNat 6 5 5 [(78 : Int32), (117 : Int32), (109 : Int32), (98 : Int32), (101 : Int32), (114 : Int32)] [(78 : Int32), (117 : Int32), (109 : Int32), (98 : Int32), (101 : Int32)] S_84 b_dr (by unfold CHP; decide) (Nat.le_of_ble_eq_true rfl) (by decide) (by decide) (by decide) (by decide) (by decide) (by decide) (by decide) (by decide) (by decide) (by decide) rfl SC hz SF rF UA UH UL) (w51 hw) (w50 hw) (by decide) (by decide)) (lenOf pd_20 rfl) (Nat.le_of_ble_eq_true rfl) rfl (Nat.le_of_ble_eq_true rfl) (Nat.le_of_ble_eq_true rfl) (fun _ q => nomatch q) (fun v h_133 sf_138 hq => ?_)
                    obtain ⟨x_134, rfl, E_135, le_136, S_137⟩ := hq
                    refine Go.more (sf' := []) ?_ (Nat.le_refl _) (Nat.le_refl _) (fun _ q => List.mem_append_right _ q)
                    show G_law l Z n0 6 84 [] h_133 251 #[.val (.int p0), .val (.int p1), .val (.int p2), .val (.int p3), .val (.int ki), .val (.ref s_74), .val (.ref a1), .val (.int (6 : Int32)), .val (.int p), .val (.int dr), .val (.int og), .val (.int sm), .unset, .unset] [(.ref x_134)]
                    refine Go.astore 253 #[.val (.int p0), .val (.int p1), .val (.int p2), .val (.int p3), .val (.int ki), .val (.ref s_74), .val (.ref a1), .val (.int (6 : Int32)), .val (.int p), .val (.int dr), .val (.int og), .val (.int sm), .val (.ref x_134), .unset] at_251 rfl rfl rfl ?_
                    refine Go.aconstNull 254 at_253 rfl ?_
                    refine Go.astore 256 #[.val (.int p0), .val (.int p1), .val (.int p2), .val (.int p3), .val (.int ki), .val (.ref s_74), .val (.ref a1), .val (.int (6 : Int32)), .val (.int p), .val (.int dr), .val (.int og), .val (.int sm), .val (.ref x_134), .val .null] at_254 rfl rfl rfl ?_
                    refine Go.goto 274 at_256 (by decide) (by decide) ?_
                    refine Go.more (cells' := 12) (slots' := 200) (sf' := []) ?_ (Nat.le_of_ble_eq_true rfl) (Nat.le_of_ble_eq_true rfl) (fun _ q => nomatch q)
                    exact law_tail (ws := [(78 : Int32), (117 : Int32), (109 : Int32), (98 : Int32), (101 : Int32)]) hw z fm SC hz SF rF UA UH UL va a0 a1 a2 a3 k0 k1 k2 k3 Z0 Z1 Z2 Z3 FK0 SK0 FK1 SK1 FK2 SK2 FK3 SK3 ZV AV XV rfl rfl rfl rfl S_137 (Nat.le_of_ble_eq_true rfl) (Or.inl ⟨rfl, (by decide), (by decide), (by decide), (by decide)⟩)
                  · skip
                    refine Go.icmpY 259 at_238 (by decide) (by decide) (feq hc238).2 ?_
                    refine Go.aload 261 at_259 rfl rfl rfl ?_
                    refine Go.iconst 262 (1 : Int32) at_261 rfl rfl ?_
                    refine Go.iload 264 at_262 rfl rfl ?_
                    refine Go.iload 266 at_264 rfl rfl ?_
                    refine Go.callS (S := []) 269 [(.ref s_74), (.int (1 : Int32)), (.int p), (.int dr)] at_266 rfl rfl (w48 hw) (w49 hw) (w50 hw) (w51 hw) (by decide) (call_of_go (R := _) (len := 3) (W := 0) (plainFor_of_name pn_3) (fun mid => ef_bld2 mid s_74 p dr z (6 : Int32) (7 : Int32) (6 : Int32) fm p.toInt.toNat 6 7 6 [(78 : Int32), (117 : Int32), (109 : Int32), (98 : Int32), (101 : Int32), (114 : Int32)] [(78 : Int32), (117 : Int32), (109 : Int32), (98 : Int32), (101 : Int32), (114 : Int32), (0 : Int32)] ) (c_bld2 hw s_74 p dr z (6 : Int32) (7 : Int32) (6 : Int32) fm p.toInt.toNat 6 7 6 [(78 : Int32), (117 : Int32), (109 : Int32), (98 : Int32), (101 : Int32), (114 : Int32)] [(78 : Int32), (117 : Int32), (109 : Int32), (98 : Int32), (101 : Int32), (114 : Int32), (0 : Int32)] S_84 b_dr (by unfold CHP; decide) (Nat.le_of_ble_eq_true rfl) (by decide) (by decide) (by decide) (by decide) (by decide) (by decide) (by decide) (by decide) (by decide) (by decide) rfl (by decide) (by decide) SC hz SF rF UA UH UL) (w51 hw) (w50 hw) (by decide) (by decide)) (lenOf pd_20 rfl) (Nat.le_of_ble_eq_true rfl) rfl (Nat.le_of_ble_eq_true rfl) (Nat.le_of_ble_eq_true rfl) (fun _ q => nomatch q) (fun v h_139 sf_144 hq => ?_)
                    obtain ⟨x_140, rfl, E_141, le_142, S_143⟩ := hq
                    refine Go.more (sf' := []) ?_ (Nat.le_refl _) (Nat.le_refl _) (fun _ q => List.mem_append_right _ q)
                    show G_law l Z n0 6 84 [] h_139 269 #[.val (.int p0), .val (.int p1), .val (.int p2), .val (.int p3), .val (.int ki), .val (.ref s_74), .val (.ref a1), .val (.int (6 : Int32)), .val (.int p), .val (.int dr), .val (.int og), .val (.int sm), .unset, .unset] [(.ref x_140)]
                    refine Go.astore 271 #[.val (.int p0), .val (.int p1), .val (.int p2), .val (.int p3), .val (.int ki), .val (.ref s_74), .val (.ref a1), .val (.int (6 : Int32)), .val (.int p), .val (.int dr), .val (.int og), .val (.int sm), .val (.ref x_140), .unset] at_269 rfl rfl rfl ?_
                    refine Go.aconstNull 272 at_271 rfl ?_
                    refine Go.astore 274 #[.val (.int p0), .val (.int p1), .val (.int p2), .val (.int p3), .val (.int ki), .val (.ref s_74), .val (.ref a1), .val (.int (6 : Int32)), .val (.int p), .val (.int dr), .val (.int og), .val (.int sm), .val (.ref x_140), .val .null] at_272 rfl rfl rfl ?_
                    refine Go.more (cells' := 12) (slots' := 200) (sf' := []) ?_ (Nat.le_of_ble_eq_true rfl) (Nat.le_of_ble_eq_true rfl) (fun _ q => nomatch q)
                    exact law_tail (ws := [(78 : Int32), (117 : Int32), (109 : Int32), (98 : Int32), (101 : Int32), (114 : Int32), dr]) hw z fm SC hz SF rF UA UH UL va a0 a1 a2 a3 k0 k1 k2 k3 Z0 Z1 Z2 Z3 FK0 SK0 FK1 SK1 FK2 SK2 FK3 SK3 ZV AV XV rfl rfl rfl rfl S_143 (Nat.le_of_ble_eq_true rfl) (Or.inl ⟨rfl, (by simp [kw0]), (by simp [kw1]), (by simp [kw2]), (by simp [kw3])⟩)
    · skip
      refine Go.icmpY 40 at_25 (by decide) (by decide) (feq hc25).2 ?_
      refine Go.iload 42 at_40 rfl rfl ?_
      refine Go.iconst 43 (2 : Int32) at_42 rfl rfl ?_
      by_cases hc43 : ki = (2 : Int32)
      · skip
        refine Go.icmpN 46 at_43 rfl (teq hc43).2 ?_
        refine Go.ldcL (vs := [(.int (83 : Int32)), (.int (121 : Int32)), (.int (109 : Int32)), (.int (109 : Int32)), (.int (101 : Int32)), (.int (116 : Int32)), (.int (114 : Int32)), (.int (105 : Int32)), (.int (99 : Int32)), (.int (75 : Int32)), (.int (101 : Int32)), (.int (121 : Int32))]) (z := (12 : Int32)) 48 48 at_46 rfl (w113 hw) (wS hw) (List.mem_of_getElem? (i := 2) rfl) ⟨by decide, rfl⟩ (by decide) (by decide) (by decide) (by decide) (Nat.le_of_ble_eq_true rfl) (Nat.le_of_ble_eq_true rfl) (fun h_145 s_146 b_147 k_148 E_149 A_150 C_151 V_152 B_153 ne_154 => ?_)
        have B_155 : Ary Z h_145 b_147 .byte [(.int (83 : Int32)), (.int (121 : Int32)), (.int (109 : Int32)), (.int (109 : Int32)), (.int (101 : Int32)), (.int (116 : Int32)), (.int (114 : Int32)), (.int (105 : Int32)), (.int (99 : Int32)), (.int (75 : Int32)), (.int (101 : Int32)), (.int (121 : Int32))] := Ary.ofArv B_153 rfl (by decide)
        have S_156 : Str Z h_145 s_146 [(83 : Int32), (121 : Int32), (109 : Int32), (109 : Int32), (101 : Int32), (116 : Int32), (114 : Int32), (105 : Int32), (99 : Int32), (75 : Int32), (101 : Int32), (121 : Int32)] := ⟨_, A_150, C_151, V_152, B_155, by unfold Lat; decide⟩
        show G_law l Z n0 2 52 [] h_145 48 #[.val (.int p0), .val (.int p1), .val (.int p2), .val (.int p3), .val (.int ki), .unset, .unset, .unset, .unset, .unset, .unset, .unset, .unset, .unset] [(.ref s_146)]
        refine Go.astore 50 #[.val (.int p0), .val (.int p1), .val (.int p2), .val (.int p3), .val (.int ki), .val (.ref s_146), .unset, .unset, .unset, .unset, .unset, .unset, .unset, .unset] at_48 rfl rfl rfl ?_
        refine Go.getS 53 at_50 rfl (w114 hw) Via.refl Z2 ?_
        refine Go.astore 55 #[.val (.int p0), .val (.int p1), .val (.int p2), .val (.int p3), .val (.int ki), .val (.ref s_146), .val (.ref a2), .unset, .unset, .unset, .unset, .unset, .unset, .unset] at_53 rfl rfl rfl ?_
        refine Go.goto 67 at_55 (by decide) (by decide) ?_
        refine Go.aload 69 at_67 rfl rfl rfl ?_
        refine Go.old fun o_157 _ => ?_
        refine Go.callV (S := []) (a := s_146) 72 [] at_69 rfl rfl (w11 hw) (w12 hw) (w14 hw) (w13 hw) (fun _ q => notFace_of_selects (args := #[]) (mvT q (w14 hw))) (by decide) A_150 (strLen (W := 0) (hln hw) (w2 hw) S_156 (by decide) o_157 SC hz (by decide) (by decide)) (lenOf pd_13 rfl) (Nat.le_of_ble_eq_true rfl) rfl (Nat.le_of_ble_eq_true rfl) (Nat.le_of_ble_eq_true rfl) (fun _ q => q) (fun v h_158 sf_159 hq => ?_)
        obtain ⟨rfl, rfl⟩ := hq
        refine Go.more (sf' := []) ?_ (Nat.le_refl _) (Nat.le_refl _) (fun _ q => List.mem_append_right _ q)
        show G_law l Z n0 2 52 [] h_145 72 #[.val (.int p0), .val (.int p1), .val (.int p2), .val (.int p3), .val (.int ki), .val (.ref s_146), .val (.ref a2), .unset, .unset, .unset, .unset, .unset, .unset, .unset] [(.int (Int32.ofNat ([(83 : Int32), (121 : Int32), (109 : Int32), (109 : Int32), (101 : Int32), (116 : Int32), (114 : Int32), (105 : Int32), (99 : Int32), (75 : Int32), (101 : Int32), (121 : Int32)]).length))]
        rw [show (Int32.ofNat ([(83 : Int32), (121 : Int32), (109 : Int32), (109 : Int32), (101 : Int32), (116 : Int32), (114 : Int32), (105 : Int32), (99 : Int32), (75 : Int32), (101 : Int32), (121 : Int32)]).length) = (12 : Int32) from by decide]
        show G_law l Z n0 2 52 [] h_145 72 #[.val (.int p0), .val (.int p1), .val (.int p2), .val (.int p3), .val (.int ki), .val (.ref s_146), .val (.ref a2), .unset, .unset, .unset, .unset, .unset, .unset, .unset] [(.int (12 : Int32))]
        refine Go.istore 74 #[.val (.int p0), .val (.int p1), .val (.int p2), .val (.int p3), .val (.int ki), .val (.ref s_146), .val (.ref a2), .val (.int (12 : Int32)), .unset, .unset, .unset, .unset, .unset, .unset] at_72 rfl rfl ?_
        refine Go.iloadN 75 at_74 rfl rfl ?_
        refine Go.ldcI 77 at_75 rfl (w24 hw) ?_
        refine Go.iand 78 at_77 rfl ?_
        refine Go.iload 80 at_78 rfl rfl ?_
        refine Go.irem 81 at_80 rfl (by decide) ?_
        obtain ⟨p, e_p⟩ : ∃ y_ : Int32, y_ = ((p2 &&& (2147483647 : Int32)) % (12 : Int32)) := ⟨_, rfl⟩
        have b_p : 0 ≤ p.toInt ∧ p.toInt < 12 := by rw [e_p]; exact (fun q => ⟨q.1, q.2.1⟩) ((c_iremV (p2 &&& (2147483647 : Int32)) (12 : Int32)).1 (c_and p2 2147483647 (by decide)).1 (by decide))
        rw [← e_p]
        show G_law l Z n0 2 52 [] h_145 81 #[.val (.int p0), .val (.int p1), .val (.int p2), .val (.int p3), .val (.int ki), .val (.ref s_146), .val (.ref a2), .val (.int (12 : Int32)), .unset, .unset, .unset, .unset, .unset, .unset] [(.int p)]
        refine Go.istore 83 #[.val (.int p0), .val (.int p1), .val (.int p2), .val (.int p3), .val (.int ki), .val (.ref s_146), .val (.ref a2), .val (.int (12 : Int32)), .val (.int p), .unset, .unset, .unset, .unset, .unset] at_81 rfl rfl ?_
        refine Go.iloadN 84 at_83 rfl rfl ?_
        refine Go.ldcI 86 at_84 rfl (w25 hw) ?_
        refine Go.iand 87 at_86 rfl ?_
        refine Go.i2c 88 at_87 rfl ?_
        obtain ⟨dr, e_dr⟩ : ∃ y_ : Int32, y_ = (chr (p3 &&& (65535 : Int32))) := ⟨_, rfl⟩
        have b_dr : CHP dr := by rw [e_dr]; exact chp_chr _
        rw [← e_dr]
        show G_law l Z n0 2 52 [] h_145 88 #[.val (.int p0), .val (.int p1), .val (.int p2), .val (.int p3), .val (.int ki), .val (.ref s_146), .val (.ref a2), .val (.int (12 : Int32)), .val (.int p), .unset, .unset, .unset, .unset, .unset] [(.int dr)]
        refine Go.istore 90 #[.val (.int p0), .val (.int p1), .val (.int p2), .val (.int p3), .val (.int ki), .val (.ref s_146), .val (.ref a2), .val (.int (12 : Int32)), .val (.int p), .val (.int dr), .unset, .unset, .unset, .unset] at_88 rfl rfl ?_
        refine Go.aload 92 at_90 rfl rfl rfl ?_
        refine Go.iload 94 at_92 rfl rfl ?_
        refine Go.old fun o_160 _ => ?_
        refine Go.callV (S := []) (a := s_146) 97 [(.int p)] at_94 rfl rfl (w26 hw) (w27 hw) (w29 hw) (w28 hw) (fun _ q => notFace_of_selects (args := #[]) (mvT q (w29 hw))) (by decide) A_150 (strCh (W := 0) (hch hw) (w2 hw) S_156 (by decide) o_160 SC hz SF rF p.toInt.toNat (Int.toNat_of_nonneg b_p.1).symm (by show p.toInt.toNat < 12; omega) (by decide) (by decide)) (lenOf pd_12 rfl) (Nat.le_of_ble_eq_true rfl) rfl (Nat.le_of_ble_eq_true rfl) (Nat.le_of_ble_eq_true rfl) (fun _ q => q) (fun v h_161 sf_162 hq => ?_)
        obtain ⟨rfl, rfl⟩ := hq
        refine Go.more (sf' := []) ?_ (Nat.le_refl _) (Nat.le_refl _) (fun _ q => List.mem_append_right _ q)
        show G_law l Z n0 2 52 [] h_145 97 #[.val (.int p0), .val (.int p1), .val (.int p2), .val (.int p3), .val (.int ki), .val (.ref s_146), .val (.ref a2), .val (.int (12 : Int32)), .val (.int p), .val (.int dr), .unset, .unset, .unset, .unset] [(.int (([(83 : Int32), (121 : Int32), (109 : Int32), (109 : Int32), (101 : Int32), (116 : Int32), (114 : Int32), (105 : Int32), (99 : Int32), (75 : Int32), (101 : Int32), (121 : Int32)]).getD p.toInt.toNat 0))]
        obtain ⟨og, e_og⟩ : ∃ y_ : Int32, y_ = (([(83 : Int32), (121 : Int32), (109 : Int32), (109 : Int32), (101 : Int32), (116 : Int32), (114 : Int32), (105 : Int32), (99 : Int32), (75 : Int32), (101 : Int32), (121 : Int32)]).getD p.toInt.toNat 0) := ⟨_, rfl⟩
        have b_og : CHP og := by rw [e_og]; exact kw_chp (by unfold CHP; decide) _
        rw [← e_og]
        show G_law l Z n0 2 52 [] h_145 97 #[.val (.int p0), .val (.int p1), .val (.int p2), .val (.int p3), .val (.int ki), .val (.ref s_146), .val (.ref a2), .val (.int (12 : Int32)), .val (.int p), .val (.int dr), .unset, .unset, .unset, .unset] [(.int og)]
        refine Go.istore 99 #[.val (.int p0), .val (.int p1), .val (.int p2), .val (.int p3), .val (.int ki), .val (.ref s_146), .val (.ref a2), .val (.int (12 : Int32)), .val (.int p), .val (.int dr), .val (.int og), .unset, .unset, .unset] at_97 rfl rfl ?_
        refine Go.iloadN 100 at_99 rfl rfl ?_
        refine Go.bipush 102 (7 : Int32) at_100 rfl rfl ?_
        refine Go.iand 103 at_102 rfl ?_
        obtain ⟨sm, e_sm⟩ : ∃ y_ : Int32, y_ = (p0 &&& (7 : Int32)) := ⟨_, rfl⟩
        rw [← e_sm]
        show G_law l Z n0 2 52 [] h_145 103 #[.val (.int p0), .val (.int p1), .val (.int p2), .val (.int p3), .val (.int ki), .val (.ref s_146), .val (.ref a2), .val (.int (12 : Int32)), .val (.int p), .val (.int dr), .val (.int og), .unset, .unset, .unset] [(.int sm)]
        refine Go.istore 105 #[.val (.int p0), .val (.int p1), .val (.int p2), .val (.int p3), .val (.int ki), .val (.ref s_146), .val (.ref a2), .val (.int (12 : Int32)), .val (.int p), .val (.int dr), .val (.int og), .val (.int sm), .unset, .unset] at_103 rfl rfl ?_
        refine Go.iload 107 at_105 rfl rfl ?_
        by_cases hc107 : sm = (0 : Int32)
        · skip
          refine Go.ifN 110 at_107 rfl (teq hc107).2 ?_
          refine Go.aload 112 at_110 rfl rfl rfl ?_
          refine Go.iconst 113 (0 : Int32) at_112 rfl rfl ?_
          refine Go.iload 115 at_113 rfl rfl ?_
          refine Go.iload 117 at_115 rfl rfl ?_
          refine Go.bipush 119 (32 : Int32) at_117 rfl rfl ?_
          refine Go.ixor 120 at_119 rfl ?_
          refine Go.i2c 121 at_120 rfl ?_
          refine Go.callS (S := []) 124 [(.ref s_146), (.int (0 : Int32)), (.int p), (.int (chr (og ^^^ (32 : Int32))))] at_121 rfl rfl (w48 hw) (w49 hw) (w50 hw) (w51 hw) (by decide) (call_of_go (R := _) (len := 3) (W := 0) (plainFor_of_name pn_3) (fun mid => ef_bld1 mid s_146 p (chr (og ^^^ (32 : Int32))) z (12 : Int32) (12 : Int32) (12 : Int32) fm p.toInt.toNat 12 12 12 [(83 : Int32), (121 : Int32), (109 : Int32), (109 : Int32), (101 : Int32), (116 : Int32), (114 : Int32), (105 : Int32), (99 : Int32), (75 : Int32), (101 : Int32), (121 : Int32)] [(83 : Int32), (121 : Int32), (109 : Int32), (109 : Int32), (101 : Int32), (116 : Int32), (114 : Int32), (105 : Int32), (99 : Int32), (75 : Int32), (101 : Int32), (121 : Int32)] ) (c_bld1 hw s_146 p (chr (og ^^^ (32 : Int32))) z (12 : Int32) (12 : Int32) (12 : Int32) fm p.toInt.toNat 12 12 12 [(83 : Int32), (121 : Int32), (109 : Int32), (109 : Int32), (101 : Int32), (116 : Int32), (114 : Int32), (105 : Int32), (99 : Int32), (75 : Int32), (101 : Int32), (121 : Int32)] [(83 : Int32), (121 : Int32), (109 : Int32), (109 : Int32), (101 : Int32), (116 : Int32), (114 : Int32), (105 : Int32), (99 : Int32), (75 : Int32), (101 : Int32), (121 : Int32)] S_156 (chp_chr _) (by unfold CHP; decide) (Nat.le_of_ble_eq_true rfl) (by decide) (by decide) (by decide) (by decide) (by decide) (by decide) (by decide) (by decide) (by decide) (by decide) rfl (Int.toNat_of_nonneg b_p.1).symm (by omega) SC hz SF rF UA UH UL) (w51 hw) (w50 hw) (by decide) (by decide)) (lenOf pd_20 rfl) (Nat.le_of_ble_eq_true rfl) rfl (Nat.le_of_ble_eq_true rfl) (Nat.le_of_ble_eq_true rfl) (fun _ q => nomatch q) (fun v h_163 sf_168 hq => ?_)
          obtain ⟨x_164, rfl, E_165, le_166, S_167⟩ := hq
          refine Go.more (sf' := []) ?_ (Nat.le_refl _) (Nat.le_refl _) (fun _ q => List.mem_append_right _ q)
          show G_law l Z n0 6 108 [] h_163 124 #[.val (.int p0), .val (.int p1), .val (.int p2), .val (.int p3), .val (.int ki), .val (.ref s_146), .val (.ref a2), .val (.int (12 : Int32)), .val (.int p), .val (.int dr), .val (.int og), .val (.int sm), .unset, .unset] [(.ref x_164)]
          refine Go.astore 126 #[.val (.int p0), .val (.int p1), .val (.int p2), .val (.int p3), .val (.int ki), .val (.ref s_146), .val (.ref a2), .val (.int (12 : Int32)), .val (.int p), .val (.int dr), .val (.int og), .val (.int sm), .val (.ref x_164), .unset] at_124 rfl rfl rfl ?_
          refine Go.aconstNull 127 at_126 rfl ?_
          refine Go.astore 129 #[.val (.int p0), .val (.int p1), .val (.int p2), .val (.int p3), .val (.int ki), .val (.ref s_146), .val (.ref a2), .val (.int (12 : Int32)), .val (.int p), .val (.int dr), .val (.int og), .val (.int sm), .val (.ref x_164), .val .null] at_127 rfl rfl rfl ?_
          refine Go.goto 274 at_129 (by decide) (by decide) ?_
          refine Go.more (cells' := 12) (slots' := 200) (sf' := []) ?_ (Nat.le_of_ble_eq_true rfl) (Nat.le_of_ble_eq_true rfl) (fun _ q => nomatch q)
          exact law_tail (ws := ([(83 : Int32), (121 : Int32), (109 : Int32), (109 : Int32), (101 : Int32), (116 : Int32), (114 : Int32), (105 : Int32), (99 : Int32), (75 : Int32), (101 : Int32), (121 : Int32)].set p.toInt.toNat (chr (og ^^^ (32 : Int32))))) hw z fm SC hz SF rF UA UH UL va a0 a1 a2 a3 k0 k1 k2 k3 Z0 Z1 Z2 Z3 FK0 SK0 FK1 SK1 FK2 SK2 FK3 SK3 ZV AV XV rfl rfl rfl rfl S_167 (by simp) (Or.inl ⟨rfl, (len_ne (by simp [kw0])), (len_ne (by simp [kw1])), (by rw [e_og]; exact flip2 (by omega)), (len_ne (by simp [kw3]))⟩)
        · skip
          refine Go.ifY 132 at_107 (by decide) (by decide) (feq hc107).2 ?_
          refine Go.iload 134 at_132 rfl rfl ?_
          refine Go.iconst 135 (1 : Int32) at_134 rfl rfl ?_
          by_cases hc135 : sm = (1 : Int32)
          · skip
            refine Go.icmpN 138 at_135 rfl (teq hc135).2 ?_
            refine Go.iload 140 at_138 rfl rfl ?_
            refine Go.callS (S := []) 143 [(.int dr)] at_140 rfl rfl (w118 hw) (w119 hw) (w1 hw) (w120 hw) (by decide) (call_of_go (R := _) (len := 3) (W := 0) (plainFor_of_name pn_1) (fun mid => ef_valueof mid dr z ) (c_valueof hw dr z b_dr SC hz UA UH UL) (w120 hw) (w1 hw) (by decide) (by decide)) (lenOf pd_21 rfl) (Nat.le_of_ble_eq_true rfl) rfl (Nat.le_of_ble_eq_true rfl) (Nat.le_of_ble_eq_true rfl) (fun _ q => nomatch q) (fun v h_169 sf_174 hq => ?_)
            obtain ⟨x_170, rfl, E_171, le_172, S_173⟩ := hq
            refine Go.more (sf' := []) ?_ (Nat.le_refl _) (Nat.le_refl _) (fun _ q => List.mem_append_right _ q)
            show G_law l Z n0 4 58 [] h_169 143 #[.val (.int p0), .val (.int p1), .val (.int p2), .val (.int p3), .val (.int ki), .val (.ref s_146), .val (.ref a2), .val (.int (12 : Int32)), .val (.int p), .val (.int dr), .val (.int og), .val (.int sm), .unset, .unset] [(.ref x_170)]
            refine Go.astore 145 #[.val (.int p0), .val (.int p1), .val (.int p2), .val (.int p3), .val (.int ki), .val (.ref s_146), .val (.ref a2), .val (.int (12 : Int32)), .val (.int p), .val (.int dr), .val (.int og), .val (.int sm), .val (.ref x_170), .unset] at_143 rfl rfl rfl ?_
            refine Go.aconstNull 146 at_145 rfl ?_
            refine Go.astore 148 #[.val (.int p0), .val (.int p1), .val (.int p2), .val (.int p3), .val (.int ki), .val (.ref s_146), .val (.ref a2), .val (.int (12 : Int32)), .val (.int p), .val (.int dr), .val (.int og), .val (.int sm), .val (.ref x_170), .val .null] at_146 rfl rfl rfl ?_
            refine Go.goto 274 at_148 (by decide) (by decide) ?_
            refine Go.more (cells' := 12) (slots' := 200) (sf' := []) ?_ (Nat.le_of_ble_eq_true rfl) (Nat.le_of_ble_eq_true rfl) (fun _ q => nomatch q)
            exact law_tail (ws := [dr]) hw z fm SC hz SF rF UA UH UL va a0 a1 a2 a3 k0 k1 k2 k3 Z0 Z1 Z2 Z3 FK0 SK0 FK1 SK1 FK2 SK2 FK3 SK3 ZV AV XV rfl rfl rfl rfl S_173 (Nat.le_of_ble_eq_true rfl) (Or.inl ⟨rfl, (by simp [kw0]), (by simp [kw1]), (by simp [kw2]), (by simp [kw3])⟩)
          · skip
            refine Go.icmpY 151 at_135 (by decide) (by decide) (feq hc135).2 ?_
            refine Go.iload 153 at_151 rfl rfl ?_
            refine Go.iconst 154 (2 : Int32) at_153 rfl rfl ?_
            by_cases hc154 : sm = (2 : Int32)
            · skip
              refine Go.icmpN 157 at_154 rfl (teq hc154).2 ?_
              refine Go.ldcL (vs := []) (z := (0 : Int32)) 0 159 at_157 rfl (w115 hw) (wS hw) (List.mem_of_getElem? (i := 4) rfl) ⟨by decide, rfl⟩ (by decide) (by decide) (by decide) (by decide) (Nat.le_of_ble_eq_true rfl) (Nat.le_of_ble_eq_true rfl) (fun h_175 s_176 b_177 k_178 E_179 A_180 C_181 V_182 B_183 ne_184 => ?_)
              have B_185 : Ary Z h_175 b_177 .byte [] := Ary.ofArv B_183 rfl (by decide)
              have S_186 : Str Z h_175 s_176 [] := ⟨_, A_180, C_181, V_182, B_185, by unfold Lat; decide⟩
              show G_law l Z n0 4 56 [] h_175 159 #[.val (.int p0), .val (.int p1), .val (.int p2), .val (.int p3), .val (.int ki), .val (.ref s_146), .val (.ref a2), .val (.int (12 : Int32)), .val (.int p), .val (.int dr), .val (.int og), .val (.int sm), .unset, .unset] [(.ref s_176)]
              refine Go.astore 161 #[.val (.int p0), .val (.int p1), .val (.int p2), .val (.int p3), .val (.int ki), .val (.ref s_146), .val (.ref a2), .val (.int (12 : Int32)), .val (.int p), .val (.int dr), .val (.int og), .val (.int sm), .val (.ref s_176), .unset] at_159 rfl rfl rfl ?_
              refine Go.aconstNull 162 at_161 rfl ?_
              refine Go.astore 164 #[.val (.int p0), .val (.int p1), .val (.int p2), .val (.int p3), .val (.int ki), .val (.ref s_146), .val (.ref a2), .val (.int (12 : Int32)), .val (.int p), .val (.int dr), .val (.int og), .val (.int sm), .val (.ref s_176), .val .null] at_162 rfl rfl rfl ?_
              refine Go.goto 274 at_164 (by decide) (by decide) ?_
              refine Go.more (cells' := 12) (slots' := 200) (sf' := []) ?_ (Nat.le_of_ble_eq_true rfl) (Nat.le_of_ble_eq_true rfl) (fun _ q => nomatch q)
              exact law_tail (ws := []) hw z fm SC hz SF rF UA UH UL va a0 a1 a2 a3 k0 k1 k2 k3 Z0 Z1 Z2 Z3 FK0 SK0 FK1 SK1 FK2 SK2 FK3 SK3 ZV AV XV rfl rfl rfl rfl (Gst.ofStr S_186) (Nat.le_of_ble_eq_true rfl) (Or.inl ⟨rfl, (by simp [kw0]), (by simp [kw1]), (by simp [kw2]), (by simp [kw3])⟩)
            · skip
              refine Go.icmpY 167 at_154 (by decide) (by decide) (feq hc154).2 ?_
              refine Go.iload 169 at_167 rfl rfl ?_
              refine Go.iconst 170 (3 : Int32) at_169 rfl rfl ?_
              by_cases hc170 : sm = (3 : Int32)
              · skip
                refine Go.icmpN 173 at_170 rfl (teq hc170).2 ?_
                refine Go.aload 175 at_173 rfl rfl rfl ?_
                refine Go.iconst 176 (0 : Int32) at_175 rfl rfl ?_
                refine Go.iload 178 at_176 rfl rfl ?_
                refine Go.iload 180 at_178 rfl rfl ?_
                refine Go.callS (S := []) 183 [(.ref s_146), (.int (0 : Int32)), (.int p), (.int og)] at_180 rfl rfl (w48 hw) (w49 hw) (w50 hw) (w51 hw) (by decide) (call_of_go (R := _) (len := 3) (W := 0) (plainFor_of_name pn_3) (fun mid => ef_bld1 mid s_146 p og z (12 : Int32) (12 : Int32) (12 : Int32) fm p.toInt.toNat 12 12 12 [(83 : Int32), (121 : Int32), (109 : Int32), (109 : Int32), (101 : Int32), (116 : Int32), (114 : Int32), (105 : Int32), (99 : Int32), (75 : Int32), (101 : Int32), (121 : Int32)] [(83 : Int32), (121 : Int32), (109 : Int32), (109 : Int32), (101 : Int32), (116 : Int32), (114 : Int32), (105 : Int32), (99 : Int32), (75 : Int32), (101 : Int32), (121 : Int32)] ) (c_bld1 hw s_146 p og z (12 : Int32) (12 : Int32) (12 : Int32) fm p.toInt.toNat 12 12 12 [(83 : Int32), (121 : Int32), (109 : Int32), (109 : Int32), (101 : Int32), (116 : Int32), (114 : Int32), (105 : Int32), (99 : Int32), (75 : Int32), (101 : Int32), (121 : Int32)] [(83 : Int32), (121 : Int32), (109 : Int32), (109 : Int32), (101 : Int32), (116 : Int32), (114 : Int32), (105 : Int32), (99 : Int32), (75 : Int32), (101 : Int32), (121 : Int32)] S_156 b_og (by unfold CHP; decide) (Nat.le_of_ble_eq_true rfl) (by decide) (by decide) (by decide) (by decide) (by decide) (by decide) (by decide) (by decide) (by decide) (by decide) rfl (Int.toNat_of_nonneg b_p.1).symm (by omega) SC hz SF rF UA UH UL) (w51 hw) (w50 hw) (by decide) (by decide)) (lenOf pd_20 rfl) (Nat.le_of_ble_eq_true rfl) rfl (Nat.le_of_ble_eq_true rfl) (Nat.le_of_ble_eq_true rfl) (fun _ q => nomatch q) (fun v h_187 sf_192 hq => ?_)
                obtain ⟨x_188, rfl, E_189, le_190, S_191⟩ := hq
                refine Go.more (sf' := []) ?_ (Nat.le_refl _) (Nat.le_refl _) (fun _ q => List.mem_append_right _ q)
                show G_law l Z n0 6 108 [] h_187 183 #[.val (.int p0), .val (.int p1), .val (.int p2), .val (.int p3), .val (.int ki), .val (.ref s_146), .val (.ref a2), .val (.int (12 : Int32)), .val (.int p), .val (.int dr), .val (.int og), .val (.int sm), .unset, .unset] [(.ref x_188)]
                refine Go.astore 185 #[.val (.int p0), .val (.int p1), .val (.int p2), .val (.int p3), .val (.int ki), .val (.ref s_146), .val (.ref a2), .val (.int (12 : Int32)), .val (.int p), .val (.int dr), .val (.int og), .val (.int sm), .val (.ref x_188), .unset] at_183 rfl rfl rfl ?_
                refine Go.aload 187 at_185 rfl rfl rfl ?_
                refine Go.astore 189 #[.val (.int p0), .val (.int p1), .val (.int p2), .val (.int p3), .val (.int ki), .val (.ref s_146), .val (.ref a2), .val (.int (12 : Int32)), .val (.int p), .val (.int dr), .val (.int og), .val (.int sm), .val (.ref x_188), .val (.ref a2)] at_187 rfl rfl rfl ?_
                refine Go.goto 274 at_189 (by decide) (by decide) ?_
                refine Go.more (cells' := 12) (slots' := 200) (sf' := []) ?_ (Nat.le_of_ble_eq_true rfl) (Nat.le_of_ble_eq_true rfl) (fun _ q => nomatch q)
                exact law_tail (ws := ([(83 : Int32), (121 : Int32), (109 : Int32), (109 : Int32), (101 : Int32), (116 : Int32), (114 : Int32), (105 : Int32), (99 : Int32), (75 : Int32), (101 : Int32), (121 : Int32)].set p.toInt.toNat og)) hw z fm SC hz SF rF UA UH UL va a0 a1 a2 a3 k0 k1 k2 k3 Z0 Z1 Z2 Z3 FK0 SK0 FK1 SK1 FK2 SK2 FK3 SK3 ZV AV XV rfl rfl rfl rfl S_191 (by simp) (Or.inr (Or.inr (Or.inr (Or.inl ⟨rfl, set_same e_og⟩))))
              · skip
                refine Go.icmpY 192 at_170 (by decide) (by decide) (feq hc170).2 ?_
                refine Go.iload 194 at_192 rfl rfl ?_
                refine Go.iconst 195 (4 : Int32) at_194 rfl rfl ?_
                by_cases hc195 : sm = (4 : Int32)
                · skip
                  refine Go.icmpY 204 at_195 (by decide) (by decide) (teq hc195).1 ?_
                  refine Go.aload 206 at_204 rfl rfl rfl ?_
                  refine Go.iconst 207 (0 : Int32) at_206 rfl rfl ?_
                  refine Go.iload 209 at_207 rfl rfl ?_
                  refine Go.iload 211 at_209 rfl rfl ?_
                  refine Go.callS (S := []) 214 [(.ref s_146), (.int (0 : Int32)), (.int p), (.int dr)] at_211 rfl rfl (w48 hw) (w49 hw) (w50 hw) (w51 hw) (by decide) (call_of_go (R := _) (len := 3) (W := 0) (plainFor_of_name pn_3) (fun mid => ef_bld1 mid s_146 p dr z (12 : Int32) (12 : Int32) (12 : Int32) fm p.toInt.toNat 12 12 12 [(83 : Int32), (121 : Int32), (109 : Int32), (109 : Int32), (101 : Int32), (116 : Int32), (114 : Int32), (105 : Int32), (99 : Int32), (75 : Int32), (101 : Int32), (121 : Int32)] [(83 : Int32), (121 : Int32), (109 : Int32), (109 : Int32), (101 : Int32), (116 : Int32), (114 : Int32), (105 : Int32), (99 : Int32), (75 : Int32), (101 : Int32), (121 : Int32)] ) (c_bld1 hw s_146 p dr z (12 : Int32) (12 : Int32) (12 : Int32) fm p.toInt.toNat 12 12 12 [(83 : Int32), (121 : Int32), (109 : Int32), (109 : Int32), (101 : Int32), (116 : Int32), (114 : Int32), (105 : Int32), (99 : Int32), (75 : Int32), (101 : Int32), (121 : Int32)] [(83 : Int32), (121 : Int32), (109 : Int32), (109 : Int32), (101 : Int32), (116 : Int32), (114 : Int32), (105 : Int32), (99 : Int32), (75 : Int32), (101 : Int32), (121 : Int32)] S_156 b_dr (by unfold CHP; decide) (Nat.le_of_ble_eq_true rfl) (by decide) (by decide) (by decide) (by decide) (by decide) (by decide) (by decide) (by decide) (by decide) (by decide) rfl (Int.toNat_of_nonneg b_p.1).symm (by omega) SC hz SF rF UA UH UL) (w51 hw) (w50 hw) (by decide) (by decide)) (lenOf pd_20 rfl) (Nat.le_of_ble_eq_true rfl) rfl (Nat.le_of_ble_eq_true rfl) (Nat.le_of_ble_eq_true rfl) (fun _ q => nomatch q) (fun v h_193 sf_198 hq => ?_)
                  obtain ⟨x_194, rfl, E_195, le_196, S_197⟩ := hq
                  refine Go.more (sf' := []) ?_ (Nat.le_refl _) (Nat.le_refl _) (fun _ q => List.mem_append_right _ q)
                  show G_law l Z n0 6 108 [] h_193 214 #[.val (.int p0), .val (.int p1), .val (.int p2), .val (.int p3), .val (.int ki), .val (.ref s_146), .val (.ref a2), .val (.int (12 : Int32)), .val (.int p), .val (.int dr), .val (.int og), .val (.int sm), .unset, .unset] [(.ref x_194)]
                  refine Go.astore 216 #[.val (.int p0), .val (.int p1), .val (.int p2), .val (.int p3), .val (.int ki), .val (.ref s_146), .val (.ref a2), .val (.int (12 : Int32)), .val (.int p), .val (.int dr), .val (.int og), .val (.int sm), .val (.ref x_194), .unset] at_214 rfl rfl rfl ?_
                  refine Go.iload 218 at_216 rfl rfl ?_
                  refine Go.iload 220 at_218 rfl rfl ?_
                  by_cases hc220 : dr = og
                  · skip
                    refine Go.icmpN 223 at_220 rfl (teq hc220).2 ?_
                    refine Go.aload 225 at_223 rfl rfl rfl ?_
                    refine Go.goto 229 at_225 (by decide) (by decide) ?_
                    refine Go.astore 231 #[.val (.int p0), .val (.int p1), .val (.int p2), .val (.int p3), .val (.int ki), .val (.ref s_146), .val (.ref a2), .val (.int (12 : Int32)), .val (.int p), .val (.int dr), .val (.int og), .val (.int sm), .val (.ref x_194), .val (.ref a2)] at_229 rfl rfl rfl ?_
                    refine Go.goto 274 at_231 (by decide) (by decide) ?_
                    refine Go.more (cells' := 12) (slots' := 200) (sf' := []) ?_ (Nat.le_of_ble_eq_true rfl) (Nat.le_of_ble_eq_true rfl) (fun _ q => nomatch q)
                    exact law_tail (ws := ([(83 : Int32), (121 : Int32), (109 : Int32), (109 : Int32), (101 : Int32), (116 : Int32), (114 : Int32), (105 : Int32), (99 : Int32), (75 : Int32), (101 : Int32), (121 : Int32)].set p.toInt.toNat dr)) hw z fm SC hz SF rF UA UH UL va a0 a1 a2 a3 k0 k1 k2 k3 Z0 Z1 Z2 Z3 FK0 SK0 FK1 SK1 FK2 SK2 FK3 SK3 ZV AV XV rfl rfl rfl rfl S_197 (by simp) (Or.inr (Or.inr (Or.inr (Or.inl ⟨rfl, set_same (hc220.trans e_og)⟩))))
                  · skip
                    refine Go.icmpY 228 at_220 (by decide) (by decide) (feq hc220).2 ?_
                    refine Go.aconstNull 229 at_228 rfl ?_
                    refine Go.astore 231 #[.val (.int p0), .val (.int p1), .val (.int p2), .val (.int p3), .val (.int ki), .val (.ref s_146), .val (.ref a2), .val (.int (12 : Int32)), .val (.int p), .val (.int dr), .val (.int og), .val (.int sm), .val (.ref x_194), .val .null] at_229 rfl rfl rfl ?_
                    refine Go.goto 274 at_231 (by decide) (by decide) ?_
                    refine Go.more (cells' := 12) (slots' := 200) (sf' := []) ?_ (Nat.le_of_ble_eq_true rfl) (Nat.le_of_ble_eq_true rfl) (fun _ q => nomatch q)
                    exact law_tail (ws := ([(83 : Int32), (121 : Int32), (109 : Int32), (109 : Int32), (101 : Int32), (116 : Int32), (114 : Int32), (105 : Int32), (99 : Int32), (75 : Int32), (101 : Int32), (121 : Int32)].set p.toInt.toNat dr)) hw z fm SC hz SF rF UA UH UL va a0 a1 a2 a3 k0 k1 k2 k3 Z0 Z1 Z2 Z3 FK0 SK0 FK1 SK1 FK2 SK2 FK3 SK3 ZV AV XV rfl rfl rfl rfl S_197 (by simp) (Or.inl ⟨rfl, (len_ne (by simp [kw0])), (len_ne (by simp [kw1])), (set_ne e_og hc220 (by show p.toInt.toNat < 12; omega)), (len_ne (by simp [kw3]))⟩)
                · skip
                  refine Go.icmpN 198 at_195 rfl (feq hc195).1 ?_
                  refine Go.iload 200 at_198 rfl rfl ?_
                  refine Go.iconst 201 (5 : Int32) at_200 rfl rfl ?_
                  by_cases hc201 : sm = (5 : Int32)
                  · skip
                    refine Go.icmpN 204 at_201 rfl (teq hc201).2 ?_
                    refine Go.aload 206 at_204 rfl rfl rfl ?_
                    refine Go.iconst 207 (0 : Int32) at_206 rfl rfl ?_
                    refine Go.iload 209 at_207 rfl rfl ?_
                    refine Go.iload 211 at_209 rfl rfl ?_
                    refine Go.callS (S := []) 214 [(.ref s_146), (.int (0 : Int32)), (.int p), (.int dr)] at_211 rfl rfl (w48 hw) (w49 hw) (w50 hw) (w51 hw) (by decide) (call_of_go (R := _) (len := 3) (W := 0) (plainFor_of_name pn_3) (fun mid => ef_bld1 mid s_146 p dr z (12 : Int32) (12 : Int32) (12 : Int32) fm p.toInt.toNat 12 12 12 [(83 : Int32), (121 : Int32), (109 : Int32), (109 : Int32), (101 : Int32), (116 : Int32), (114 : Int32), (105 : Int32), (99 : Int32), (75 : Int32), (101 : Int32), (121 : Int32)] [(83 : Int32), (121 : Int32), (109 : Int32), (109 : Int32), (101 : Int32), (116 : Int32), (114 : Int32), (105 : Int32), (99 : Int32), (75 : Int32), (101 : Int32), (121 : Int32)] ) (c_bld1 hw s_146 p dr z (12 : Int32) (12 : Int32) (12 : Int32) fm p.toInt.toNat 12 12 12 [(83 : Int32), (121 : Int32), (109 : Int32), (109 : Int32), (101 : Int32), (116 : Int32), (114 : Int32), (105 : Int32), (99 : Int32), (75 : Int32), (101 : Int32), (121 : Int32)] [(83 : Int32), (121 : Int32), (109 : Int32), (109 : Int32), (101 : Int32), (116 : Int32), (114 : Int32), (105 : Int32), (99 : Int32), (75 : Int32), (101 : Int32), (121 : Int32)] S_156 b_dr (by unfold CHP; decide) (Nat.le_of_ble_eq_true rfl) (by decide) (by decide) (by decide) (by decide) (by decide) (by decide) (by decide) (by decide) (by decide) (by decide) rfl (Int.toNat_of_nonneg b_p.1).symm (by omega) SC hz SF rF UA UH UL) (w51 hw) (w50 hw) (by decide) (by decide)) (lenOf pd_20 rfl) (Nat.le_of_ble_eq_true rfl) rfl (Nat.le_of_ble_eq_true rfl) (Nat.le_of_ble_eq_true rfl) (fun _ q => nomatch q) (fun v h_199 sf_204 hq => ?_)
                    obtain ⟨x_200, rfl, E_201, le_202, S_203⟩ := hq
                    refine Go.more (sf' := []) ?_ (Nat.le_refl _) (Nat.le_refl _) (fun _ q => List.mem_append_right _ q)
                    show G_law l Z n0 6 108 [] h_199 214 #[.val (.int p0), .val (.int p1), .val (.int p2), .val (.int p3), .val (.int ki), .val (.ref s_146), .val (.ref a2), .val (.int (12 : Int32)), .val (.int p), .val (.int dr), .val (.int og), .val (.int sm), .unset, .unset] [(.ref x_200)]
                    refine Go.astore 216 #[.val (.int p0), .val (.int p1), .val (.int p2), .val (.int p3), .val (.int ki), .val (.ref s_146), .val (.ref a2), .val (.int (12 : Int32)), .val (.int p), .val (.int dr), .val (.int og), .val (.int sm), .val (.ref x_200), .unset] at_214 rfl rfl rfl ?_
                    refine Go.iload 218 at_216 rfl rfl ?_
                    refine Go.iload 220 at_218 rfl rfl ?_
                    by_cases hc220 : dr = og
                    · skip
                      refine Go.icmpN 223 at_220 rfl (teq hc220).2 ?_
                      refine Go.aload 225 at_223 rfl rfl rfl ?_
                      refine Go.goto 229 at_225 (by decide) (by decide) ?_
                      refine Go.astore 231 #[.val (.int p0), .val (.int p1), .val (.int p2), .val (.int p3), .val (.int ki), .val (.ref s_146), .val (.ref a2), .val (.int (12 : Int32)), .val (.int p), .val (.int dr), .val (.int og), .val (.int sm), .val (.ref x_200), .val (.ref a2)] at_229 rfl rfl rfl ?_
                      refine Go.goto 274 at_231 (by decide) (by decide) ?_
                      refine Go.more (cells' := 12) (slots' := 200) (sf' := []) ?_ (Nat.le_of_ble_eq_true rfl) (Nat.le_of_ble_eq_true rfl) (fun _ q => nomatch q)
                      exact law_tail (ws := ([(83 : Int32), (121 : Int32), (109 : Int32), (109 : Int32), (101 : Int32), (116 : Int32), (114 : Int32), (105 : Int32), (99 : Int32), (75 : Int32), (101 : Int32), (121 : Int32)].set p.toInt.toNat dr)) hw z fm SC hz SF rF UA UH UL va a0 a1 a2 a3 k0 k1 k2 k3 Z0 Z1 Z2 Z3 FK0 SK0 FK1 SK1 FK2 SK2 FK3 SK3 ZV AV XV rfl rfl rfl rfl S_203 (by simp) (Or.inr (Or.inr (Or.inr (Or.inl ⟨rfl, set_same (hc220.trans e_og)⟩))))
                    · skip
                      refine Go.icmpY 228 at_220 (by decide) (by decide) (feq hc220).2 ?_
                      refine Go.aconstNull 229 at_228 rfl ?_
                      refine Go.astore 231 #[.val (.int p0), .val (.int p1), .val (.int p2), .val (.int p3), .val (.int ki), .val (.ref s_146), .val (.ref a2), .val (.int (12 : Int32)), .val (.int p), .val (.int dr), .val (.int og), .val (.int sm), .val (.ref x_200), .val .null] at_229 rfl rfl rfl ?_
                      refine Go.goto 274 at_231 (by decide) (by decide) ?_
                      refine Go.more (cells' := 12) (slots' := 200) (sf' := []) ?_ (Nat.le_of_ble_eq_true rfl) (Nat.le_of_ble_eq_true rfl) (fun _ q => nomatch q)
                      exact law_tail (ws := ([(83 : Int32), (121 : Int32), (109 : Int32), (109 : Int32), (101 : Int32), (116 : Int32), (114 : Int32), (105 : Int32), (99 : Int32), (75 : Int32), (101 : Int32), (121 : Int32)].set p.toInt.toNat dr)) hw z fm SC hz SF rF UA UH UL va a0 a1 a2 a3 k0 k1 k2 k3 Z0 Z1 Z2 Z3 FK0 SK0 FK1 SK1 FK2 SK2 FK3 SK3 ZV AV XV rfl rfl rfl rfl S_203 (by simp) (Or.inl ⟨rfl, (len_ne (by simp [kw0])), (len_ne (by simp [kw1])), (set_ne e_og hc220 (by show p.toInt.toNat < 12; omega)), (len_ne (by simp [kw3]))⟩)
                  · skip
                    refine Go.icmpY 234 at_201 (by decide) (by decide) (feq hc201).2 ?_
                    refine Go.iload 236 at_234 rfl rfl ?_
                    refine Go.bipush 238 (6 : Int32) at_236 rfl rfl ?_
                    by_cases hc238 : sm = (6 : Int32)
                    · skip
                      refine Go.icmpN 241 at_238 rfl (teq hc238).2 ?_
                      refine Go.aload 243 at_241 rfl rfl rfl ?_
                      refine Go.iconst 244 (-1 : Int32) at_243 rfl rfl ?_
                      refine Go.iload 246 at_244 rfl rfl ?_
                      refine Go.iload 248 at_246 rfl rfl ?_
                      refine Go.callS (S := []) 251 [(.ref s_146), (.int (-1 : Int32)), (.int p), (.int dr)] at_248 rfl rfl (w48 hw) (w49 hw) (w50 hw) (w51 hw) (by decide) (call_of_go (R := _) (len := 3) (W := 0) (plainFor_of_name pn_3) (fun mid => ef_bld0 mid s_146 p dr z (12 : Int32) (11 : Int32) (11 : Int32) fm p.toInt.toNat 12 11 11 [(83 : Int32), (121 : Int32), (109 : Int32), (109 : Int32), (101 : Int32), (116 : Int32), (114 : Int32), (105 : Int32), (99 : Int32), (75 : Int32), (101 : Int32), (121 : Int32)] [(83 : Int32), (121 : Int32), (109 : Int32), (109 : Int32), (101 : Int32), (116 : Int32), (114 : Int32), (105 : Int32), (99 : Int32), (75 : Int32), (101 : Int32)] ) (c_bld0 hw s_146 p dr z (12 : Int32) (11 : Int32) (11 : Int32) fm p.toInt.toNat 12 11 11 [(83 : Int32), (121 : Int32), (109 : Int32), (109 : Int32), (101 : Int32), (116 : Int32), (114 : Int32), (105 : Int32), (99 : Int32), (75 : Int32), (101 : Int32), (121 : Int32)] [(83 : Int32), (121 : Int32), (109 : Int32), (109 : Int32), (101 : Int32), (116 : Int32), (114 : Int32), (105 : Int32), (99 : Int32), (75 : Int32), (101 : Int32)] S_156 b_dr (by unfold CHP; decide) (Nat.le_of_ble_eq_true rfl) (by decide) (by decide) (by decide) (by decide) (by decide) (by decide) (by decide) (by decide) (by decide) (by decide) rfl SC hz SF rF UA UH UL) (w51 hw) (w50 hw) (by decide) (by decide)) (lenOf pd_20 rfl) (Nat.le_of_ble_eq_true rfl) rfl (Nat.le_of_ble_eq_true rfl) (Nat.le_of_ble_eq_true rfl) (fun _ q => nomatch q) (fun v h_205 sf_210 hq => ?_)
                      obtain ⟨x_206, rfl, E_207, le_208, S_209⟩ := hq
                      refine Go.more (sf' := []) ?_ (Nat.le_refl _) (Nat.le_refl _) (fun _ q => List.mem_append_right _ q)
                      show G_law l Z n0 6 108 [] h_205 251 #[.val (.int p0), .val (.int p1), .val (.int p2), .val (.int p3), .val (.int ki), .val (.ref s_146), .val (.ref a2), .val (.int (12 : Int32)), .val (.int p), .val (.int dr), .val (.int og), .val (.int sm), .unset, .unset] [(.ref x_206)]
                      refine Go.astore 253 #[.val (.int p0), .val (.int p1), .val (.int p2), .val (.int p3), .val (.int ki), .val (.ref s_146), .val (.ref a2), .val (.int (12 : Int32)), .val (.int p), .val (.int dr), .val (.int og), .val (.int sm), .val (.ref x_206), .unset] at_251 rfl rfl rfl ?_
                      refine Go.aconstNull 254 at_253 rfl ?_
                      refine Go.astore 256 #[.val (.int p0), .val (.int p1), .val (.int p2), .val (.int p3), .val (.int ki), .val (.ref s_146), .val (.ref a2), .val (.int (12 : Int32)), .val (.int p), .val (.int dr), .val (.int og), .val (.int sm), .val (.ref x_206), .val .null] at_254 rfl rfl rfl ?_
                      refine Go.goto 274 at_256 (by decide) (by decide) ?_
                      refine Go.more (cells' := 12) (slots' := 200) (sf' := []) ?_ (Nat.le_of_ble_eq_true rfl) (Nat.le_of_ble_eq_true rfl) (fun _ q => nomatch q)
                      exact law_tail (ws := [(83 : Int32), (121 : Int32), (109 : Int32), (109 : Int32), (101 : Int32), (116 : Int32), (114 : Int32), (105 : Int32), (99 : Int32), (75 : Int32), (101 : Int32)]) hw z fm SC hz SF rF UA UH UL va a0 a1 a2 a3 k0 k1 k2 k3 Z0 Z1 Z2 Z3 FK0 SK0 FK1 SK1 FK2 SK2 FK3 SK3 ZV AV XV rfl rfl rfl rfl S_209 (Nat.le_of_ble_eq_true rfl) (Or.inl ⟨rfl, (by decide), (by decide), (by decide), (by decide)⟩)
                    · skip
                      refine Go.icmpY 259 at_238 (by decide) (by decide) (feq hc238).2 ?_
                      refine Go.aload 261 at_259 rfl rfl rfl ?_
                      refine Go.iconst 262 (1 : Int32) at_261 rfl rfl ?_
                      refine Go.iload 264 at_262 rfl rfl ?_
                      refine Go.iload 266 at_264 rfl rfl ?_
                      refine Go.callS (S := []) 269 [(.ref s_146), (.int (1 : Int32)), (.int p), (.int dr)] at_266 rfl rfl (w48 hw) (w49 hw) (w50 hw) (w51 hw) (by decide) (call_of_go (R := _) (len := 3) (W := 0) (plainFor_of_name pn_3) (fun mid => ef_bld2 mid s_146 p dr z (12 : Int32) (13 : Int32) (12 : Int32) fm p.toInt.toNat 12 13 12 [(83 : Int32), (121 : Int32), (109 : Int32), (109 : Int32), (101 : Int32), (116 : Int32), (114 : Int32), (105 : Int32), (99 : Int32), (75 : Int32), (101 : Int32), (121 : Int32)] [(83 : Int32), (121 : Int32), (109 : Int32), (109 : Int32), (101 : Int32), (116 : Int32), (114 : Int32), (105 : Int32), (99 : Int32), (75 : Int32), (101 : Int32), (121 : Int32), (0 : Int32)] ) (c_bld2 hw s_146 p dr z (12 : Int32) (13 : Int32) (12 : Int32) fm p.toInt.toNat 12 13 12 [(83 : Int32), (121 : Int32), (109 : Int32), (109 : Int32), (101 : Int32), (116 : Int32), (114 : Int32), (105 : Int32), (99 : Int32), (75 : Int32), (101 : Int32), (121 : Int32)] [(83 : Int32), (121 : Int32), (109 : Int32), (109 : Int32), (101 : Int32), (116 : Int32), (114 : Int32), (105 : Int32), (99 : Int32), (75 : Int32), (101 : Int32), (121 : Int32), (0 : Int32)] S_156 b_dr (by unfold CHP; decide) (Nat.le_of_ble_eq_true rfl) (by decide) (by decide) (by decide) (by decide) (by decide) (by decide) (by decide) (by decide) (by decide) (by decide) rfl (by decide) (by decide) SC hz SF rF UA UH UL) (w51 hw) (w50 hw) (by decide) (by decide)) (lenOf pd_20 rfl) (Nat.le_of_ble_eq_true rfl) rfl (Nat.le_of_ble_eq_true rfl) (Nat.le_of_ble_eq_true rfl) (fun _ q => nomatch q) (fun v h_211 sf_216 hq => ?_)
                      obtain ⟨x_212, rfl, E_213, le_214, S_215⟩ := hq
                      refine Go.more (sf' := []) ?_ (Nat.le_refl _) (Nat.le_refl _) (fun _ q => List.mem_append_right _ q)
                      show G_law l Z n0 6 108 [] h_211 269 #[.val (.int p0), .val (.int p1), .val (.int p2), .val (.int p3), .val (.int ki), .val (.ref s_146), .val (.ref a2), .val (.int (12 : Int32)), .val (.int p), .val (.int dr), .val (.int og), .val (.int sm), .unset, .unset] [(.ref x_212)]
                      refine Go.astore 271 #[.val (.int p0), .val (.int p1), .val (.int p2), .val (.int p3), .val (.int ki), .val (.ref s_146), .val (.ref a2), .val (.int (12 : Int32)), .val (.int p), .val (.int dr), .val (.int og), .val (.int sm), .val (.ref x_212), .unset] at_269 rfl rfl rfl ?_
                      refine Go.aconstNull 272 at_271 rfl ?_
                      refine Go.astore 274 #[.val (.int p0), .val (.int p1), .val (.int p2), .val (.int p3), .val (.int ki), .val (.ref s_146), .val (.ref a2), .val (.int (12 : Int32)), .val (.int p), .val (.int dr), .val (.int og), .val (.int sm), .val (.ref x_212), .val .null] at_272 rfl rfl rfl ?_
                      refine Go.more (cells' := 12) (slots' := 200) (sf' := []) ?_ (Nat.le_of_ble_eq_true rfl) (Nat.le_of_ble_eq_true rfl) (fun _ q => nomatch q)
                      exact law_tail (ws := [(83 : Int32), (121 : Int32), (109 : Int32), (109 : Int32), (101 : Int32), (116 : Int32), (114 : Int32), (105 : Int32), (99 : Int32), (75 : Int32), (101 : Int32), (121 : Int32), dr]) hw z fm SC hz SF rF UA UH UL va a0 a1 a2 a3 k0 k1 k2 k3 Z0 Z1 Z2 Z3 FK0 SK0 FK1 SK1 FK2 SK2 FK3 SK3 ZV AV XV rfl rfl rfl rfl S_215 (Nat.le_of_ble_eq_true rfl) (Or.inl ⟨rfl, (by simp [kw0]), (by simp [kw1]), (by simp [kw2]), (by simp [kw3])⟩)
      · skip
        refine Go.icmpY 58 at_43 (by decide) (by decide) (feq hc43).2 ?_
        refine Go.ldcL (vs := [(.int (70 : Int32)), (.int (117 : Int32)), (.int (110 : Int32)), (.int (99 : Int32)), (.int (116 : Int32)), (.int (105 : Int32)), (.int (111 : Int32)), (.int (110 : Int32))]) (z := (8 : Int32)) 32 60 at_58 rfl (w0 hw) (wS hw) (List.mem_of_getElem? (i := 3) rfl) ⟨by decide, rfl⟩ (by decide) (by decide) (by decide) (by decide) (Nat.le_of_ble_eq_true rfl) (Nat.le_of_ble_eq_true rfl) (fun h_217 s_218 b_219 k_220 E_221 A_222 C_223 V_224 B_225 ne_226 => ?_)
        have B_227 : Ary Z h_217 b_219 .byte [(.int (70 : Int32)), (.int (117 : Int32)), (.int (110 : Int32)), (.int (99 : Int32)), (.int (116 : Int32)), (.int (105 : Int32)), (.int (111 : Int32)), (.int (110 : Int32))] := Ary.ofArv B_225 rfl (by decide)
        have S_228 : Str Z h_217 s_218 [(70 : Int32), (117 : Int32), (110 : Int32), (99 : Int32), (116 : Int32), (105 : Int32), (111 : Int32), (110 : Int32)] := ⟨_, A_222, C_223, V_224, B_227, by unfold Lat; decide⟩
        show G_law l Z n0 2 36 [] h_217 60 #[.val (.int p0), .val (.int p1), .val (.int p2), .val (.int p3), .val (.int ki), .unset, .unset, .unset, .unset, .unset, .unset, .unset, .unset, .unset] [(.ref s_218)]
        refine Go.astore 62 #[.val (.int p0), .val (.int p1), .val (.int p2), .val (.int p3), .val (.int ki), .val (.ref s_218), .unset, .unset, .unset, .unset, .unset, .unset, .unset, .unset] at_60 rfl rfl rfl ?_
        refine Go.getS 65 at_62 rfl (w8 hw) Via.refl Z3 ?_
        refine Go.astore 67 #[.val (.int p0), .val (.int p1), .val (.int p2), .val (.int p3), .val (.int ki), .val (.ref s_218), .val (.ref a3), .unset, .unset, .unset, .unset, .unset, .unset, .unset] at_65 rfl rfl rfl ?_
        refine Go.aload 69 at_67 rfl rfl rfl ?_
        refine Go.old fun o_229 _ => ?_
        refine Go.callV (S := []) (a := s_218) 72 [] at_69 rfl rfl (w11 hw) (w12 hw) (w14 hw) (w13 hw) (fun _ q => notFace_of_selects (args := #[]) (mvT q (w14 hw))) (by decide) A_222 (strLen (W := 0) (hln hw) (w2 hw) S_228 (by decide) o_229 SC hz (by decide) (by decide)) (lenOf pd_13 rfl) (Nat.le_of_ble_eq_true rfl) rfl (Nat.le_of_ble_eq_true rfl) (Nat.le_of_ble_eq_true rfl) (fun _ q => q) (fun v h_230 sf_231 hq => ?_)
        obtain ⟨rfl, rfl⟩ := hq
        refine Go.more (sf' := []) ?_ (Nat.le_refl _) (Nat.le_refl _) (fun _ q => List.mem_append_right _ q)
        show G_law l Z n0 2 36 [] h_217 72 #[.val (.int p0), .val (.int p1), .val (.int p2), .val (.int p3), .val (.int ki), .val (.ref s_218), .val (.ref a3), .unset, .unset, .unset, .unset, .unset, .unset, .unset] [(.int (Int32.ofNat ([(70 : Int32), (117 : Int32), (110 : Int32), (99 : Int32), (116 : Int32), (105 : Int32), (111 : Int32), (110 : Int32)]).length))]
        rw [show (Int32.ofNat ([(70 : Int32), (117 : Int32), (110 : Int32), (99 : Int32), (116 : Int32), (105 : Int32), (111 : Int32), (110 : Int32)]).length) = (8 : Int32) from by decide]
        show G_law l Z n0 2 36 [] h_217 72 #[.val (.int p0), .val (.int p1), .val (.int p2), .val (.int p3), .val (.int ki), .val (.ref s_218), .val (.ref a3), .unset, .unset, .unset, .unset, .unset, .unset, .unset] [(.int (8 : Int32))]
        refine Go.istore 74 #[.val (.int p0), .val (.int p1), .val (.int p2), .val (.int p3), .val (.int ki), .val (.ref s_218), .val (.ref a3), .val (.int (8 : Int32)), .unset, .unset, .unset, .unset, .unset, .unset] at_72 rfl rfl ?_
        refine Go.iloadN 75 at_74 rfl rfl ?_
        refine Go.ldcI 77 at_75 rfl (w24 hw) ?_
        refine Go.iand 78 at_77 rfl ?_
        refine Go.iload 80 at_78 rfl rfl ?_
        refine Go.irem 81 at_80 rfl (by decide) ?_
        obtain ⟨p, e_p⟩ : ∃ y_ : Int32, y_ = ((p2 &&& (2147483647 : Int32)) % (8 : Int32)) := ⟨_, rfl⟩
        have b_p : 0 ≤ p.toInt ∧ p.toInt < 8 := by rw [e_p]; exact (fun q => ⟨q.1, q.2.1⟩) ((c_iremV (p2 &&& (2147483647 : Int32)) (8 : Int32)).1 (c_and p2 2147483647 (by decide)).1 (by decide))
        rw [← e_p]
        show G_law l Z n0 2 36 [] h_217 81 #[.val (.int p0), .val (.int p1), .val (.int p2), .val (.int p3), .val (.int ki), .val (.ref s_218), .val (.ref a3), .val (.int (8 : Int32)), .unset, .unset, .unset, .unset, .unset, .unset] [(.int p)]
        refine Go.istore 83 #[.val (.int p0), .val (.int p1), .val (.int p2), .val (.int p3), .val (.int ki), .val (.ref s_218), .val (.ref a3), .val (.int (8 : Int32)), .val (.int p), .unset, .unset, .unset, .unset, .unset] at_81 rfl rfl ?_
        refine Go.iloadN 84 at_83 rfl rfl ?_
        refine Go.ldcI 86 at_84 rfl (w25 hw) ?_
        refine Go.iand 87 at_86 rfl ?_
        refine Go.i2c 88 at_87 rfl ?_
        obtain ⟨dr, e_dr⟩ : ∃ y_ : Int32, y_ = (chr (p3 &&& (65535 : Int32))) := ⟨_, rfl⟩
        have b_dr : CHP dr := by rw [e_dr]; exact chp_chr _
        rw [← e_dr]
        show G_law l Z n0 2 36 [] h_217 88 #[.val (.int p0), .val (.int p1), .val (.int p2), .val (.int p3), .val (.int ki), .val (.ref s_218), .val (.ref a3), .val (.int (8 : Int32)), .val (.int p), .unset, .unset, .unset, .unset, .unset] [(.int dr)]
        refine Go.istore 90 #[.val (.int p0), .val (.int p1), .val (.int p2), .val (.int p3), .val (.int ki), .val (.ref s_218), .val (.ref a3), .val (.int (8 : Int32)), .val (.int p), .val (.int dr), .unset, .unset, .unset, .unset] at_88 rfl rfl ?_
        refine Go.aload 92 at_90 rfl rfl rfl ?_
        refine Go.iload 94 at_92 rfl rfl ?_
        refine Go.old fun o_232 _ => ?_
        refine Go.callV (S := []) (a := s_218) 97 [(.int p)] at_94 rfl rfl (w26 hw) (w27 hw) (w29 hw) (w28 hw) (fun _ q => notFace_of_selects (args := #[]) (mvT q (w29 hw))) (by decide) A_222 (strCh (W := 0) (hch hw) (w2 hw) S_228 (by decide) o_232 SC hz SF rF p.toInt.toNat (Int.toNat_of_nonneg b_p.1).symm (by show p.toInt.toNat < 8; omega) (by decide) (by decide)) (lenOf pd_12 rfl) (Nat.le_of_ble_eq_true rfl) rfl (Nat.le_of_ble_eq_true rfl) (Nat.le_of_ble_eq_true rfl) (fun _ q => q) (fun v h_233 sf_234 hq => ?_)
        obtain ⟨rfl, rfl⟩ := hq
        refine Go.more (sf' := []) ?_ (Nat.le_refl _) (Nat.le_refl _) (fun _ q => List.mem_append_right _ q)
        show G_law l Z n0 2 36 [] h_217 97 #[.val (.int p0), .val (.int p1), .val (.int p2), .val (.int p3), .val (.int ki), .val (.ref s_218), .val (.ref a3), .val (.int (8 : Int32)), .val (.int p), .val (.int dr), .unset, .unset, .unset, .unset] [(.int (([(70 : Int32), (117 : Int32), (110 : Int32), (99 : Int32), (116 : Int32), (105 : Int32), (111 : Int32), (110 : Int32)]).getD p.toInt.toNat 0))]
        obtain ⟨og, e_og⟩ : ∃ y_ : Int32, y_ = (([(70 : Int32), (117 : Int32), (110 : Int32), (99 : Int32), (116 : Int32), (105 : Int32), (111 : Int32), (110 : Int32)]).getD p.toInt.toNat 0) := ⟨_, rfl⟩
        have b_og : CHP og := by rw [e_og]; exact kw_chp (by unfold CHP; decide) _
        rw [← e_og]
        show G_law l Z n0 2 36 [] h_217 97 #[.val (.int p0), .val (.int p1), .val (.int p2), .val (.int p3), .val (.int ki), .val (.ref s_218), .val (.ref a3), .val (.int (8 : Int32)), .val (.int p), .val (.int dr), .unset, .unset, .unset, .unset] [(.int og)]
        refine Go.istore 99 #[.val (.int p0), .val (.int p1), .val (.int p2), .val (.int p3), .val (.int ki), .val (.ref s_218), .val (.ref a3), .val (.int (8 : Int32)), .val (.int p), .val (.int dr), .val (.int og), .unset, .unset, .unset] at_97 rfl rfl ?_
        refine Go.iloadN 100 at_99 rfl rfl ?_
        refine Go.bipush 102 (7 : Int32) at_100 rfl rfl ?_
        refine Go.iand 103 at_102 rfl ?_
        obtain ⟨sm, e_sm⟩ : ∃ y_ : Int32, y_ = (p0 &&& (7 : Int32)) := ⟨_, rfl⟩
        rw [← e_sm]
        show G_law l Z n0 2 36 [] h_217 103 #[.val (.int p0), .val (.int p1), .val (.int p2), .val (.int p3), .val (.int ki), .val (.ref s_218), .val (.ref a3), .val (.int (8 : Int32)), .val (.int p), .val (.int dr), .val (.int og), .unset, .unset, .unset] [(.int sm)]
        refine Go.istore 105 #[.val (.int p0), .val (.int p1), .val (.int p2), .val (.int p3), .val (.int ki), .val (.ref s_218), .val (.ref a3), .val (.int (8 : Int32)), .val (.int p), .val (.int dr), .val (.int og), .val (.int sm), .unset, .unset] at_103 rfl rfl ?_
        refine Go.iload 107 at_105 rfl rfl ?_
        by_cases hc107 : sm = (0 : Int32)
        · skip
          refine Go.ifN 110 at_107 rfl (teq hc107).2 ?_
          refine Go.aload 112 at_110 rfl rfl rfl ?_
          refine Go.iconst 113 (0 : Int32) at_112 rfl rfl ?_
          refine Go.iload 115 at_113 rfl rfl ?_
          refine Go.iload 117 at_115 rfl rfl ?_
          refine Go.bipush 119 (32 : Int32) at_117 rfl rfl ?_
          refine Go.ixor 120 at_119 rfl ?_
          refine Go.i2c 121 at_120 rfl ?_
          refine Go.callS (S := []) 124 [(.ref s_218), (.int (0 : Int32)), (.int p), (.int (chr (og ^^^ (32 : Int32))))] at_121 rfl rfl (w48 hw) (w49 hw) (w50 hw) (w51 hw) (by decide) (call_of_go (R := _) (len := 3) (W := 0) (plainFor_of_name pn_3) (fun mid => ef_bld1 mid s_218 p (chr (og ^^^ (32 : Int32))) z (8 : Int32) (8 : Int32) (8 : Int32) fm p.toInt.toNat 8 8 8 [(70 : Int32), (117 : Int32), (110 : Int32), (99 : Int32), (116 : Int32), (105 : Int32), (111 : Int32), (110 : Int32)] [(70 : Int32), (117 : Int32), (110 : Int32), (99 : Int32), (116 : Int32), (105 : Int32), (111 : Int32), (110 : Int32)] ) (c_bld1 hw s_218 p (chr (og ^^^ (32 : Int32))) z (8 : Int32) (8 : Int32) (8 : Int32) fm p.toInt.toNat 8 8 8 [(70 : Int32), (117 : Int32), (110 : Int32), (99 : Int32), (116 : Int32), (105 : Int32), (111 : Int32), (110 : Int32)] [(70 : Int32), (117 : Int32), (110 : Int32), (99 : Int32), (116 : Int32), (105 : Int32), (111 : Int32), (110 : Int32)] S_228 (chp_chr _) (by unfold CHP; decide) (Nat.le_of_ble_eq_true rfl) (by decide) (by decide) (by decide) (by decide) (by decide) (by decide) (by decide) (by decide) (by decide) (by decide) rfl (Int.toNat_of_nonneg b_p.1).symm (by omega) SC hz SF rF UA UH UL) (w51 hw) (w50 hw) (by decide) (by decide)) (lenOf pd_20 rfl) (Nat.le_of_ble_eq_true rfl) rfl (Nat.le_of_ble_eq_true rfl) (Nat.le_of_ble_eq_true rfl) (fun _ q => nomatch q) (fun v h_235 sf_240 hq => ?_)
          obtain ⟨x_236, rfl, E_237, le_238, S_239⟩ := hq
          refine Go.more (sf' := []) ?_ (Nat.le_refl _) (Nat.le_refl _) (fun _ q => List.mem_append_right _ q)
          show G_law l Z n0 6 92 [] h_235 124 #[.val (.int p0), .val (.int p1), .val (.int p2), .val (.int p3), .val (.int ki), .val (.ref s_218), .val (.ref a3), .val (.int (8 : Int32)), .val (.int p), .val (.int dr), .val (.int og), .val (.int sm), .unset, .unset] [(.ref x_236)]
          refine Go.astore 126 #[.val (.int p0), .val (.int p1), .val (.int p2), .val (.int p3), .val (.int ki), .val (.ref s_218), .val (.ref a3), .val (.int (8 : Int32)), .val (.int p), .val (.int dr), .val (.int og), .val (.int sm), .val (.ref x_236), .unset] at_124 rfl rfl rfl ?_
          refine Go.aconstNull 127 at_126 rfl ?_
          refine Go.astore 129 #[.val (.int p0), .val (.int p1), .val (.int p2), .val (.int p3), .val (.int ki), .val (.ref s_218), .val (.ref a3), .val (.int (8 : Int32)), .val (.int p), .val (.int dr), .val (.int og), .val (.int sm), .val (.ref x_236), .val .null] at_127 rfl rfl rfl ?_
          refine Go.goto 274 at_129 (by decide) (by decide) ?_
          refine Go.more (cells' := 12) (slots' := 200) (sf' := []) ?_ (Nat.le_of_ble_eq_true rfl) (Nat.le_of_ble_eq_true rfl) (fun _ q => nomatch q)
          exact law_tail (ws := ([(70 : Int32), (117 : Int32), (110 : Int32), (99 : Int32), (116 : Int32), (105 : Int32), (111 : Int32), (110 : Int32)].set p.toInt.toNat (chr (og ^^^ (32 : Int32))))) hw z fm SC hz SF rF UA UH UL va a0 a1 a2 a3 k0 k1 k2 k3 Z0 Z1 Z2 Z3 FK0 SK0 FK1 SK1 FK2 SK2 FK3 SK3 ZV AV XV rfl rfl rfl rfl S_239 (by simp) (Or.inl ⟨rfl, (len_ne (by simp [kw0])), (len_ne (by simp [kw1])), (len_ne (by simp [kw2])), (by rw [e_og]; exact flip3 (by omega))⟩)
        · skip
          refine Go.ifY 132 at_107 (by decide) (by decide) (feq hc107).2 ?_
          refine Go.iload 134 at_132 rfl rfl ?_
          refine Go.iconst 135 (1 : Int32) at_134 rfl rfl ?_
          by_cases hc135 : sm = (1 : Int32)
          · skip
            refine Go.icmpN 138 at_135 rfl (teq hc135).2 ?_
            refine Go.iload 140 at_138 rfl rfl ?_
            refine Go.callS (S := []) 143 [(.int dr)] at_140 rfl rfl (w118 hw) (w119 hw) (w1 hw) (w120 hw) (by decide) (call_of_go (R := _) (len := 3) (W := 0) (plainFor_of_name pn_1) (fun mid => ef_valueof mid dr z ) (c_valueof hw dr z b_dr SC hz UA UH UL) (w120 hw) (w1 hw) (by decide) (by decide)) (lenOf pd_21 rfl) (Nat.le_of_ble_eq_true rfl) rfl (Nat.le_of_ble_eq_true rfl) (Nat.le_of_ble_eq_true rfl) (fun _ q => nomatch q) (fun v h_241 sf_246 hq => ?_)
            obtain ⟨x_242, rfl, E_243, le_244, S_245⟩ := hq
            refine Go.more (sf' := []) ?_ (Nat.le_refl _) (Nat.le_refl _) (fun _ q => List.mem_append_right _ q)
            show G_law l Z n0 4 42 [] h_241 143 #[.val (.int p0), .val (.int p1), .val (.int p2), .val (.int p3), .val (.int ki), .val (.ref s_218), .val (.ref a3), .val (.int (8 : Int32)), .val (.int p), .val (.int dr), .val (.int og), .val (.int sm), .unset, .unset] [(.ref x_242)]
            refine Go.astore 145 #[.val (.int p0), .val (.int p1), .val (.int p2), .val (.int p3), .val (.int ki), .val (.ref s_218), .val (.ref a3), .val (.int (8 : Int32)), .val (.int p), .val (.int dr), .val (.int og), .val (.int sm), .val (.ref x_242), .unset] at_143 rfl rfl rfl ?_
            refine Go.aconstNull 146 at_145 rfl ?_
            refine Go.astore 148 #[.val (.int p0), .val (.int p1), .val (.int p2), .val (.int p3), .val (.int ki), .val (.ref s_218), .val (.ref a3), .val (.int (8 : Int32)), .val (.int p), .val (.int dr), .val (.int og), .val (.int sm), .val (.ref x_242), .val .null] at_146 rfl rfl rfl ?_
            refine Go.goto 274 at_148 (by decide) (by decide) ?_
            refine Go.more (cells' := 12) (slots' := 200) (sf' := []) ?_ (Nat.le_of_ble_eq_true rfl) (Nat.le_of_ble_eq_true rfl) (fun _ q => nomatch q)
            exact law_tail (ws := [dr]) hw z fm SC hz SF rF UA UH UL va a0 a1 a2 a3 k0 k1 k2 k3 Z0 Z1 Z2 Z3 FK0 SK0 FK1 SK1 FK2 SK2 FK3 SK3 ZV AV XV rfl rfl rfl rfl S_245 (Nat.le_of_ble_eq_true rfl) (Or.inl ⟨rfl, (by simp [kw0]), (by simp [kw1]), (by simp [kw2]), (by simp [kw3])⟩)
          · skip
            refine Go.icmpY 151 at_135 (by decide) (by decide) (feq hc135).2 ?_
            refine Go.iload 153 at_151 rfl rfl ?_
            refine Go.iconst 154 (2 : Int32) at_153 rfl rfl ?_
            by_cases hc154 : sm = (2 : Int32)
            · skip
              refine Go.icmpN 157 at_154 rfl (teq hc154).2 ?_
              refine Go.ldcL (vs := []) (z := (0 : Int32)) 0 159 at_157 rfl (w115 hw) (wS hw) (List.mem_of_getElem? (i := 4) rfl) ⟨by decide, rfl⟩ (by decide) (by decide) (by decide) (by decide) (Nat.le_of_ble_eq_true rfl) (Nat.le_of_ble_eq_true rfl) (fun h_247 s_248 b_249 k_250 E_251 A_252 C_253 V_254 B_255 ne_256 => ?_)
              have B_257 : Ary Z h_247 b_249 .byte [] := Ary.ofArv B_255 rfl (by decide)
              have S_258 : Str Z h_247 s_248 [] := ⟨_, A_252, C_253, V_254, B_257, by unfold Lat; decide⟩
              show G_law l Z n0 4 40 [] h_247 159 #[.val (.int p0), .val (.int p1), .val (.int p2), .val (.int p3), .val (.int ki), .val (.ref s_218), .val (.ref a3), .val (.int (8 : Int32)), .val (.int p), .val (.int dr), .val (.int og), .val (.int sm), .unset, .unset] [(.ref s_248)]
              refine Go.astore 161 #[.val (.int p0), .val (.int p1), .val (.int p2), .val (.int p3), .val (.int ki), .val (.ref s_218), .val (.ref a3), .val (.int (8 : Int32)), .val (.int p), .val (.int dr), .val (.int og), .val (.int sm), .val (.ref s_248), .unset] at_159 rfl rfl rfl ?_
              refine Go.aconstNull 162 at_161 rfl ?_
              refine Go.astore 164 #[.val (.int p0), .val (.int p1), .val (.int p2), .val (.int p3), .val (.int ki), .val (.ref s_218), .val (.ref a3), .val (.int (8 : Int32)), .val (.int p), .val (.int dr), .val (.int og), .val (.int sm), .val (.ref s_248), .val .null] at_162 rfl rfl rfl ?_
              refine Go.goto 274 at_164 (by decide) (by decide) ?_
              refine Go.more (cells' := 12) (slots' := 200) (sf' := []) ?_ (Nat.le_of_ble_eq_true rfl) (Nat.le_of_ble_eq_true rfl) (fun _ q => nomatch q)
              exact law_tail (ws := []) hw z fm SC hz SF rF UA UH UL va a0 a1 a2 a3 k0 k1 k2 k3 Z0 Z1 Z2 Z3 FK0 SK0 FK1 SK1 FK2 SK2 FK3 SK3 ZV AV XV rfl rfl rfl rfl (Gst.ofStr S_258) (Nat.le_of_ble_eq_true rfl) (Or.inl ⟨rfl, (by simp [kw0]), (by simp [kw1]), (by simp [kw2]), (by simp [kw3])⟩)
            · skip
              refine Go.icmpY 167 at_154 (by decide) (by decide) (feq hc154).2 ?_
              refine Go.iload 169 at_167 rfl rfl ?_
              refine Go.iconst 170 (3 : Int32) at_169 rfl rfl ?_
              by_cases hc170 : sm = (3 : Int32)
              · skip
                refine Go.icmpN 173 at_170 rfl (teq hc170).2 ?_
                refine Go.aload 175 at_173 rfl rfl rfl ?_
                refine Go.iconst 176 (0 : Int32) at_175 rfl rfl ?_
                refine Go.iload 178 at_176 rfl rfl ?_
                refine Go.iload 180 at_178 rfl rfl ?_
                refine Go.callS (S := []) 183 [(.ref s_218), (.int (0 : Int32)), (.int p), (.int og)] at_180 rfl rfl (w48 hw) (w49 hw) (w50 hw) (w51 hw) (by decide) (call_of_go (R := _) (len := 3) (W := 0) (plainFor_of_name pn_3) (fun mid => ef_bld1 mid s_218 p og z (8 : Int32) (8 : Int32) (8 : Int32) fm p.toInt.toNat 8 8 8 [(70 : Int32), (117 : Int32), (110 : Int32), (99 : Int32), (116 : Int32), (105 : Int32), (111 : Int32), (110 : Int32)] [(70 : Int32), (117 : Int32), (110 : Int32), (99 : Int32), (116 : Int32), (105 : Int32), (111 : Int32), (110 : Int32)] ) (c_bld1 hw s_218 p og z (8 : Int32) (8 : Int32) (8 : Int32) fm p.toInt.toNat 8 8 8 [(70 : Int32), (117 : Int32), (110 : Int32), (99 : Int32), (116 : Int32), (105 : Int32), (111 : Int32), (110 : Int32)] [(70 : Int32), (117 : Int32), (110 : Int32), (99 : Int32), (116 : Int32), (105 : Int32), (111 : Int32), (110 : Int32)] S_228 b_og (by unfold CHP; decide) (Nat.le_of_ble_eq_true rfl) (by decide) (by decide) (by decide) (by decide) (by decide) (by decide) (by decide) (by decide) (by decide) (by decide) rfl (Int.toNat_of_nonneg b_p.1).symm (by omega) SC hz SF rF UA UH UL) (w51 hw) (w50 hw) (by decide) (by decide)) (lenOf pd_20 rfl) (Nat.le_of_ble_eq_true rfl) rfl (Nat.le_of_ble_eq_true rfl) (Nat.le_of_ble_eq_true rfl) (fun _ q => nomatch q) (fun v h_259 sf_264 hq => ?_)
                obtain ⟨x_260, rfl, E_261, le_262, S_263⟩ := hq
                refine Go.more (sf' := []) ?_ (Nat.le_refl _) (Nat.le_refl _) (fun _ q => List.mem_append_right _ q)
                show G_law l Z n0 6 92 [] h_259 183 #[.val (.int p0), .val (.int p1), .val (.int p2), .val (.int p3), .val (.int ki), .val (.ref s_218), .val (.ref a3), .val (.int (8 : Int32)), .val (.int p), .val (.int dr), .val (.int og), .val (.int sm), .unset, .unset] [(.ref x_260)]
                refine Go.astore 185 #[.val (.int p0), .val (.int p1), .val (.int p2), .val (.int p3), .val (.int ki), .val (.ref s_218), .val (.ref a3), .val (.int (8 : Int32)), .val (.int p), .val (.int dr), .val (.int og), .val (.int sm), .val (.ref x_260), .unset] at_183 rfl rfl rfl ?_
                refine Go.aload 187 at_185 rfl rfl rfl ?_
                refine Go.astore 189 #[.val (.int p0), .val (.int p1), .val (.int p2), .val (.int p3), .val (.int ki), .val (.ref s_218), .val (.ref a3), .val (.int (8 : Int32)), .val (.int p), .val (.int dr), .val (.int og), .val (.int sm), .val (.ref x_260), .val (.ref a3)] at_187 rfl rfl rfl ?_
                refine Go.goto 274 at_189 (by decide) (by decide) ?_
                refine Go.more (cells' := 12) (slots' := 200) (sf' := []) ?_ (Nat.le_of_ble_eq_true rfl) (Nat.le_of_ble_eq_true rfl) (fun _ q => nomatch q)
                exact law_tail (ws := ([(70 : Int32), (117 : Int32), (110 : Int32), (99 : Int32), (116 : Int32), (105 : Int32), (111 : Int32), (110 : Int32)].set p.toInt.toNat og)) hw z fm SC hz SF rF UA UH UL va a0 a1 a2 a3 k0 k1 k2 k3 Z0 Z1 Z2 Z3 FK0 SK0 FK1 SK1 FK2 SK2 FK3 SK3 ZV AV XV rfl rfl rfl rfl S_263 (by simp) (Or.inr (Or.inr (Or.inr (Or.inr (⟨rfl, set_same e_og⟩)))))
              · skip
                refine Go.icmpY 192 at_170 (by decide) (by decide) (feq hc170).2 ?_
                refine Go.iload 194 at_192 rfl rfl ?_
                refine Go.iconst 195 (4 : Int32) at_194 rfl rfl ?_
                by_cases hc195 : sm = (4 : Int32)
                · skip
                  refine Go.icmpY 204 at_195 (by decide) (by decide) (teq hc195).1 ?_
                  refine Go.aload 206 at_204 rfl rfl rfl ?_
                  refine Go.iconst 207 (0 : Int32) at_206 rfl rfl ?_
                  refine Go.iload 209 at_207 rfl rfl ?_
                  refine Go.iload 211 at_209 rfl rfl ?_
                  refine Go.callS (S := []) 214 [(.ref s_218), (.int (0 : Int32)), (.int p), (.int dr)] at_211 rfl rfl (w48 hw) (w49 hw) (w50 hw) (w51 hw) (by decide) (call_of_go (R := _) (len := 3) (W := 0) (plainFor_of_name pn_3) (fun mid => ef_bld1 mid s_218 p dr z (8 : Int32) (8 : Int32) (8 : Int32) fm p.toInt.toNat 8 8 8 [(70 : Int32), (117 : Int32), (110 : Int32), (99 : Int32), (116 : Int32), (105 : Int32), (111 : Int32), (110 : Int32)] [(70 : Int32), (117 : Int32), (110 : Int32), (99 : Int32), (116 : Int32), (105 : Int32), (111 : Int32), (110 : Int32)] ) (c_bld1 hw s_218 p dr z (8 : Int32) (8 : Int32) (8 : Int32) fm p.toInt.toNat 8 8 8 [(70 : Int32), (117 : Int32), (110 : Int32), (99 : Int32), (116 : Int32), (105 : Int32), (111 : Int32), (110 : Int32)] [(70 : Int32), (117 : Int32), (110 : Int32), (99 : Int32), (116 : Int32), (105 : Int32), (111 : Int32), (110 : Int32)] S_228 b_dr (by unfold CHP; decide) (Nat.le_of_ble_eq_true rfl) (by decide) (by decide) (by decide) (by decide) (by decide) (by decide) (by decide) (by decide) (by decide) (by decide) rfl (Int.toNat_of_nonneg b_p.1).symm (by omega) SC hz SF rF UA UH UL) (w51 hw) (w50 hw) (by decide) (by decide)) (lenOf pd_20 rfl) (Nat.le_of_ble_eq_true rfl) rfl (Nat.le_of_ble_eq_true rfl) (Nat.le_of_ble_eq_true rfl) (fun _ q => nomatch q) (fun v h_265 sf_270 hq => ?_)
                  obtain ⟨x_266, rfl, E_267, le_268, S_269⟩ := hq
                  refine Go.more (sf' := []) ?_ (Nat.le_refl _) (Nat.le_refl _) (fun _ q => List.mem_append_right _ q)
                  show G_law l Z n0 6 92 [] h_265 214 #[.val (.int p0), .val (.int p1), .val (.int p2), .val (.int p3), .val (.int ki), .val (.ref s_218), .val (.ref a3), .val (.int (8 : Int32)), .val (.int p), .val (.int dr), .val (.int og), .val (.int sm), .unset, .unset] [(.ref x_266)]
                  refine Go.astore 216 #[.val (.int p0), .val (.int p1), .val (.int p2), .val (.int p3), .val (.int ki), .val (.ref s_218), .val (.ref a3), .val (.int (8 : Int32)), .val (.int p), .val (.int dr), .val (.int og), .val (.int sm), .val (.ref x_266), .unset] at_214 rfl rfl rfl ?_
                  refine Go.iload 218 at_216 rfl rfl ?_
                  refine Go.iload 220 at_218 rfl rfl ?_
                  by_cases hc220 : dr = og
                  · skip
                    refine Go.icmpN 223 at_220 rfl (teq hc220).2 ?_
                    refine Go.aload 225 at_223 rfl rfl rfl ?_
                    refine Go.goto 229 at_225 (by decide) (by decide) ?_
                    refine Go.astore 231 #[.val (.int p0), .val (.int p1), .val (.int p2), .val (.int p3), .val (.int ki), .val (.ref s_218), .val (.ref a3), .val (.int (8 : Int32)), .val (.int p), .val (.int dr), .val (.int og), .val (.int sm), .val (.ref x_266), .val (.ref a3)] at_229 rfl rfl rfl ?_
                    refine Go.goto 274 at_231 (by decide) (by decide) ?_
                    refine Go.more (cells' := 12) (slots' := 200) (sf' := []) ?_ (Nat.le_of_ble_eq_true rfl) (Nat.le_of_ble_eq_true rfl) (fun _ q => nomatch q)
                    exact law_tail (ws := ([(70 : Int32), (117 : Int32), (110 : Int32), (99 : Int32), (116 : Int32), (105 : Int32), (111 : Int32), (110 : Int32)].set p.toInt.toNat dr)) hw z fm SC hz SF rF UA UH UL va a0 a1 a2 a3 k0 k1 k2 k3 Z0 Z1 Z2 Z3 FK0 SK0 FK1 SK1 FK2 SK2 FK3 SK3 ZV AV XV rfl rfl rfl rfl S_269 (by simp) (Or.inr (Or.inr (Or.inr (Or.inr (⟨rfl, set_same (hc220.trans e_og)⟩)))))
                  · skip
                    refine Go.icmpY 228 at_220 (by decide) (by decide) (feq hc220).2 ?_
                    refine Go.aconstNull 229 at_228 rfl ?_
                    refine Go.astore 231 #[.val (.int p0), .val (.int p1), .val (.int p2), .val (.int p3), .val (.int ki), .val (.ref s_218), .val (.ref a3), .val (.int (8 : Int32)), .val (.int p), .val (.int dr), .val (.int og), .val (.int sm), .val (.ref x_266), .val .null] at_229 rfl rfl rfl ?_
                    refine Go.goto 274 at_231 (by decide) (by decide) ?_
                    refine Go.more (cells' := 12) (slots' := 200) (sf' := []) ?_ (Nat.le_of_ble_eq_true rfl) (Nat.le_of_ble_eq_true rfl) (fun _ q => nomatch q)
                    exact law_tail (ws := ([(70 : Int32), (117 : Int32), (110 : Int32), (99 : Int32), (116 : Int32), (105 : Int32), (111 : Int32), (110 : Int32)].set p.toInt.toNat dr)) hw z fm SC hz SF rF UA UH UL va a0 a1 a2 a3 k0 k1 k2 k3 Z0 Z1 Z2 Z3 FK0 SK0 FK1 SK1 FK2 SK2 FK3 SK3 ZV AV XV rfl rfl rfl rfl S_269 (by simp) (Or.inl ⟨rfl, (len_ne (by simp [kw0])), (len_ne (by simp [kw1])), (len_ne (by simp [kw2])), (set_ne e_og hc220 (by show p.toInt.toNat < 8; omega))⟩)
                · skip
                  refine Go.icmpN 198 at_195 rfl (feq hc195).1 ?_
                  refine Go.iload 200 at_198 rfl rfl ?_
                  refine Go.iconst 201 (5 : Int32) at_200 rfl rfl ?_
                  by_cases hc201 : sm = (5 : Int32)
                  · skip
                    refine Go.icmpN 204 at_201 rfl (teq hc201).2 ?_
                    refine Go.aload 206 at_204 rfl rfl rfl ?_
                    refine Go.iconst 207 (0 : Int32) at_206 rfl rfl ?_
                    refine Go.iload 209 at_207 rfl rfl ?_
                    refine Go.iload 211 at_209 rfl rfl ?_
                    refine Go.callS (S := []) 214 [(.ref s_218), (.int (0 : Int32)), (.int p), (.int dr)] at_211 rfl rfl (w48 hw) (w49 hw) (w50 hw) (w51 hw) (by decide) (call_of_go (R := _) (len := 3) (W := 0) (plainFor_of_name pn_3) (fun mid => ef_bld1 mid s_218 p dr z (8 : Int32) (8 : Int32) (8 : Int32) fm p.toInt.toNat 8 8 8 [(70 : Int32), (117 : Int32), (110 : Int32), (99 : Int32), (116 : Int32), (105 : Int32), (111 : Int32), (110 : Int32)] [(70 : Int32), (117 : Int32), (110 : Int32), (99 : Int32), (116 : Int32), (105 : Int32), (111 : Int32), (110 : Int32)] ) (c_bld1 hw s_218 p dr z (8 : Int32) (8 : Int32) (8 : Int32) fm p.toInt.toNat 8 8 8 [(70 : Int32), (117 : Int32), (110 : Int32), (99 : Int32), (116 : Int32), (105 : Int32), (111 : Int32), (110 : Int32)] [(70 : Int32), (117 : Int32), (110 : Int32), (99 : Int32), (116 : Int32), (105 : Int32), (111 : Int32), (110 : Int32)] S_228 b_dr (by unfold CHP; decide) (Nat.le_of_ble_eq_true rfl) (by decide) (by decide) (by decide) (by decide) (by decide) (by decide) (by decide) (by decide) (by decide) (by decide) rfl (Int.toNat_of_nonneg b_p.1).symm (by omega) SC hz SF rF UA UH UL) (w51 hw) (w50 hw) (by decide) (by decide)) (lenOf pd_20 rfl) (Nat.le_of_ble_eq_true rfl) rfl (Nat.le_of_ble_eq_true rfl) (Nat.le_of_ble_eq_true rfl) (fun _ q => nomatch q) (fun v h_271 sf_276 hq => ?_)
                    obtain ⟨x_272, rfl, E_273, le_274, S_275⟩ := hq
                    refine Go.more (sf' := []) ?_ (Nat.le_refl _) (Nat.le_refl _) (fun _ q => List.mem_append_right _ q)
                    show G_law l Z n0 6 92 [] h_271 214 #[.val (.int p0), .val (.int p1), .val (.int p2), .val (.int p3), .val (.int ki), .val (.ref s_218), .val (.ref a3), .val (.int (8 : Int32)), .val (.int p), .val (.int dr), .val (.int og), .val (.int sm), .unset, .unset] [(.ref x_272)]
                    refine Go.astore 216 #[.val (.int p0), .val (.int p1), .val (.int p2), .val (.int p3), .val (.int ki), .val (.ref s_218), .val (.ref a3), .val (.int (8 : Int32)), .val (.int p), .val (.int dr), .val (.int og), .val (.int sm), .val (.ref x_272), .unset] at_214 rfl rfl rfl ?_
                    refine Go.iload 218 at_216 rfl rfl ?_
                    refine Go.iload 220 at_218 rfl rfl ?_
                    by_cases hc220 : dr = og
                    · skip
                      refine Go.icmpN 223 at_220 rfl (teq hc220).2 ?_
                      refine Go.aload 225 at_223 rfl rfl rfl ?_
                      refine Go.goto 229 at_225 (by decide) (by decide) ?_
                      refine Go.astore 231 #[.val (.int p0), .val (.int p1), .val (.int p2), .val (.int p3), .val (.int ki), .val (.ref s_218), .val (.ref a3), .val (.int (8 : Int32)), .val (.int p), .val (.int dr), .val (.int og), .val (.int sm), .val (.ref x_272), .val (.ref a3)] at_229 rfl rfl rfl ?_
                      refine Go.goto 274 at_231 (by decide) (by decide) ?_
                      refine Go.more (cells' := 12) (slots' := 200) (sf' := []) ?_ (Nat.le_of_ble_eq_true rfl) (Nat.le_of_ble_eq_true rfl) (fun _ q => nomatch q)
                      exact law_tail (ws := ([(70 : Int32), (117 : Int32), (110 : Int32), (99 : Int32), (116 : Int32), (105 : Int32), (111 : Int32), (110 : Int32)].set p.toInt.toNat dr)) hw z fm SC hz SF rF UA UH UL va a0 a1 a2 a3 k0 k1 k2 k3 Z0 Z1 Z2 Z3 FK0 SK0 FK1 SK1 FK2 SK2 FK3 SK3 ZV AV XV rfl rfl rfl rfl S_275 (by simp) (Or.inr (Or.inr (Or.inr (Or.inr (⟨rfl, set_same (hc220.trans e_og)⟩)))))
                    · skip
                      refine Go.icmpY 228 at_220 (by decide) (by decide) (feq hc220).2 ?_
                      refine Go.aconstNull 229 at_228 rfl ?_
                      refine Go.astore 231 #[.val (.int p0), .val (.int p1), .val (.int p2), .val (.int p3), .val (.int ki), .val (.ref s_218), .val (.ref a3), .val (.int (8 : Int32)), .val (.int p), .val (.int dr), .val (.int og), .val (.int sm), .val (.ref x_272), .val .null] at_229 rfl rfl rfl ?_
                      refine Go.goto 274 at_231 (by decide) (by decide) ?_
                      refine Go.more (cells' := 12) (slots' := 200) (sf' := []) ?_ (Nat.le_of_ble_eq_true rfl) (Nat.le_of_ble_eq_true rfl) (fun _ q => nomatch q)
                      exact law_tail (ws := ([(70 : Int32), (117 : Int32), (110 : Int32), (99 : Int32), (116 : Int32), (105 : Int32), (111 : Int32), (110 : Int32)].set p.toInt.toNat dr)) hw z fm SC hz SF rF UA UH UL va a0 a1 a2 a3 k0 k1 k2 k3 Z0 Z1 Z2 Z3 FK0 SK0 FK1 SK1 FK2 SK2 FK3 SK3 ZV AV XV rfl rfl rfl rfl S_275 (by simp) (Or.inl ⟨rfl, (len_ne (by simp [kw0])), (len_ne (by simp [kw1])), (len_ne (by simp [kw2])), (set_ne e_og hc220 (by show p.toInt.toNat < 8; omega))⟩)
                  · skip
                    refine Go.icmpY 234 at_201 (by decide) (by decide) (feq hc201).2 ?_
                    refine Go.iload 236 at_234 rfl rfl ?_
                    refine Go.bipush 238 (6 : Int32) at_236 rfl rfl ?_
                    by_cases hc238 : sm = (6 : Int32)
                    · skip
                      refine Go.icmpN 241 at_238 rfl (teq hc238).2 ?_
                      refine Go.aload 243 at_241 rfl rfl rfl ?_
                      refine Go.iconst 244 (-1 : Int32) at_243 rfl rfl ?_
                      refine Go.iload 246 at_244 rfl rfl ?_
                      refine Go.iload 248 at_246 rfl rfl ?_
                      refine Go.callS (S := []) 251 [(.ref s_218), (.int (-1 : Int32)), (.int p), (.int dr)] at_248 rfl rfl (w48 hw) (w49 hw) (w50 hw) (w51 hw) (by decide) (call_of_go (R := _) (len := 3) (W := 0) (plainFor_of_name pn_3) (fun mid => ef_bld0 mid s_218 p dr z (8 : Int32) (7 : Int32) (7 : Int32) fm p.toInt.toNat 8 7 7 [(70 : Int32), (117 : Int32), (110 : Int32), (99 : Int32), (116 : Int32), (105 : Int32), (111 : Int32), (110 : Int32)] [(70 : Int32), (117 : Int32), (110 : Int32), (99 : Int32), (116 : Int32), (105 : Int32), (111 : Int32)] ) (c_bld0 hw s_218 p dr z (8 : Int32) (7 : Int32) (7 : Int32) fm p.toInt.toNat 8 7 7 [(70 : Int32), (117 : Int32), (110 : Int32), (99 : Int32), (116 : Int32), (105 : Int32), (111 : Int32), (110 : Int32)] [(70 : Int32), (117 : Int32), (110 : Int32), (99 : Int32), (116 : Int32), (105 : Int32), (111 : Int32)] S_228 b_dr (by unfold CHP; decide) (Nat.le_of_ble_eq_true rfl) (by decide) (by decide) (by decide) (by decide) (by decide) (by decide) (by decide) (by decide) (by decide) (by decide) rfl SC hz SF rF UA UH UL) (w51 hw) (w50 hw) (by decide) (by decide)) (lenOf pd_20 rfl) (Nat.le_of_ble_eq_true rfl) rfl (Nat.le_of_ble_eq_true rfl) (Nat.le_of_ble_eq_true rfl) (fun _ q => nomatch q) (fun v h_277 sf_282 hq => ?_)
                      obtain ⟨x_278, rfl, E_279, le_280, S_281⟩ := hq
                      refine Go.more (sf' := []) ?_ (Nat.le_refl _) (Nat.le_refl _) (fun _ q => List.mem_append_right _ q)
                      show G_law l Z n0 6 92 [] h_277 251 #[.val (.int p0), .val (.int p1), .val (.int p2), .val (.int p3), .val (.int ki), .val (.ref s_218), .val (.ref a3), .val (.int (8 : Int32)), .val (.int p), .val (.int dr), .val (.int og), .val (.int sm), .unset, .unset] [(.ref x_278)]
                      refine Go.astore 253 #[.val (.int p0), .val (.int p1), .val (.int p2), .val (.int p3), .val (.int ki), .val (.ref s_218), .val (.ref a3), .val (.int (8 : Int32)), .val (.int p), .val (.int dr), .val (.int og), .val (.int sm), .val (.ref x_278), .unset] at_251 rfl rfl rfl ?_
                      refine Go.aconstNull 254 at_253 rfl ?_
                      refine Go.astore 256 #[.val (.int p0), .val (.int p1), .val (.int p2), .val (.int p3), .val (.int ki), .val (.ref s_218), .val (.ref a3), .val (.int (8 : Int32)), .val (.int p), .val (.int dr), .val (.int og), .val (.int sm), .val (.ref x_278), .val .null] at_254 rfl rfl rfl ?_
                      refine Go.goto 274 at_256 (by decide) (by decide) ?_
                      refine Go.more (cells' := 12) (slots' := 200) (sf' := []) ?_ (Nat.le_of_ble_eq_true rfl) (Nat.le_of_ble_eq_true rfl) (fun _ q => nomatch q)
                      exact law_tail (ws := [(70 : Int32), (117 : Int32), (110 : Int32), (99 : Int32), (116 : Int32), (105 : Int32), (111 : Int32)]) hw z fm SC hz SF rF UA UH UL va a0 a1 a2 a3 k0 k1 k2 k3 Z0 Z1 Z2 Z3 FK0 SK0 FK1 SK1 FK2 SK2 FK3 SK3 ZV AV XV rfl rfl rfl rfl S_281 (Nat.le_of_ble_eq_true rfl) (Or.inl ⟨rfl, (by decide), (by decide), (by decide), (by decide)⟩)
                    · skip
                      refine Go.icmpY 259 at_238 (by decide) (by decide) (feq hc238).2 ?_
                      refine Go.aload 261 at_259 rfl rfl rfl ?_
                      refine Go.iconst 262 (1 : Int32) at_261 rfl rfl ?_
                      refine Go.iload 264 at_262 rfl rfl ?_
                      refine Go.iload 266 at_264 rfl rfl ?_
                      refine Go.callS (S := []) 269 [(.ref s_218), (.int (1 : Int32)), (.int p), (.int dr)] at_266 rfl rfl (w48 hw) (w49 hw) (w50 hw) (w51 hw) (by decide) (call_of_go (R := _) (len := 3) (W := 0) (plainFor_of_name pn_3) (fun mid => ef_bld2 mid s_218 p dr z (8 : Int32) (9 : Int32) (8 : Int32) fm p.toInt.toNat 8 9 8 [(70 : Int32), (117 : Int32), (110 : Int32), (99 : Int32), (116 : Int32), (105 : Int32), (111 : Int32), (110 : Int32)] [(70 : Int32), (117 : Int32), (110 : Int32), (99 : Int32), (116 : Int32), (105 : Int32), (111 : Int32), (110 : Int32), (0 : Int32)] ) (c_bld2 hw s_218 p dr z (8 : Int32) (9 : Int32) (8 : Int32) fm p.toInt.toNat 8 9 8 [(70 : Int32), (117 : Int32), (110 : Int32), (99 : Int32), (116 : Int32), (105 : Int32), (111 : Int32), (110 : Int32)] [(70 : Int32), (117 : Int32), (110 : Int32), (99 : Int32), (116 : Int32), (105 : Int32), (111 : Int32), (110 : Int32), (0 : Int32)] S_228 b_dr (by unfold CHP; decide) (Nat.le_of_ble_eq_true rfl) (by decide) (by decide) (by decide) (by decide) (by decide) (by decide) (by decide) (by decide) (by decide) (by decide) rfl (by decide) (by decide) SC hz SF rF UA UH UL) (w51 hw) (w50 hw) (by decide) (by decide)) (lenOf pd_20 rfl) (Nat.le_of_ble_eq_true rfl) rfl (Nat.le_of_ble_eq_true rfl) (Nat.le_of_ble_eq_true rfl) (fun _ q => nomatch q) (fun v h_283 sf_288 hq => ?_)
                      obtain ⟨x_284, rfl, E_285, le_286, S_287⟩ := hq
                      refine Go.more (sf' := []) ?_ (Nat.le_refl _) (Nat.le_refl _) (fun _ q => List.mem_append_right _ q)
                      show G_law l Z n0 6 92 [] h_283 269 #[.val (.int p0), .val (.int p1), .val (.int p2), .val (.int p3), .val (.int ki), .val (.ref s_218), .val (.ref a3), .val (.int (8 : Int32)), .val (.int p), .val (.int dr), .val (.int og), .val (.int sm), .unset, .unset] [(.ref x_284)]
                      refine Go.astore 271 #[.val (.int p0), .val (.int p1), .val (.int p2), .val (.int p3), .val (.int ki), .val (.ref s_218), .val (.ref a3), .val (.int (8 : Int32)), .val (.int p), .val (.int dr), .val (.int og), .val (.int sm), .val (.ref x_284), .unset] at_269 rfl rfl rfl ?_
                      refine Go.aconstNull 272 at_271 rfl ?_
                      refine Go.astore 274 #[.val (.int p0), .val (.int p1), .val (.int p2), .val (.int p3), .val (.int ki), .val (.ref s_218), .val (.ref a3), .val (.int (8 : Int32)), .val (.int p), .val (.int dr), .val (.int og), .val (.int sm), .val (.ref x_284), .val .null] at_272 rfl rfl rfl ?_
                      refine Go.more (cells' := 12) (slots' := 200) (sf' := []) ?_ (Nat.le_of_ble_eq_true rfl) (Nat.le_of_ble_eq_true rfl) (fun _ q => nomatch q)
                      exact law_tail (ws := [(70 : Int32), (117 : Int32), (110 : Int32), (99 : Int32), (116 : Int32), (105 : Int32), (111 : Int32), (110 : Int32), dr]) hw z fm SC hz SF rF UA UH UL va a0 a1 a2 a3 k0 k1 k2 k3 Z0 Z1 Z2 Z3 FK0 SK0 FK1 SK1 FK2 SK2 FK3 SK3 ZV AV XV rfl rfl rfl rfl S_287 (Nat.le_of_ble_eq_true rfl) (Or.inl ⟨rfl, (by simp [kw0]), (by simp [kw1]), (by simp [kw2]), (by simp [kw3])⟩)
set_option maxRecDepth 65536 in
set_option maxHeartbeats 40000000 in
theorem comes_1 {Post : Tables → Env → Array Value → State → Outcome → State → Prop} (hpost : ∀ tb e args s v u, (limb_1_1.after args s (.returned v) u = true ∧ limb_1_2.after args s (.returned v) u = true ∧ True) → ReturnedEndW s (.returned v) u (Jvm.fieldLocs frame_1_writes args s ++ Jvm.arrayLocs frame_1_arrays args s ++ Jvm.staticLocs frame_1_statics s) 32 5376 → Post tb e args s (.returned v) u) :
    ArmFor flags0 classFile x code maxLocals ret World_1 tables_1 room_1 Calls_1 rest_1 Pre_1 Post := by
  intro l hfl _ _ p e ha hc hk s m args below hf hA hF happ hP
  obtain ⟨hcalls, hrest, hpre⟩ := hP
  obtain ⟨-, -, -, hnamed, -, -, -, hat⟩ := (Spec.applies_iff hf).mp happ
  obtain ⟨hg, hn⟩ := and_e (Cond.before_iff.mp (show (Jvm.Cond.and given_1 narrow_1).before args s = true from hpre))
  obtain ⟨g0, k1⟩ := and_e hg
  obtain ⟨g1, k2⟩ := and_e k1
  obtain ⟨g2, k3⟩ := and_e k2
  obtain ⟨g3, k4⟩ := and_e k3
  have g4 := k4
  obtain ⟨w0, w1, w2, w3, rfl⟩ : ∃ w0 w1 w2 w3 : Value, args = #[w0, w1, w2, w3] := by
    have hs : args.size = 4 := by simpa [Cond.value, given_1] using g0
    obtain ⟨L⟩ := args
    match L, hs with
    | [w0, w1, w2, w3], _ => exact ⟨w0, w1, w2, w3, rfl⟩
  have hw : HW _ s := fun d (hd : d ∈ tables_1) => atoms_spec (ws := Jvm.Cond.code x code maxLocals ret :: tables_1) hat d (List.mem_cons_of_mem _ hd)
  obtain ⟨hsets, hown0⟩ := atoms_of _ (rest_1_c_eq ▸ (show rest_1_c.before _ s = true from hrest))
  obtain ⟨p0, ea0⟩ := is_v g1
  obtain rfl : w0 = (.int p0) := Option.some.inj ea0
  obtain ⟨p1, ea1⟩ := is_v g2
  obtain rfl : w1 = (.int p1) := Option.some.inj ea1
  obtain ⟨p2, ea2⟩ := is_v g3
  obtain rfl : w2 = (.int p2) := Option.some.inj ea2
  obtain ⟨p3, ea3⟩ := is_v g4
  obtain rfl : w3 = (.int p3) := Option.some.inj ea3
  obtain ⟨z, ez⟩ := is_v (Cond.before_iff.mp (hsets _ (List.mem_of_getElem? (i := 1) rfl)))
  have SC : Sta s s.heap "java/lang/String" "COMPACT_STRINGS" "Z" (.int z) := Sta.start ez (Or.inl (hsets _ (List.mem_of_getElem? (i := 0) rfl)))
  have hz : ¬ (z = (0 : Int32)) := gotF (Cond.eq_ints ez (Term.int_eval (0))) (not_v (Cond.before_iff.mp (hsets _ (List.mem_of_getElem? (i := 2) rfl))))
  obtain ⟨r0, hn1⟩ := and_e hn
  obtain ⟨r1, hn2⟩ := and_e hn1
  obtain ⟨r2, hn3⟩ := and_e hn2
  obtain ⟨r3, hn4⟩ := and_e hn3
  obtain ⟨r4, hn5⟩ := and_e hn4
  obtain ⟨r5, hn6⟩ := and_e hn5
  obtain ⟨r6, hn7⟩ := and_e hn6
  obtain ⟨r7, hn8⟩ := and_e hn7
  obtain ⟨r8, hn9⟩ := and_e hn8
  obtain ⟨r9, hn10⟩ := and_e hn9
  obtain ⟨r10, hn11⟩ := and_e hn10
  obtain ⟨r11, hn12⟩ := and_e hn11
  obtain ⟨r12, hn13⟩ := and_e hn12
  obtain ⟨r13, hn14⟩ := and_e hn13
  obtain ⟨r14, hn15⟩ := and_e hn14
  obtain ⟨r15, hn16⟩ := and_e hn15
  obtain ⟨r16, hn17⟩ := and_e hn16
  obtain ⟨r17, hn18⟩ := and_e hn17
  obtain ⟨r18, hn19⟩ := and_e hn18
  obtain ⟨r19, hn20⟩ := and_e hn19
  obtain ⟨r20, hn21⟩ := and_e hn20
  obtain ⟨r21, hn22⟩ := and_e hn21
  obtain ⟨r22, hn23⟩ := and_e hn22
  obtain ⟨r23, hn24⟩ := and_e hn23
  obtain ⟨r24, hn25⟩ := and_e hn24
  obtain ⟨r25, hn26⟩ := and_e hn25
  obtain ⟨r26, hn27⟩ := and_e hn26
  obtain ⟨r27, hn28⟩ := and_e hn27
  obtain ⟨r28, hn29⟩ := and_e hn28
  obtain ⟨r29, hn30⟩ := and_e hn29
  obtain ⟨r30, hn31⟩ := and_e hn30
  obtain ⟨r31, hn32⟩ := and_e hn31
  obtain ⟨r32, hn33⟩ := and_e hn32
  obtain ⟨r33, hn34⟩ := and_e hn33
  obtain ⟨r34, hn35⟩ := and_e hn34
  obtain ⟨r35, hn36⟩ := and_e hn35
  obtain ⟨r36, hn37⟩ := and_e hn36
  obtain ⟨r37, hn38⟩ := and_e hn37
  obtain ⟨r38, hn39⟩ := and_e hn38
  obtain ⟨r39, hn40⟩ := and_e hn39
  obtain ⟨r40, hn41⟩ := and_e hn40
  obtain ⟨r41, hn42⟩ := and_e hn41
  obtain ⟨r42, hn43⟩ := and_e hn42
  obtain ⟨r43, hn44⟩ := and_e hn43
  obtain ⟨r44, hn45⟩ := and_e hn44
  obtain ⟨r45, hn46⟩ := and_e hn45
  obtain ⟨r46, hn47⟩ := and_e hn46
  obtain ⟨r47, hn48⟩ := and_e hn47
  obtain ⟨r48, hn49⟩ := and_e hn48
  obtain ⟨r49, hn50⟩ := and_e hn49
  obtain ⟨r50, hn51⟩ := and_e hn50
  obtain ⟨r51, hn52⟩ := and_e hn51
  obtain ⟨r52, hn53⟩ := and_e hn52
  obtain ⟨r53, hn54⟩ := and_e hn53
  obtain ⟨r54, hn55⟩ := and_e hn54
  obtain ⟨r55, hn56⟩ := and_e hn55
  obtain ⟨r56, hn57⟩ := and_e hn56
  have r57 := hn57
  obtain ⟨s_FUNCTION, ev_s_FUNCTION⟩ := exa_v r0
  have X_s_FUNCTION : Exa s s.heap s_FUNCTION "com/example/avain/avain/model/Type" := Exa.start ev_s_FUNCTION r0
  have Z_s_FUNCTION : Sta s s.heap "com/example/avain/avain/model/Type" "FUNCTION" "Lcom/example/avain/avain/model/Type;" (.ref s_FUNCTION) := Sta.start ev_s_FUNCTION (Or.inr ⟨(w9 hw), (w10 hw)⟩)
  obtain ⟨s_VALUES, ev_s_VALUES⟩ := exa_v r2
  have X_s_VALUES : Exa s s.heap s_VALUES "[Lcom/example/avain/avain/model/Type;" := Exa.start ev_s_VALUES r2
  have Z_s_VALUES : Sta s s.heap "com/example/avain/avain/model/Type" "$VALUES" "[Lcom/example/avain/avain/model/Type;" (.ref s_VALUES) := Sta.start ev_s_VALUES (Or.inr ⟨(w9 hw), (w88 hw)⟩)
  obtain ⟨s_AGENT, ev_s_AGENT⟩ := exa_v r4
  have X_s_AGENT : Exa s s.heap s_AGENT "com/example/avain/avain/model/Type" := Exa.start ev_s_AGENT r4
  have Z_s_AGENT : Sta s s.heap "com/example/avain/avain/model/Type" "AGENT" "Lcom/example/avain/avain/model/Type;" (.ref s_AGENT) := Sta.start ev_s_AGENT (Or.inr ⟨(w9 hw), (w96 hw)⟩)
  obtain ⟨s_NUMBER, ev_s_NUMBER⟩ := exa_v r6
  have X_s_NUMBER : Exa s s.heap s_NUMBER "com/example/avain/avain/model/Type" := Exa.start ev_s_NUMBER r6
  have Z_s_NUMBER : Sta s s.heap "com/example/avain/avain/model/Type" "NUMBER" "Lcom/example/avain/avain/model/Type;" (.ref s_NUMBER) := Sta.start ev_s_NUMBER (Or.inr ⟨(w9 hw), (w97 hw)⟩)
  obtain ⟨s_SYMMETRIC_KEY, ev_s_SYMMETRIC_KEY⟩ := exa_v r8
  have X_s_SYMMETRIC_KEY : Exa s s.heap s_SYMMETRIC_KEY "com/example/avain/avain/model/Type" := Exa.start ev_s_SYMMETRIC_KEY r8
  have Z_s_SYMMETRIC_KEY : Sta s s.heap "com/example/avain/avain/model/Type" "SYMMETRIC_KEY" "Lcom/example/avain/avain/model/Type;" (.ref s_SYMMETRIC_KEY) := Sta.start ev_s_SYMMETRIC_KEY (Or.inr ⟨(w9 hw), (w98 hw)⟩)
  have UA := sta_int (Cond.before_iff.mp (hsets _ (List.mem_of_getElem? (i := 12) rfl))) (hsets _ (List.mem_of_getElem? (i := 11) rfl))
  have UH := sta_int (Cond.before_iff.mp (hsets _ (List.mem_of_getElem? (i := 15) rfl))) (hsets _ (List.mem_of_getElem? (i := 14) rfl))
  have UL := sta_int (Cond.before_iff.mp (hsets _ (List.mem_of_getElem? (i := 18) rfl))) (hsets _ (List.mem_of_getElem? (i := 17) rfl))
  obtain ⟨fm, ef, rF⟩ := isR_v (Cond.before_iff.mp (hsets _ (List.mem_of_getElem? (i := 8) rfl)))
  have SF : Sta s s.heap "jdk/internal/util/Preconditions" "SIOOBE_FORMATTER" "Ljava/util/function/BiFunction;" fm := Sta.start ef (Or.inl (hsets _ (List.mem_of_getElem? (i := 7) rfl)))
  have AV := ary_of (vs := [.ref s_AGENT, .ref s_NUMBER, .ref s_SYMMETRIC_KEY, .ref s_FUNCTION]) ev_s_VALUES r1 r3 rfl (Nat.le_of_ble_eq_true rfl) (fun i v hv => by match i, hv with | 0, hv => cases hv; exact eq_ref r5 ev_s_AGENT | 1, hv => cases hv; exact eq_ref r7 ev_s_NUMBER | 2, hv => cases hv; exact eq_ref r9 ev_s_SYMMETRIC_KEY | 3, hv => cases hv; exact eq_ref r10 ev_s_FUNCTION | n + 4, hv => simp at hv) (by intro v hv; simp at hv; rcases hv with rfl | rfl | rfl | rfl <;> rfl)
  obtain ⟨kk0, ek0⟩ := exa_v r11
  have FK0 : Fld s s.heap s_AGENT "com/example/avain/avain/model/Type" "keyword" "Ljava/lang/String;" (.ref kk0) := Fld.start ((fld_at ev_s_AGENT).symm.trans ek0)
  have CK0 := fld_int r12 ek0
  obtain ⟨kt0, et0⟩ := arr_v r13
  have VK0 : Fld s s.heap kk0 "java/lang/String" "value" "[B" (.ref kt0) := Fld.start ((fld_at ek0).symm.trans et0)
  have AK0 := ary_of (vs := [(Value.int (65 : Int32)), (Value.int (103 : Int32)), (Value.int (101 : Int32)), (Value.int (110 : Int32)), (Value.int (116 : Int32))]) et0 r13 r14 (by decide) (by decide) (fun i v hv => by match i, hv with | 0, hv => cases hv; exact eqv_i (Term.int_eval _) r27 | 1, hv => cases hv; exact eqv_i (Term.int_eval _) r28 | 2, hv => cases hv; exact eqv_i (Term.int_eval _) r29 | 3, hv => cases hv; exact eqv_i (Term.int_eval _) r30 | 4, hv => cases hv; exact eqv_i (Term.int_eval _) r31 | n + 5, hv => simp at hv) (by decide)
  have SK0 : Str s s.heap kk0 kw0 := ⟨kt0, Exa.start ek0 r11, CK0, VK0, AK0, by unfold Lat kw0; decide⟩
  obtain ⟨kk1, ek1⟩ := exa_v r15
  have FK1 : Fld s s.heap s_NUMBER "com/example/avain/avain/model/Type" "keyword" "Ljava/lang/String;" (.ref kk1) := Fld.start ((fld_at ev_s_NUMBER).symm.trans ek1)
  have CK1 := fld_int r16 ek1
  obtain ⟨kt1, et1⟩ := arr_v r17
  have VK1 : Fld s s.heap kk1 "java/lang/String" "value" "[B" (.ref kt1) := Fld.start ((fld_at ek1).symm.trans et1)
  have AK1 := ary_of (vs := [(Value.int (78 : Int32)), (Value.int (117 : Int32)), (Value.int (109 : Int32)), (Value.int (98 : Int32)), (Value.int (101 : Int32)), (Value.int (114 : Int32))]) et1 r17 r18 (by decide) (by decide) (fun i v hv => by match i, hv with | 0, hv => cases hv; exact eqv_i (Term.int_eval _) r32 | 1, hv => cases hv; exact eqv_i (Term.int_eval _) r33 | 2, hv => cases hv; exact eqv_i (Term.int_eval _) r34 | 3, hv => cases hv; exact eqv_i (Term.int_eval _) r35 | 4, hv => cases hv; exact eqv_i (Term.int_eval _) r36 | 5, hv => cases hv; exact eqv_i (Term.int_eval _) r37 | n + 6, hv => simp at hv) (by decide)
  have SK1 : Str s s.heap kk1 kw1 := ⟨kt1, Exa.start ek1 r15, CK1, VK1, AK1, by unfold Lat kw1; decide⟩
  obtain ⟨kk2, ek2⟩ := exa_v r19
  have FK2 : Fld s s.heap s_SYMMETRIC_KEY "com/example/avain/avain/model/Type" "keyword" "Ljava/lang/String;" (.ref kk2) := Fld.start ((fld_at ev_s_SYMMETRIC_KEY).symm.trans ek2)
  have CK2 := fld_int r20 ek2
  obtain ⟨kt2, et2⟩ := arr_v r21
  have VK2 : Fld s s.heap kk2 "java/lang/String" "value" "[B" (.ref kt2) := Fld.start ((fld_at ek2).symm.trans et2)
  have AK2 := ary_of (vs := [(Value.int (83 : Int32)), (Value.int (121 : Int32)), (Value.int (109 : Int32)), (Value.int (109 : Int32)), (Value.int (101 : Int32)), (Value.int (116 : Int32)), (Value.int (114 : Int32)), (Value.int (105 : Int32)), (Value.int (99 : Int32)), (Value.int (75 : Int32)), (Value.int (101 : Int32)), (Value.int (121 : Int32))]) et2 r21 r22 (by decide) (by decide) (fun i v hv => by match i, hv with | 0, hv => cases hv; exact eqv_i (Term.int_eval _) r38 | 1, hv => cases hv; exact eqv_i (Term.int_eval _) r39 | 2, hv => cases hv; exact eqv_i (Term.int_eval _) r40 | 3, hv => cases hv; exact eqv_i (Term.int_eval _) r41 | 4, hv => cases hv; exact eqv_i (Term.int_eval _) r42 | 5, hv => cases hv; exact eqv_i (Term.int_eval _) r43 | 6, hv => cases hv; exact eqv_i (Term.int_eval _) r44 | 7, hv => cases hv; exact eqv_i (Term.int_eval _) r45 | 8, hv => cases hv; exact eqv_i (Term.int_eval _) r46 | 9, hv => cases hv; exact eqv_i (Term.int_eval _) r47 | 10, hv => cases hv; exact eqv_i (Term.int_eval _) r48 | 11, hv => cases hv; exact eqv_i (Term.int_eval _) r49 | n + 12, hv => simp at hv) (by decide)
  have SK2 : Str s s.heap kk2 kw2 := ⟨kt2, Exa.start ek2 r19, CK2, VK2, AK2, by unfold Lat kw2; decide⟩
  obtain ⟨kk3, ek3⟩ := exa_v r23
  have FK3 : Fld s s.heap s_FUNCTION "com/example/avain/avain/model/Type" "keyword" "Ljava/lang/String;" (.ref kk3) := Fld.start ((fld_at ev_s_FUNCTION).symm.trans ek3)
  have CK3 := fld_int r24 ek3
  obtain ⟨kt3, et3⟩ := arr_v r25
  have VK3 : Fld s s.heap kk3 "java/lang/String" "value" "[B" (.ref kt3) := Fld.start ((fld_at ek3).symm.trans et3)
  have AK3 := ary_of (vs := [(Value.int (70 : Int32)), (Value.int (117 : Int32)), (Value.int (110 : Int32)), (Value.int (99 : Int32)), (Value.int (116 : Int32)), (Value.int (105 : Int32)), (Value.int (111 : Int32)), (Value.int (110 : Int32))]) et3 r25 r26 (by decide) (by decide) (fun i v hv => by match i, hv with | 0, hv => cases hv; exact eqv_i (Term.int_eval _) r50 | 1, hv => cases hv; exact eqv_i (Term.int_eval _) r51 | 2, hv => cases hv; exact eqv_i (Term.int_eval _) r52 | 3, hv => cases hv; exact eqv_i (Term.int_eval _) r53 | 4, hv => cases hv; exact eqv_i (Term.int_eval _) r54 | 5, hv => cases hv; exact eqv_i (Term.int_eval _) r55 | 6, hv => cases hv; exact eqv_i (Term.int_eval _) r56 | 7, hv => cases hv; exact eqv_i (Term.int_eval _) r57 | n + 8, hv => simp at hv) (by decide)
  have SK3 : Str s s.heap kk3 kw3 := ⟨kt3, Exa.start ek3 r23, CK3, VK3, AK3, by unfold Lat kw3; decide⟩
  have hCH : CHv s consts_1 s.vm s.heap := CHv.start (ew hw) (fun p hp => hcalls.1 p hp) (hsets _ (List.mem_of_getElem? (i := 2) rfl)) (w3 hw) (w2 hw)

  obtain ⟨n, o, h1, h2, h3, _, L, _, rfl, rfl, -, N, -, -, hq⟩ := met_of_go (md := some consts_1) (desc := "(IIII)Z") (ws := tables_1) (plainFor_of_name pn_3) (fun m => ef_law m p0 p1 p2 p3) (law_go (l := l) (Z := s) (n0 := s.heap.size) (h0 := s.heap) hw p0 p1 p2 p3 z fm SC hz SF rF UA UH UL s_VALUES s_AGENT s_NUMBER s_SYMMETRIC_KEY s_FUNCTION kk0 kk1 kk2 kk3 Z_s_AGENT Z_s_NUMBER Z_s_SYMMETRIC_KEY Z_s_FUNCTION FK0 SK0 FK1 SK1 FK2 SK2 FK3 SK3 Z_s_VALUES AV X_s_VALUES) p e ha hc hk s m _ below hf ((Spec.applies_iff_loose hf).mp happ).1 ⟨rfl, State.Warmed39.refl s, rfl, Old.start s, ⟨_, (State.WarmedH.refl s).since _, Nat.le_refl _⟩, ⟨_, ew hw⟩, CHr.refl hCH, fun x hx => nomatch hx⟩ trivial
  refine ⟨n, _, h1, h2, h3, hpost _ _ _ _ _ _ ⟨Cond.after_iff.mpr rfl, Cond.after_iff.mpr (eq_i res_at (Term.int_eval (1)) rfl), trivial⟩ ⟨hq.1, hq.2.1, hq.2.2.1, (hq.2.2.2.sift fun y hy => Or.inr (N y hy)).mono (by decide) (by decide)⟩⟩
theorem main_1_1 : Claimed_1_1 := comes_1 fun _ _ _ _ _ _ h hF => ⟨h.1, hF⟩
theorem main_1_2 : Claimed_1_2 := comes_1 fun _ _ _ _ _ _ h hF => ⟨h.2.1, hF⟩
end Jvm.Pilot.@@N@@
namespace Jvm.Pilot.@@N@@
open Jvm Jvm.ClassFile Sem Op Lib Jvm.Free Jvm.Stand Jvm.Pilot.@@N@@.Jvm.D
/-! MADE BY PROGRAM (witnessworld.py) out of the Statement's table words and the real class files: 23 classes; the members and pool entries that the words name. The judged class is class 1, her method 1. -/
namespace start1
open Jvm.ClassFile
def u (s : String) : CpInfo := .utf8 (stringToUtf16 s)
/-- a pool by its gaps: so many unusable entries, then the entry; so many at the end -/
def gap : Nat → List CpInfo → List CpInfo
  | 0, r => r
  | n + 1, r => .unusable :: gap n r
def poolList (es : List (Nat × CpInfo)) (last : Nat) : List CpInfo := es.foldr (fun e r => gap e.1 (e.2 :: r)) (gap last [])
def pool (es : List (Nat × CpInfo)) (last : Nat) : Array CpInfo := ⟨poolList es last⟩
def fileOf (pool : Array CpInfo) (this : Nat) (attrs : Array Attribute := #[]) (ms : Array MethodInfo := #[]) (fl : Nat := 33) (sup : Nat := 0) (ifs : Array Nat := #[]) (fds : Array FieldInfo := #[]) : ClassFile where
  minorVersion := 0
  majorVersion := 65
  constantPool := pool
  accessFlags := fl
  thisClass := this
  superClass := sup
  interfaces := ifs
  fields := fds
  methods := ms
  attributes := attrs
def plain (name : String) (sup : Option ClassId) : Class where
  name := name
  kind := .ordinary
  loader := none
  accessFlags := 33
  super := sup
  interfaces := #[]
  cf := none
  fields := #[]
  methods := #[]
  instanceTypes := #[]
  staticTypes := #[]
  resolved := #[]
  callSites := []
  init := .initialized
  statics := none
  mirror := none

def pool0 : Array CpInfo := pool [(5, u "<init>"), (0, u "()V"), (1, .class_ 10), (1, u "java/lang/Object"), (85, u "clone"), (0, u "()Ljava/lang/Object;")] 26

def k0c0 : Code := { maxStack := 0, maxLocals := 1, code := object_method_1_code, exceptionTable := #[], attributes := #[] }
def k0m0 : Method := { name := "<init>", desc := "()V", sig := { parameters := [], returnType := none }, accessFlags := 1, code := some k0c0 }
def k0m1 : Method := { name := "clone", desc := "()Ljava/lang/Object;", sig := { parameters := [], returnType := some (.object "java/lang/Object") }, accessFlags := 260, code := none }
/-- java/lang/Object -/
def k0 : Class := { plain "java/lang/Object" none with
  accessFlags := 33
  interfaces := #[]
  cf := some (fileOf pool0 8 #[] #[{ accessFlags := 1, nameIndex := 5, descriptorIndex := 6, attributes := #[] }, { accessFlags := 260, nameIndex := 96, descriptorIndex := 97, attributes := #[] }] 33 0 #[] #[])
  fields := #[]
  methods := #[k0m0, k0m1]
  instanceTypes := #[]
  staticTypes := #[]
  resolved := Array.replicate 124 none
  statics := none }

def pool1 : Array CpInfo := pool [(2, .class_ 4), (1, u "java/lang/Object"), (0, u "<init>"), (0, u "()V"), (0, .string 8), (0, u "Agent"), (0, .fieldref 10 11), (0, .class_ 12), (0, .nameAndType 13 14), (0, u "com/example/avain/avain/model/Type"), (0, u "AGENT"), (0, u "Lcom/example/avain/avain/model/Type;"), (0, .string 16), (0, u "Number"), (0, .fieldref 10 18), (0, .nameAndType 19 14), (0, u "NUMBER"), (0, .string 21), (0, u "SymmetricKey"), (0, .fieldref 10 23), (0, .nameAndType 24 14), (0, u "SYMMETRIC_KEY"), (0, .string 26), (0, u "Function"), (0, .fieldref 10 28), (0, .nameAndType 29 14), (0, u "FUNCTION"), (0, .methodref 31 32), (0, .class_ 33), (0, .nameAndType 34 35), (0, u "java/lang/String"), (0, u "length"), (0, u "()I"), (0, .integer 2147483647), (0, .integer 65535), (0, .methodref 31 39), (0, .nameAndType 40 41), (0, u "charAt"), (0, u "(I)C"), (0, .methodref 43 44), (0, .class_ 45), (0, .nameAndType 46 47), (0, u "com/example/avain/avain/model/TypeFromKeywordPinLaw"), (0, u "build"), (0, u "(Ljava/lang/String;IIC)Ljava/lang/String;"), (0, .methodref 31 49), (0, .nameAndType 50 51), (0, u "valueOf"), (0, u "(C)Ljava/lang/String;"), (0, .string 53), (0, u ""), (0, .methodref 10 55), (0, .nameAndType 56 57), (0, u "fromKeyword"), (0, u "(Ljava/lang/String;)Lcom/example/avain/avain/model/Type;"), (0, .methodref 59 60), (0, .class_ 61), (0, .nameAndType 62 63), (0, u "java/lang/Math"), (0, u "min"), (0, u "(II)I"), (0, .methodref 43 65), (0, .nameAndType 66 67), (0, u "copy"), (0, u "([CLjava/lang/String;II)V"), (0, .methodref 31 69), (0, .nameAndType 5 70), (0, u "([C)V"), (2, u "law"), (0, u "(IIII)Z")] 5

def k1m0 : Method := { name := "<init>", desc := "()V", sig := { parameters := [], returnType := none }, accessFlags := 1, code := none }
def k1c1 : Code := { maxStack := 5, maxLocals := 14, code := code, exceptionTable := #[], attributes := #[] }
def k1m1 : Method := { name := "law", desc := "(IIII)Z", sig := { parameters := [.int, .int, .int, .int], returnType := some .boolean }, accessFlags := 9, code := some k1c1 }
def k1c2 : Code := { maxStack := 4, maxLocals := 8, code := method_3_code, exceptionTable := #[], attributes := #[] }
def k1m2 : Method := { name := "build", desc := "(Ljava/lang/String;IIC)Ljava/lang/String;", sig := { parameters := [(.object "java/lang/String"), .int, .int, .char], returnType := some (.object "java/lang/String") }, accessFlags := 10, code := some k1c2 }
def k1c3 : Code := { maxStack := 4, maxLocals := 4, code := method_4_code, exceptionTable := #[], attributes := #[] }
def k1m3 : Method := { name := "copy", desc := "([CLjava/lang/String;II)V", sig := { parameters := [(.array .char), (.object "java/lang/String"), .int, .int], returnType := none }, accessFlags := 10, code := some k1c3 }
/-- com/example/avain/avain/model/TypeFromKeywordPinLaw -/
def k1 : Class := { plain "com/example/avain/avain/model/TypeFromKeywordPinLaw" (some 0) with
  accessFlags := 49
  interfaces := #[]
  cf := some (fileOf pool1 43 #[] #[{ accessFlags := 1, nameIndex := 5, descriptorIndex := 6, attributes := #[] }, { accessFlags := 9, nameIndex := 73, descriptorIndex := 74, attributes := #[] }, { accessFlags := 10, nameIndex := 46, descriptorIndex := 47, attributes := #[] }, { accessFlags := 10, nameIndex := 66, descriptorIndex := 67, attributes := #[] }] 49 2 #[] #[])
  fields := #[]
  methods := #[k1m0, k1m1, k1m2, k1m3]
  instanceTypes := #[]
  staticTypes := #[]
  resolved := Array.replicate 80 none
  statics := none }

def pool2 : Array CpInfo := pool [(1, .class_ 2), (0, u "java/io/Serializable"), (0, .class_ 4), (0, u "java/lang/Object")] 2

/-- java/io/Serializable -/
def k2 : Class := { plain "java/io/Serializable" (some 0) with
  accessFlags := 1537
  interfaces := #[]
  cf := some (fileOf pool2 1 #[] #[] 1537 3 #[] #[])
  fields := #[]
  methods := #[]
  instanceTypes := #[]
  staticTypes := #[]
  resolved := Array.replicate 7 none
  statics := none }

def pool3 : Array CpInfo := pool [(1, .class_ 2), (0, u "java/lang/Comparable"), (0, .class_ 4), (0, u "java/lang/Object")] 7

/-- java/lang/Comparable -/
def k3 : Class := { plain "java/lang/Comparable" (some 0) with
  accessFlags := 1537
  interfaces := #[]
  cf := some (fileOf pool3 1 #[] #[] 1537 3 #[] #[])
  fields := #[]
  methods := #[]
  instanceTypes := #[]
  staticTypes := #[]
  resolved := Array.replicate 12 none
  statics := none }

def pool4 : Array CpInfo := pool [(2, .class_ 4), (1, u "java/lang/CharSequence"), (42, .class_ 48), (0, u "java/lang/CharSequence$1CodePointIterator"), (10, .class_ 60), (0, u "java/lang/CharSequence$1CharIterator"), (5, .class_ 67), (0, u "java/lang/Object")] 63

/-- java/lang/CharSequence -/
def k4 : Class := { plain "java/lang/CharSequence" (some 0) with
  accessFlags := 1537
  interfaces := #[]
  cf := some (fileOf pool4 2 #[.nestMembers #[47, 59]] #[] 1537 66 #[] #[])
  fields := #[]
  methods := #[]
  instanceTypes := #[]
  staticTypes := #[]
  resolved := Array.replicate 131 none
  statics := none }

def pool5 : Array CpInfo := pool [(1, .class_ 2), (0, u "java/lang/constant/Constable"), (0, .class_ 4), (0, u "java/lang/Object")] 6

/-- java/lang/constant/Constable -/
def k5 : Class := { plain "java/lang/constant/Constable" (some 0) with
  accessFlags := 1537
  interfaces := #[]
  cf := some (fileOf pool5 1 #[] #[] 1537 3 #[] #[])
  fields := #[]
  methods := #[]
  instanceTypes := #[]
  staticTypes := #[]
  resolved := Array.replicate 11 none
  statics := none }

def pool6 : Array CpInfo := pool [(1, .class_ 2), (0, u "java/lang/constant/ConstantDesc"), (0, .class_ 4), (0, u "java/lang/Object")] 32

/-- java/lang/constant/ConstantDesc -/
def k6 : Class := { plain "java/lang/constant/ConstantDesc" (some 0) with
  accessFlags := 1537
  interfaces := #[]
  cf := some (fileOf pool6 1 #[] #[] 1537 3 #[] #[])
  fields := #[]
  methods := #[]
  instanceTypes := #[]
  staticTypes := #[]
  resolved := Array.replicate 37 none
  statics := none }

def pool7 : Array CpInfo := pool [(1, .methodref 2 3), (0, .class_ 4), (0, .nameAndType 5 6), (0, u "java/lang/Object"), (0, u "<init>"), (0, u "()V"), (2, .fieldref 10 11), (0, .class_ 12), (0, .nameAndType 13 14), (0, u "java/lang/String"), (0, u "value"), (0, u "[B"), (0, .fieldref 10 16), (0, .nameAndType 17 18), (0, u "coder"), (0, u "B"), (2, u "hash"), (0, u "I"), (2, u "hashIsZero"), (0, u "Z"), (0, .methodref 10 28), (0, .nameAndType 5 29), (0, u "([CIILjava/lang/Void;)V"), (8, .fieldref 10 39), (0, .nameAndType 40 26), (0, u "COMPACT_STRINGS"), (1, .class_ 44), (1, u "java/lang/StringUTF16"), (0, u "compress"), (1, .methodref 42 48), (0, .nameAndType 49 50), (0, u "coderFromArrayLen"), (0, u "([BI)B"), (2, u "toBytes"), (53, .class_ 109), (1, u "java/lang/StringLatin1"), (32, u "()Z"), (34, .methodref 42 178), (0, .nameAndType 45 179), (0, u "([CII)[B"), (29, .methodref 10 210), (0, .nameAndType 5 211), (0, u "([BB)V"), (122, u "()I"), (0, .methodref 10 336), (0, .nameAndType 17 337), (0, u "()B"), (25, u "([BI)C"), (5, u "(C)Z"), (21, u "(II)V"), (35, u "(I)C"), (64, .methodref 10 493), (0, .nameAndType 494 142), (0, u "isLatin1"), (0, .methodref 107 496), (0, .nameAndType 497 363), (0, u "charAt"), (3, u "checkIndex"), (5, u "length"), (33, .methodref 107 542), (0, .nameAndType 543 544), (0, u "equals"), (0, u "([B[B)Z"), (28, u "(Ljava/lang/Object;)Z"), (1, .class_ 576), (0, u "java/lang/CharSequence"), (22, u "CASE_INSENSITIVE_ORDER"), (0, u "Ljava/util/Comparator;"), (181, u "valueOf"), (0, u "(C)Ljava/lang/String;"), (226, u "([C)V"), (4, .methodref 107 1016), (0, .nameAndType 1017 369), (0, u "canEncode"), (0, .methodref 107 1019), (0, .nameAndType 53 1020), (0, u "(C)[B"), (0, .methodref 42 1019), (31, .fieldref 1054 1055), (0, .class_ 1056), (0, .nameAndType 1057 1058), (0, u "jdk/internal/util/Preconditions"), (0, u "SIOOBE_FORMATTER"), (0, u "Ljava/util/function/BiFunction;"), (0, .methodref 1054 1060), (0, .nameAndType 501 1061), (0, u "(IILjava/util/function/BiFunction;)I"), (39, u "serialPersistentFields"), (0, u "[Ljava/io/ObjectStreamField;"), (0, .class_ 1104), (0, u "java/lang/String$CaseInsensitiveComparator"), (1, .class_ 1107), (0, u "java/io/Serializable"), (0, .class_ 1109), (0, u "java/lang/Comparable"), (0, .class_ 1111), (0, u "java/lang/constant/Constable"), (0, .class_ 1113), (0, u "java/lang/constant/ConstantDesc"), (2, u "serialVersionUID"), (0, u "J"), (3, u "REPL"), (0, u "C"), (2, u "LATIN1"), (1, u "UTF16")] 323

def k7m0 : Method := { name := "<init>", desc := "()V", sig := { parameters := [], returnType := none }, accessFlags := 1, code := none }
def k7c1 : Code := { maxStack := 5, maxLocals := 2, code := jdk_42_method_3_code, exceptionTable := #[], attributes := #[] }
def k7m1 : Method := { name := "<init>", desc := "([C)V", sig := { parameters := [(.array .char)], returnType := none }, accessFlags := 1, code := some k7c1 }
def k7c2 : Code := { maxStack := 2, maxLocals := 1, code := jdk_42_method_54_code, exceptionTable := #[], attributes := #[] }
def k7m2 : Method := { name := "length", desc := "()I", sig := { parameters := [], returnType := some .int }, accessFlags := 1, code := some k7c2 }
def k7c3 : Code := { maxStack := 2, maxLocals := 2, code := jdk_42_method_56_code, exceptionTable := #[], attributes := #[] }
def k7m3 : Method := { name := "charAt", desc := "(I)C", sig := { parameters := [.int], returnType := some .char }, accessFlags := 1, code := some k7c3 }
def k7c4 : Code := { maxStack := 2, maxLocals := 3, code := jdk_42_method_66_code, exceptionTable := #[], attributes := #[] }
def k7m4 : Method := { name := "equals", desc := "(Ljava/lang/Object;)Z", sig := { parameters := [(.object "java/lang/Object")], returnType := some .boolean }, accessFlags := 1, code := some k7c4 }
def k7c5 : Code := { maxStack := 4, maxLocals := 1, code := jdk_42_method_139_code, exceptionTable := #[], attributes := #[] }
def k7m5 : Method := { name := "valueOf", desc := "(C)Ljava/lang/String;", sig := { parameters := [.char], returnType := some (.object "java/lang/String") }, accessFlags := 9, code := some k7c5 }
def k7c6 : Code := { maxStack := 4, maxLocals := 6, code := jdk_42_method_149_code, exceptionTable := #[], attributes := #[] }
def k7m6 : Method := { name := "<init>", desc := "([CIILjava/lang/Void;)V", sig := { parameters := [(.array .char), .int, .int, (.object "java/lang/Void")], returnType := none }, accessFlags := 2, code := some k7c6 }
def k7c7 : Code := { maxStack := 2, maxLocals := 3, code := jdk_42_method_151_code, exceptionTable := #[], attributes := #[] }
def k7m7 : Method := { name := "<init>", desc := "([BB)V", sig := { parameters := [(.array .byte), .byte], returnType := none }, accessFlags := 0, code := some k7c7 }
def k7c8 : Code := { maxStack := 1, maxLocals := 1, code := jdk_42_method_152_code, exceptionTable := #[], attributes := #[] }
def k7m8 : Method := { name := "coder", desc := "()B", sig := { parameters := [], returnType := some .byte }, accessFlags := 0, code := some k7c8 }
def k7c9 : Code := { maxStack := 1, maxLocals := 1, code := jdk_42_method_154_code, exceptionTable := #[], attributes := #[] }
def k7m9 : Method := { name := "isLatin1", desc := "()Z", sig := { parameters := [], returnType := some .boolean }, accessFlags := 0, code := some k7c9 }
def k7c10 : Code := { maxStack := 3, maxLocals := 2, code := jdk_42_method_155_code, exceptionTable := #[], attributes := #[] }
def k7m10 : Method := { name := "checkIndex", desc := "(II)V", sig := { parameters := [.int, .int], returnType := none }, accessFlags := 8, code := some k7c10 }
/-- java/lang/String -/
def k7 : Class := { plain "java/lang/String" (some 0) with
  accessFlags := 49
  interfaces := #[2, 3, 4, 5, 6]
  cf := some (fileOf pool7 10 #[.nestMembers #[1103]] #[{ accessFlags := 1, nameIndex := 5, descriptorIndex := 6, attributes := #[] }, { accessFlags := 1, nameIndex := 5, descriptorIndex := 1010, attributes := #[] }, { accessFlags := 1, nameIndex := 507, descriptorIndex := 334, attributes := #[] }, { accessFlags := 1, nameIndex := 497, descriptorIndex := 427, attributes := #[] }, { accessFlags := 1, nameIndex := 543, descriptorIndex := 573, attributes := #[] }, { accessFlags := 9, nameIndex := 782, descriptorIndex := 783, attributes := #[] }, { accessFlags := 2, nameIndex := 5, descriptorIndex := 29, attributes := #[] }, { accessFlags := 0, nameIndex := 5, descriptorIndex := 211, attributes := #[] }, { accessFlags := 0, nameIndex := 17, descriptorIndex := 337, attributes := #[] }, { accessFlags := 0, nameIndex := 494, descriptorIndex := 142, attributes := #[] }, { accessFlags := 8, nameIndex := 501, descriptorIndex := 391, attributes := #[] }] 49 2 #[1106, 1108, 575, 1110, 1112] #[{ accessFlags := 18, nameIndex := 13, descriptorIndex := 14, attributes := #[] }, { accessFlags := 18, nameIndex := 17, descriptorIndex := 18, attributes := #[] }, { accessFlags := 2, nameIndex := 21, descriptorIndex := 22, attributes := #[] }, { accessFlags := 2, nameIndex := 25, descriptorIndex := 26, attributes := #[] }, { accessFlags := 26, nameIndex := 1116, descriptorIndex := 1117, attributes := #[] }, { accessFlags := 24, nameIndex := 40, descriptorIndex := 26, attributes := #[] }, { accessFlags := 26, nameIndex := 1101, descriptorIndex := 1102, attributes := #[] }, { accessFlags := 26, nameIndex := 1121, descriptorIndex := 1122, attributes := #[] }, { accessFlags := 25, nameIndex := 599, descriptorIndex := 600, attributes := #[] }, { accessFlags := 24, nameIndex := 1125, descriptorIndex := 18, attributes := #[] }, { accessFlags := 24, nameIndex := 1127, descriptorIndex := 18, attributes := #[] }])
  fields := #[{ name := "value", type := (.array .byte), accessFlags := 18, slot := 0, constantValue := 0 }, { name := "coder", type := .byte, accessFlags := 18, slot := 1, constantValue := 0 }, { name := "hash", type := .int, accessFlags := 2, slot := 2, constantValue := 0 }, { name := "hashIsZero", type := .boolean, accessFlags := 2, slot := 3, constantValue := 0 }, { name := "serialVersionUID", type := .long, accessFlags := 26, slot := 0, constantValue := 0 }, { name := "COMPACT_STRINGS", type := .boolean, accessFlags := 24, slot := 1, constantValue := 0 }, { name := "serialPersistentFields", type := (.array (.object "java/io/ObjectStreamField")), accessFlags := 26, slot := 2, constantValue := 0 }, { name := "REPL", type := .char, accessFlags := 26, slot := 3, constantValue := 0 }, { name := "CASE_INSENSITIVE_ORDER", type := (.object "java/util/Comparator"), accessFlags := 25, slot := 4, constantValue := 0 }, { name := "LATIN1", type := .byte, accessFlags := 24, slot := 5, constantValue := 0 }, { name := "UTF16", type := .byte, accessFlags := 24, slot := 6, constantValue := 0 }]
  methods := #[k7m0, k7m1, k7m2, k7m3, k7m4, k7m5, k7m6, k7m7, k7m8, k7m9, k7m10]
  instanceTypes := #[(.array .byte), .byte, .int, .boolean]
  staticTypes := #[.long, .boolean, (.array (.object "java/io/ObjectStreamField")), .char, (.object "java/util/Comparator"), .byte, .byte]
  resolved := Array.replicate 1451 none
  statics := some 0 }

def pool8 : Array CpInfo := pool [(2, .class_ 4), (1, u "java/lang/Enum"), (0, u "name"), (0, u "Ljava/lang/String;"), (2, u "ordinal"), (0, u "I"), (1, .class_ 14), (1, u "java/lang/Object"), (4, u "hash"), (86, .class_ 108), (1, u "java/lang/Enum$EnumDesc"), (2, .class_ 112), (0, u "java/lang/constant/Constable"), (0, .class_ 114), (0, u "java/lang/Comparable"), (0, .class_ 116), (0, u "java/io/Serializable")] 87

/-- java/lang/Enum -/
def k8 : Class := { plain "java/lang/Enum" (some 0) with
  accessFlags := 1057
  interfaces := #[5, 3, 2]
  cf := some (fileOf pool8 2 #[.nestMembers #[106]] #[] 1057 12 #[111, 113, 115] #[{ accessFlags := 18, nameIndex := 5, descriptorIndex := 6, attributes := #[] }, { accessFlags := 18, nameIndex := 9, descriptorIndex := 10, attributes := #[] }, { accessFlags := 2, nameIndex := 19, descriptorIndex := 10, attributes := #[] }])
  fields := #[{ name := "name", type := (.object "java/lang/String"), accessFlags := 18, slot := 0, constantValue := 0 }, { name := "ordinal", type := .int, accessFlags := 18, slot := 1, constantValue := 0 }, { name := "hash", type := .int, accessFlags := 2, slot := 2, constantValue := 0 }]
  methods := #[]
  instanceTypes := #[(.object "java/lang/String"), .int, .int]
  staticTypes := #[]
  resolved := Array.replicate 204 none
  statics := none }

def pool9 : Array CpInfo := pool [(1, .class_ 2), (0, u "com/example/avain/avain/model/Type"), (2, u "AGENT"), (0, u "Lcom/example/avain/avain/model/Type;"), (2, u "NUMBER"), (2, u "SYMMETRIC_KEY"), (2, u "FUNCTION"), (0, .fieldref 1 17), (0, .nameAndType 18 19), (0, u "$VALUES"), (0, u "[Lcom/example/avain/avain/model/Type;"), (0, .methodref 21 22), (0, .class_ 19), (0, .nameAndType 23 24), (0, u "clone"), (0, u "()Ljava/lang/Object;"), (1, .class_ 28), (1, u "java/lang/Enum"), (6, .fieldref 1 36), (0, .nameAndType 37 38), (0, u "keyword"), (0, u "Ljava/lang/String;"), (0, .methodref 1 40), (0, .nameAndType 41 42), (0, u "values"), (0, u "()[Lcom/example/avain/avain/model/Type;"), (0, .methodref 44 45), (0, .class_ 46), (0, .nameAndType 47 48), (0, u "java/lang/String"), (0, u "equals"), (0, u "(Ljava/lang/Object;)Z"), (20, u "(Ljava/lang/String;)Lcom/example/avain/avain/model/Type;"), (4, u "fromKeyword")] 6

def k9c0 : Code := { maxStack := 1, maxLocals := 0, code := prog_59_method_1_code, exceptionTable := #[], attributes := #[] }
def k9m0 : Method := { name := "values", desc := "()[Lcom/example/avain/avain/model/Type;", sig := { parameters := [], returnType := some (.array (.object "com/example/avain/avain/model/Type")) }, accessFlags := 9, code := some k9c0 }
def k9c1 : Code := { maxStack := 2, maxLocals := 5, code := prog_59_method_5_code, exceptionTable := #[], attributes := #[] }
def k9m1 : Method := { name := "fromKeyword", desc := "(Ljava/lang/String;)Lcom/example/avain/avain/model/Type;", sig := { parameters := [(.object "java/lang/String")], returnType := some (.object "com/example/avain/avain/model/Type") }, accessFlags := 9, code := some k9c1 }
/-- com/example/avain/avain/model/Type -/
def k9 : Class := { plain "com/example/avain/avain/model/Type" (some 8) with
  accessFlags := 16433
  interfaces := #[]
  cf := some (fileOf pool9 1 #[] #[{ accessFlags := 9, nameIndex := 41, descriptorIndex := 42, attributes := #[] }, { accessFlags := 9, nameIndex := 74, descriptorIndex := 69, attributes := #[] }] 16433 26 #[] #[{ accessFlags := 16409, nameIndex := 5, descriptorIndex := 6, attributes := #[] }, { accessFlags := 16409, nameIndex := 9, descriptorIndex := 6, attributes := #[] }, { accessFlags := 16409, nameIndex := 12, descriptorIndex := 6, attributes := #[] }, { accessFlags := 16409, nameIndex := 15, descriptorIndex := 6, attributes := #[] }, { accessFlags := 18, nameIndex := 37, descriptorIndex := 38, attributes := #[] }, { accessFlags := 4122, nameIndex := 18, descriptorIndex := 19, attributes := #[] }])
  fields := #[{ name := "AGENT", type := (.object "com/example/avain/avain/model/Type"), accessFlags := 16409, slot := 0, constantValue := 0 }, { name := "NUMBER", type := (.object "com/example/avain/avain/model/Type"), accessFlags := 16409, slot := 1, constantValue := 0 }, { name := "SYMMETRIC_KEY", type := (.object "com/example/avain/avain/model/Type"), accessFlags := 16409, slot := 2, constantValue := 0 }, { name := "FUNCTION", type := (.object "com/example/avain/avain/model/Type"), accessFlags := 16409, slot := 3, constantValue := 0 }, { name := "keyword", type := (.object "java/lang/String"), accessFlags := 18, slot := 3, constantValue := 0 }, { name := "$VALUES", type := (.array (.object "com/example/avain/avain/model/Type")), accessFlags := 4122, slot := 4, constantValue := 0 }]
  methods := #[k9m0, k9m1]
  instanceTypes := #[(.object "java/lang/String"), .int, .int, (.object "java/lang/String")]
  staticTypes := #[(.object "com/example/avain/avain/model/Type"), (.object "com/example/avain/avain/model/Type"), (.object "com/example/avain/avain/model/Type"), (.object "com/example/avain/avain/model/Type"), (.array (.object "com/example/avain/avain/model/Type"))]
  resolved := Array.replicate 81 none
  statics := some 1 }

def pool10 : Array CpInfo := pool [(1, .class_ 2), (0, u "java/lang/String"), (1, .class_ 6), (1, u "java/lang/Object"), (0, u "<init>"), (0, u "()V"), (0, .methodref 1 10), (0, .nameAndType 11 12), (0, u "checkIndex"), (0, u "(II)V"), (1, .class_ 16), (1, u "java/lang/StringLatin1"), (36, u "([BI)C"), (36, u "canEncode"), (14, u "(C)Z"), (15, u "$assertionsDisabled"), (0, u "Z"), (98, .class_ 223), (1, u "java/lang/StringLatin1$LinesSpliterator"), (28, u "charAt"), (28, u "equals"), (0, u "([B[B)Z"), (97, u "toBytes"), (1, u "(C)[B"), (7, .class_ 391), (0, u "java/lang/StringLatin1$CharsSpliterator")] 3

def k10m0 : Method := { name := "<init>", desc := "()V", sig := { parameters := [], returnType := none }, accessFlags := 0, code := none }
def k10c1 : Code := { maxStack := 2, maxLocals := 2, code := jdk_43_method_2_code, exceptionTable := #[], attributes := #[] }
def k10m1 : Method := { name := "charAt", desc := "([BI)C", sig := { parameters := [(.array .byte), .int], returnType := some .char }, accessFlags := 9, code := some k10c1 }
def k10c2 : Code := { maxStack := 2, maxLocals := 1, code := jdk_43_method_3_code, exceptionTable := #[], attributes := #[] }
def k10m2 : Method := { name := "canEncode", desc := "(C)Z", sig := { parameters := [.char], returnType := some .boolean }, accessFlags := 9, code := some k10c2 }
def k10c3 : Code := { maxStack := 3, maxLocals := 3, code := jdk_43_method_13_code, exceptionTable := #[], attributes := #[] }
def k10m3 : Method := { name := "equals", desc := "([B[B)Z", sig := { parameters := [(.array .byte), (.array .byte)], returnType := some .boolean }, accessFlags := 9, code := some k10c3 }
def k10c4 : Code := { maxStack := 4, maxLocals := 1, code := jdk_43_method_46_code, exceptionTable := #[], attributes := #[] }
def k10m4 : Method := { name := "toBytes", desc := "(C)[B", sig := { parameters := [.char], returnType := some (.array .byte) }, accessFlags := 9, code := some k10c4 }
/-- java/lang/StringLatin1 -/
def k10 : Class := { plain "java/lang/StringLatin1" (some 0) with
  accessFlags := 48
  interfaces := #[]
  cf := some (fileOf pool10 14 #[.nestMembers #[390, 221]] #[{ accessFlags := 0, nameIndex := 7, descriptorIndex := 8, attributes := #[] }, { accessFlags := 9, nameIndex := 252, descriptorIndex := 53, attributes := #[] }, { accessFlags := 9, nameIndex := 90, descriptorIndex := 105, attributes := #[] }, { accessFlags := 9, nameIndex := 281, descriptorIndex := 282, attributes := #[] }, { accessFlags := 9, nameIndex := 380, descriptorIndex := 382, attributes := #[] }] 48 4 #[] #[{ accessFlags := 4120, nameIndex := 121, descriptorIndex := 122, attributes := #[] }])
  fields := #[{ name := "$assertionsDisabled", type := .boolean, accessFlags := 4120, slot := 0, constantValue := 0 }]
  methods := #[k10m0, k10m1, k10m2, k10m3, k10m4]
  instanceTypes := #[]
  staticTypes := #[.boolean]
  resolved := Array.replicate 395 none
  statics := none }

def pool11 : Array CpInfo := pool [(2, .class_ 4), (1, u "java/lang/Object"), (0, u "<init>"), (0, u "()V"), (17, .class_ 26), (1, u "jdk/internal/util/Preconditions"), (6, u "checkIndex"), (21, .class_ 56), (0, u "jdk/internal/util/Preconditions$4"), (57, .class_ 115), (0, u "jdk/internal/util/Preconditions$1"), (7, u "SIOOBE_FORMATTER"), (0, u "Ljava/util/function/BiFunction;"), (0, .class_ 126), (0, u "jdk/internal/util/Preconditions$2"), (3, u "AIOOBE_FORMATTER"), (0, .class_ 132), (0, u "jdk/internal/util/Preconditions$3"), (3, u "IOOBE_FORMATTER"), (41, u "(IILjava/util/function/BiFunction;)I")] 15

def k11m0 : Method := { name := "<init>", desc := "()V", sig := { parameters := [], returnType := none }, accessFlags := 1, code := none }
def k11c1 : Code := { maxStack := 3, maxLocals := 3, code := jdk_41_method_11_code, exceptionTable := #[], attributes := #[] }
def k11m1 : Method := { name := "checkIndex", desc := "(IILjava/util/function/BiFunction;)I", sig := { parameters := [.int, .int, (.object "java/util/function/BiFunction")], returnType := some .int }, accessFlags := 9, code := some k11c1 }
/-- jdk/internal/util/Preconditions -/
def k11 : Class := { plain "jdk/internal/util/Preconditions" (some 0) with
  accessFlags := 33
  interfaces := #[]
  cf := some (fileOf pool11 24 #[.nestMembers #[55, 131, 125, 114]] #[{ accessFlags := 1, nameIndex := 5, descriptorIndex := 6, attributes := #[] }, { accessFlags := 9, nameIndex := 33, descriptorIndex := 178, attributes := #[] }] 33 2 #[] #[{ accessFlags := 25, nameIndex := 123, descriptorIndex := 124, attributes := #[] }, { accessFlags := 25, nameIndex := 130, descriptorIndex := 124, attributes := #[] }, { accessFlags := 25, nameIndex := 136, descriptorIndex := 124, attributes := #[] }])
  fields := #[{ name := "SIOOBE_FORMATTER", type := (.object "java/util/function/BiFunction"), accessFlags := 25, slot := 0, constantValue := 0 }, { name := "AIOOBE_FORMATTER", type := (.object "java/util/function/BiFunction"), accessFlags := 25, slot := 1, constantValue := 0 }, { name := "IOOBE_FORMATTER", type := (.object "java/util/function/BiFunction"), accessFlags := 25, slot := 2, constantValue := 0 }]
  methods := #[k11m0, k11m1]
  instanceTypes := #[]
  staticTypes := #[(.object "java/util/function/BiFunction"), (.object "java/util/function/BiFunction"), (.object "java/util/function/BiFunction")]
  resolved := Array.replicate 194 none
  statics := some 2 }

def pool12 : Array CpInfo := pool [(1, .class_ 2), (0, u "java/lang/Math"), (1, .class_ 6), (1, u "java/lang/Object"), (0, u "<init>"), (0, u "()V"), (89, .class_ 100), (1, u "java/lang/Math$RandomNumberGeneratorHolder"), (71, u "negativeZeroFloatBits"), (0, u "J"), (2, u "negativeZeroDoubleBits"), (24, u "min"), (43, u "$assertionsDisabled"), (0, u "Z"), (88, u "(II)I"), (2, u "twoToTheDoubleScaleDown"), (0, u "D"), (4, u "twoToTheDoubleScaleUp"), (9, u "E"), (3, u "PI"), (2, u "TAU"), (2, u "DEGREES_TO_RADIANS"), (0, u "RADIANS_TO_DEGREES")] 94

def k12m0 : Method := { name := "<init>", desc := "()V", sig := { parameters := [], returnType := none }, accessFlags := 2, code := none }
def k12c1 : Code := { maxStack := 2, maxLocals := 2, code := jdk_29_method_69_code, exceptionTable := #[], attributes := #[] }
def k12m1 : Method := { name := "min", desc := "(II)I", sig := { parameters := [.int, .int], returnType := some .int }, accessFlags := 9, code := some k12c1 }
/-- java/lang/Math -/
def k12 : Class := { plain "java/lang/Math" (some 0) with
  accessFlags := 49
  interfaces := #[]
  cf := some (fileOf pool12 1 #[.nestMembers #[98]] #[{ accessFlags := 2, nameIndex := 7, descriptorIndex := 8, attributes := #[] }, { accessFlags := 9, nameIndex := 201, descriptorIndex := 335, attributes := #[] }] 49 4 #[] #[{ accessFlags := 25, nameIndex := 354, descriptorIndex := 339, attributes := #[] }, { accessFlags := 25, nameIndex := 358, descriptorIndex := 339, attributes := #[] }, { accessFlags := 25, nameIndex := 361, descriptorIndex := 339, attributes := #[] }, { accessFlags := 26, nameIndex := 364, descriptorIndex := 339, attributes := #[] }, { accessFlags := 26, nameIndex := 365, descriptorIndex := 339, attributes := #[] }, { accessFlags := 26, nameIndex := 172, descriptorIndex := 173, attributes := #[] }, { accessFlags := 26, nameIndex := 176, descriptorIndex := 173, attributes := #[] }, { accessFlags := 8, nameIndex := 344, descriptorIndex := 339, attributes := #[] }, { accessFlags := 8, nameIndex := 338, descriptorIndex := 339, attributes := #[] }, { accessFlags := 4120, nameIndex := 245, descriptorIndex := 246, attributes := #[] }])
  fields := #[{ name := "E", type := .double, accessFlags := 25, slot := 0, constantValue := 0 }, { name := "PI", type := .double, accessFlags := 25, slot := 1, constantValue := 0 }, { name := "TAU", type := .double, accessFlags := 25, slot := 2, constantValue := 0 }, { name := "DEGREES_TO_RADIANS", type := .double, accessFlags := 26, slot := 3, constantValue := 0 }, { name := "RADIANS_TO_DEGREES", type := .double, accessFlags := 26, slot := 4, constantValue := 0 }, { name := "negativeZeroFloatBits", type := .long, accessFlags := 26, slot := 5, constantValue := 0 }, { name := "negativeZeroDoubleBits", type := .long, accessFlags := 26, slot := 6, constantValue := 0 }, { name := "twoToTheDoubleScaleUp", type := .double, accessFlags := 8, slot := 7, constantValue := 0 }, { name := "twoToTheDoubleScaleDown", type := .double, accessFlags := 8, slot := 8, constantValue := 0 }, { name := "$assertionsDisabled", type := .boolean, accessFlags := 4120, slot := 9, constantValue := 0 }]
  methods := #[k12m0, k12m1]
  instanceTypes := #[]
  staticTypes := #[.double, .double, .double, .double, .double, .long, .long, .double, .double, .boolean]
  resolved := Array.replicate 460 none
  statics := none }

def pool13 : Array CpInfo := pool [(6, .class_ 8), (1, u "java/lang/Object"), (0, u "<init>"), (0, u "()V"), (0, .methodref 12 13), (0, .class_ 14), (0, .nameAndType 15 16), (0, u "java/lang/StringUTF16"), (0, u "newBytesLength"), (0, u "(I)I"), (3, .integer 1073741823), (23, .fieldref 12 45), (0, .nameAndType 46 47), (0, u "$assertionsDisabled"), (0, u "Z"), (11, .fieldref 12 60), (0, .nameAndType 61 62), (0, u "HI_BYTE_SHIFT"), (0, u "I"), (0, .fieldref 12 64), (0, .nameAndType 65 62), (0, u "LO_BYTE_SHIFT"), (5, .methodref 12 72), (0, .nameAndType 73 74), (0, u "getChar"), (0, u "([BI)C"), (32, .methodref 12 108), (0, .nameAndType 109 110), (0, u "newBytesFor"), (0, u "(I)[B"), (0, .methodref 12 112), (0, .nameAndType 113 114), (0, u "putChar"), (0, u "([BII)V"), (0, .methodref 12 116), (0, .nameAndType 117 118), (0, u "compress"), (0, u "([CI[BII)I"), (0, .methodref 12 120), (0, .nameAndType 121 122), (0, u "toBytes"), (0, u "([CII)[B"), (138, u "coderFromArrayLen"), (0, u "([BI)B"), (106, .class_ 371), (1, u "java/lang/StringUTF16$LinesSpliterator"), (58, u "MAX_LENGTH"), (44, u "(C)[B"), (151, .class_ 628), (0, u "java/lang/StringUTF16$CodePointsSpliterator"), (0, .class_ 630), (0, u "java/lang/StringUTF16$CharsSpliterator")] 4

def k13m0 : Method := { name := "<init>", desc := "()V", sig := { parameters := [], returnType := none }, accessFlags := 0, code := none }
def k13c1 : Code := { maxStack := 1, maxLocals := 1, code := jdk_52_method_2_code, exceptionTable := #[], attributes := #[] }
def k13m1 : Method := { name := "newBytesFor", desc := "(I)[B", sig := { parameters := [.int], returnType := some (.array .byte) }, accessFlags := 9, code := some k13c1 }
def k13c2 : Code := { maxStack := 4, maxLocals := 1, code := jdk_52_method_3_code, exceptionTable := #[], attributes := #[] }
def k13m2 : Method := { name := "newBytesLength", desc := "(I)I", sig := { parameters := [.int], returnType := some .int }, accessFlags := 9, code := some k13c2 }
def k13c3 : Code := { maxStack := 4, maxLocals := 3, code := jdk_52_method_4_code, exceptionTable := #[], attributes := #[] }
def k13m3 : Method := { name := "putChar", desc := "([BII)V", sig := { parameters := [(.array .byte), .int, .int], returnType := none }, accessFlags := 8, code := some k13c3 }
def k13c4 : Code := { maxStack := 3, maxLocals := 2, code := jdk_52_method_5_code, exceptionTable := #[], attributes := #[] }
def k13m4 : Method := { name := "getChar", desc := "([BI)C", sig := { parameters := [(.array .byte), .int], returnType := some .char }, accessFlags := 8, code := some k13c4 }
def k13c5 : Code := { maxStack := 4, maxLocals := 5, code := jdk_52_method_14_code, exceptionTable := #[], attributes := #[] }
def k13m5 : Method := { name := "toBytes", desc := "([CII)[B", sig := { parameters := [(.array .char), .int, .int], returnType := some (.array .byte) }, accessFlags := 9, code := some k13c5 }
def k13c6 : Code := { maxStack := 2, maxLocals := 2, code := jdk_52_method_15_code, exceptionTable := #[], attributes := #[] }
def k13m6 : Method := { name := "coderFromArrayLen", desc := "([BI)B", sig := { parameters := [(.array .byte), .int], returnType := some .byte }, accessFlags := 8, code := some k13c6 }
def k13c7 : Code := { maxStack := 5, maxLocals := 6, code := jdk_52_method_16_code, exceptionTable := #[], attributes := #[] }
def k13m7 : Method := { name := "compress", desc := "([CII)[B", sig := { parameters := [(.array .char), .int, .int], returnType := some (.array .byte) }, accessFlags := 9, code := some k13c7 }
def k13c8 : Code := { maxStack := 3, maxLocals := 7, code := jdk_52_method_21_code, exceptionTable := #[], attributes := #[] }
def k13m8 : Method := { name := "compress", desc := "([CI[BII)I", sig := { parameters := [(.array .char), .int, (.array .byte), .int, .int], returnType := some .int }, accessFlags := 9, code := some k13c8 }
def k13c9 : Code := { maxStack := 3, maxLocals := 2, code := jdk_52_method_24_code, exceptionTable := #[], attributes := #[] }
def k13m9 : Method := { name := "toBytes", desc := "(C)[B", sig := { parameters := [.char], returnType := some (.array .byte) }, accessFlags := 9, code := some k13c9 }
/-- java/lang/StringUTF16 -/
def k13 : Class := { plain "java/lang/StringUTF16" (some 0) with
  accessFlags := 48
  interfaces := #[]
  cf := some (fileOf pool13 12 #[.nestMembers #[627, 629, 369]] #[{ accessFlags := 0, nameIndex := 9, descriptorIndex := 10, attributes := #[] }, { accessFlags := 9, nameIndex := 109, descriptorIndex := 110, attributes := #[] }, { accessFlags := 9, nameIndex := 15, descriptorIndex := 16, attributes := #[] }, { accessFlags := 8, nameIndex := 113, descriptorIndex := 114, attributes := #[] }, { accessFlags := 8, nameIndex := 73, descriptorIndex := 74, attributes := #[] }, { accessFlags := 9, nameIndex := 121, descriptorIndex := 122, attributes := #[] }, { accessFlags := 8, nameIndex := 261, descriptorIndex := 262, attributes := #[] }, { accessFlags := 9, nameIndex := 117, descriptorIndex := 122, attributes := #[] }, { accessFlags := 9, nameIndex := 117, descriptorIndex := 118, attributes := #[] }, { accessFlags := 9, nameIndex := 121, descriptorIndex := 475, attributes := #[] }] 48 6 #[] #[{ accessFlags := 26, nameIndex := 61, descriptorIndex := 62, attributes := #[] }, { accessFlags := 26, nameIndex := 65, descriptorIndex := 62, attributes := #[] }, { accessFlags := 24, nameIndex := 430, descriptorIndex := 62, attributes := #[] }, { accessFlags := 4120, nameIndex := 46, descriptorIndex := 47, attributes := #[] }])
  fields := #[{ name := "HI_BYTE_SHIFT", type := .int, accessFlags := 26, slot := 0, constantValue := 0 }, { name := "LO_BYTE_SHIFT", type := .int, accessFlags := 26, slot := 1, constantValue := 0 }, { name := "MAX_LENGTH", type := .int, accessFlags := 24, slot := 2, constantValue := 0 }, { name := "$assertionsDisabled", type := .boolean, accessFlags := 4120, slot := 3, constantValue := 0 }]
  methods := #[k13m0, k13m1, k13m2, k13m3, k13m4, k13m5, k13m6, k13m7, k13m8, k13m9]
  instanceTypes := #[]
  staticTypes := #[.int, .int, .int, .boolean]
  resolved := Array.replicate 635 none
  statics := some 3 }

def pool14 : Array CpInfo := pool [(1, .class_ 2), (0, u "java/lang/Cloneable"), (0, .class_ 4), (0, u "java/lang/Object")] 2

/-- java/lang/Cloneable -/
def k14 : Class := { plain "java/lang/Cloneable" (some 0) with
  accessFlags := 1537
  interfaces := #[]
  cf := some (fileOf pool14 1 #[] #[] 1537 3 #[] #[])
  fields := #[]
  methods := #[]
  instanceTypes := #[]
  staticTypes := #[]
  resolved := Array.replicate 7 none
  statics := none }

def pool15 : Array CpInfo := pool [(9, u "<init>"), (6, .class_ 18), (1, u "java/lang/Object"), (0, u "()V"), (1, .class_ 23), (1, u "jdk/internal/util/ArraysSupport"), (0, u "LOG2_ARRAY_LONG_INDEX_SCALE"), (0, u "I"), (2, u "U"), (0, u "Ljdk/internal/misc/Unsafe;"), (8, u "BIG_ENDIAN"), (0, u "Z"), (8, u "LOG2_BYTE_BIT_SIZE"), (4, u "LOG2_ARRAY_INT_INDEX_SCALE"), (54, u "JLA"), (0, u "Ljdk/internal/access/JavaLangAccess;"), (11, u "LOG2_ARRAY_BOOLEAN_INDEX_SCALE"), (9, u "LOG2_ARRAY_BYTE_INDEX_SCALE"), (5, u "LOG2_ARRAY_CHAR_INDEX_SCALE"), (5, u "LOG2_ARRAY_SHORT_INDEX_SCALE"), (18, u "LOG2_ARRAY_FLOAT_INDEX_SCALE"), (24, u "LOG2_ARRAY_DOUBLE_INDEX_SCALE"), (89, u "T_BOOLEAN"), (2, u "T_CHAR"), (1, u "T_FLOAT"), (1, u "T_DOUBLE"), (1, u "T_BYTE"), (1, u "T_SHORT"), (1, u "T_INT"), (1, u "T_LONG"), (1, u "SOFT_MAX_ARRAY_LENGTH")] 83

def k15m0 : Method := { name := "<init>", desc := "()V", sig := { parameters := [], returnType := none }, accessFlags := 2, code := none }
/-- jdk/internal/util/ArraysSupport -/
def k15 : Class := { plain "jdk/internal/util/ArraysSupport" (some 0) with
  accessFlags := 33
  interfaces := #[]
  cf := some (fileOf pool15 21 #[] #[{ accessFlags := 2, nameIndex := 9, descriptorIndex := 19, attributes := #[] }] 33 16 #[] #[{ accessFlags := 24, nameIndex := 28, descriptorIndex := 29, attributes := #[] }, { accessFlags := 26, nameIndex := 38, descriptorIndex := 39, attributes := #[] }, { accessFlags := 25, nameIndex := 121, descriptorIndex := 25, attributes := #[] }, { accessFlags := 25, nameIndex := 131, descriptorIndex := 25, attributes := #[] }, { accessFlags := 25, nameIndex := 137, descriptorIndex := 25, attributes := #[] }, { accessFlags := 25, nameIndex := 143, descriptorIndex := 25, attributes := #[] }, { accessFlags := 25, nameIndex := 53, descriptorIndex := 25, attributes := #[] }, { accessFlags := 25, nameIndex := 24, descriptorIndex := 25, attributes := #[] }, { accessFlags := 25, nameIndex := 162, descriptorIndex := 25, attributes := #[] }, { accessFlags := 25, nameIndex := 187, descriptorIndex := 25, attributes := #[] }, { accessFlags := 26, nameIndex := 48, descriptorIndex := 25, attributes := #[] }, { accessFlags := 25, nameIndex := 277, descriptorIndex := 25, attributes := #[] }, { accessFlags := 25, nameIndex := 280, descriptorIndex := 25, attributes := #[] }, { accessFlags := 25, nameIndex := 282, descriptorIndex := 25, attributes := #[] }, { accessFlags := 25, nameIndex := 284, descriptorIndex := 25, attributes := #[] }, { accessFlags := 25, nameIndex := 286, descriptorIndex := 25, attributes := #[] }, { accessFlags := 25, nameIndex := 288, descriptorIndex := 25, attributes := #[] }, { accessFlags := 25, nameIndex := 290, descriptorIndex := 25, attributes := #[] }, { accessFlags := 25, nameIndex := 292, descriptorIndex := 25, attributes := #[] }, { accessFlags := 26, nameIndex := 108, descriptorIndex := 109, attributes := #[] }, { accessFlags := 25, nameIndex := 294, descriptorIndex := 25, attributes := #[] }])
  fields := #[{ name := "U", type := (.object "jdk/internal/misc/Unsafe"), accessFlags := 24, slot := 0, constantValue := 0 }, { name := "BIG_ENDIAN", type := .boolean, accessFlags := 26, slot := 1, constantValue := 0 }, { name := "LOG2_ARRAY_BOOLEAN_INDEX_SCALE", type := .int, accessFlags := 25, slot := 2, constantValue := 0 }, { name := "LOG2_ARRAY_BYTE_INDEX_SCALE", type := .int, accessFlags := 25, slot := 3, constantValue := 0 }, { name := "LOG2_ARRAY_CHAR_INDEX_SCALE", type := .int, accessFlags := 25, slot := 4, constantValue := 0 }, { name := "LOG2_ARRAY_SHORT_INDEX_SCALE", type := .int, accessFlags := 25, slot := 5, constantValue := 0 }, { name := "LOG2_ARRAY_INT_INDEX_SCALE", type := .int, accessFlags := 25, slot := 6, constantValue := 0 }, { name := "LOG2_ARRAY_LONG_INDEX_SCALE", type := .int, accessFlags := 25, slot := 7, constantValue := 0 }, { name := "LOG2_ARRAY_FLOAT_INDEX_SCALE", type := .int, accessFlags := 25, slot := 8, constantValue := 0 }, { name := "LOG2_ARRAY_DOUBLE_INDEX_SCALE", type := .int, accessFlags := 25, slot := 9, constantValue := 0 }, { name := "LOG2_BYTE_BIT_SIZE", type := .int, accessFlags := 26, slot := 10, constantValue := 0 }, { name := "T_BOOLEAN", type := .int, accessFlags := 25, slot := 11, constantValue := 0 }, { name := "T_CHAR", type := .int, accessFlags := 25, slot := 12, constantValue := 0 }, { name := "T_FLOAT", type := .int, accessFlags := 25, slot := 13, constantValue := 0 }, { name := "T_DOUBLE", type := .int, accessFlags := 25, slot := 14, constantValue := 0 }, { name := "T_BYTE", type := .int, accessFlags := 25, slot := 15, constantValue := 0 }, { name := "T_SHORT", type := .int, accessFlags := 25, slot := 16, constantValue := 0 }, { name := "T_INT", type := .int, accessFlags := 25, slot := 17, constantValue := 0 }, { name := "T_LONG", type := .int, accessFlags := 25, slot := 18, constantValue := 0 }, { name := "JLA", type := (.object "jdk/internal/access/JavaLangAccess"), accessFlags := 26, slot := 19, constantValue := 0 }, { name := "SOFT_MAX_ARRAY_LENGTH", type := .int, accessFlags := 25, slot := 20, constantValue := 0 }]
  methods := #[k15m0]
  instanceTypes := #[]
  staticTypes := #[(.object "jdk/internal/misc/Unsafe"), .boolean, .int, .int, .int, .int, .int, .int, .int, .int, .int, .int, .int, .int, .int, .int, .int, .int, .int, (.object "jdk/internal/access/JavaLangAccess"), .int]
  resolved := Array.replicate 378 none
  statics := none }

/-- the primitive byte -/
def k16 : Class := { plain "byte" none with kind := .primitive 'B', accessFlags := 0x411 }
/-- [B -/
def k17 : Class := { plain "[B" (some 0) with kind := .array 16 .byte, interfaces := #[14, 2], accessFlags := 1041 }

/-- the primitive char -/
def k18 : Class := { plain "char" none with kind := .primitive 'C', accessFlags := 0x411 }
/-- [C -/
def k19 : Class := { plain "[C" (some 0) with kind := .array 18 .char, interfaces := #[14, 2], accessFlags := 1041 }

/-- the primitive int -/
def k20 : Class := { plain "int" none with kind := .primitive 'I', accessFlags := 0x411 }
/-- [I -/
def k21 : Class := { plain "[I" (some 0) with kind := .array 20 .int, interfaces := #[14, 2], accessFlags := 1041 }

/-- [Lcom/example/avain/avain/model/Type; -/
def k22 : Class := { plain "[Lcom/example/avain/avain/model/Type;" (some 0) with kind := .array 9 (.object "com/example/avain/avain/model/Type"), interfaces := #[14, 2], accessFlags := 1041 }

def heap : Heap := #[{ cls := 7, slots := #[.long 0, .int 1, .null, .int 0, .null, .int 0, .int 0], vm := .statics 7 },
  { cls := 9, slots := #[.ref 5, .ref 6, .ref 7, .ref 8, .ref 4], vm := .statics 9 },
  { cls := 11, slots := #[.null, .null, .null], vm := .statics 11 },
  { cls := 13, slots := #[.int 0, .int 8, .int 0, .int 1], vm := .statics 13 },
  { cls := 22, slots := #[.ref 5, .ref 6, .ref 7, .ref 8], vm := .none },
  { cls := 9, slots := #[.null, .int 0, .int 0, .ref 9], vm := .none },
  { cls := 9, slots := #[.null, .int 1, .int 0, .ref 10], vm := .none },
  { cls := 9, slots := #[.null, .int 2, .int 0, .ref 11], vm := .none },
  { cls := 9, slots := #[.null, .int 3, .int 0, .ref 12], vm := .none },
  { cls := 7, slots := #[.ref 13, .int 0, .int 0, .int 0], vm := .none },
  { cls := 7, slots := #[.ref 14, .int 0, .int 0, .int 0], vm := .none },
  { cls := 7, slots := #[.ref 15, .int 0, .int 0, .int 0], vm := .none },
  { cls := 7, slots := #[.ref 16, .int 0, .int 0, .int 0], vm := .none },
  { cls := 17, slots := #[.int 65, .int 103, .int 101, .int 110, .int 116], vm := .none },
  { cls := 17, slots := #[.int 78, .int 117, .int 109, .int 98, .int 101, .int 114], vm := .none },
  { cls := 17, slots := #[.int 83, .int 121, .int 109, .int 109, .int 101, .int 116, .int 114, .int 105, .int 99, .int 75, .int 101, .int 121], vm := .none },
  { cls := 17, slots := #[.int 70, .int 117, .int 110, .int 99, .int 116, .int 105, .int 111, .int 110], vm := .none }]
def classes : Array Class := #[k0, k1, k2, k3, k4, k5, k6, k7, k8, k9, k10, k11, k12, k13, k14, k15, k16, k17, k18, k19, k20, k21, k22]
def interned : List (Array UInt16 × Addr) := []
def slotsUsed : Nat := 86
def theMethod : MethodId := ⟨1, 1⟩
def args0 : Array Value := #[.int 3, .int 1, .int 2, .int 65]
def aboutOver (below : List Frame) : State where
  vm := { classes := classes, interned := interned.toArray }
  heap := heap
  slotsUsed := slotsUsed
  threads := #[{ frames := .invoking theMethod args0 :: below }]
def below0 : List Frame := [.native { method := ⟨0, 0⟩, args := #[] }]
def about1 : State := aboutOver below0
def p0 : Program := .bare "" "" ""
def e0 : Env := launch0.env 0 0 0
theorem w_frames : about1.frames = Frame.invoking theMethod args0 :: below0 := rfl
set_option maxRecDepth 65536 in
theorem w_args : argsFit about1.vm theMethod args0 = true := by decide +kernel
set_option maxRecDepth 65536 in
theorem w_heap : heapFits about1 = true := by decide +kernel
set_option maxRecDepth 65536 in
theorem w_runnable : about1.curStatus? = some .runnable := by decide +kernel
set_option maxRecDepth 65536 in
theorem w_alone : about1.alone = true := by decide +kernel
set_option maxRecDepth 65536 in
theorem w_named : about1.methodNamed? x = some theMethod := by decide +kernel
set_option maxRecDepth 65536 in
theorem w_hears : about1.hears theMethod below0 = true := by decide +kernel
set_option maxRecDepth 65536 in
theorem w_ripe : about1.ripe theMethod args0 below0 = true := by decide +kernel
theorem w_running : about1.status = .running := rfl
set_option maxRecDepth 65536 in
theorem w_room : about1.hasRoom e0.platform room_1 = true :=
  launch0.hasRoom_least _ room_1 (by decide +kernel) (by decide +kernel) (by decide +kernel) (by decide +kernel) (by decide +kernel) (by decide +kernel)
theorem allAtoms_all (ts : List Jvm.Cond) (a : Array Jvm.Value) (st : Jvm.State) : (allAtoms ts).before a st = ts.all (fun c => c.before a st) := by
  induction ts with
  | nil => rfl
  | cons c t ih =>
    show (Jvm.Cond.and c (allAtoms t)).before a st = _
    rw [Jvm.Cond.before_and, ih, List.all_cons]
def words1 : List Jvm.Cond := Jvm.Cond.code x code maxLocals ret :: tables_1
/-- a 'code' word, met by the world's own term for the bytes: nothing is compared byte by byte -/
theorem code_word {y : MethodName} {bytes : ByteArray} {mx : Nat} {rt : Option FieldType} {a : Array Value} {s : State} {m : MethodId} {meth : Method} {c : Code} (h1 : s.methodNamed? y = some m) (h2 : s.vm.method? m = some meth) (h3 : meth.code = some c) (h4 : c.code = bytes)
    (h5 : (c.maxLocals == mx && c.exceptionTable.isEmpty && decide (c.maxStack ≤ mostOperands) && decide (meth.sig.returnType = rt) && !meth.locks && decide (parseMethodDescriptor y.desc = some meth.sig)) = true) : (Jvm.Cond.code y bytes mx rt).before a s = true := by
  simp only [Bool.and_eq_true, beq_iff_eq, Bool.not_eq_true', decide_eq_true_eq] at h5
  obtain ⟨⟨⟨⟨⟨g1, g2⟩, g3⟩, g4⟩, g5⟩, g6⟩ := h5
  simp [Cond.before, Cond.holds, Cond.value, h1, h2, h3, h4, g1, g2, g3, g4, g5, g6]
def isCode : Jvm.Cond → Bool
  | .code _ _ _ _ => true
  | _ => false
theorem all_split {L : List Jvm.Cond} {P : Jvm.Cond → Bool} (h1 : L.all (fun c => isCode c || P c) = true) (h2 : ∀ c ∈ L.filter isCode, P c = true) : L.all P = true := by
  refine List.all_eq_true.mpr fun c hc => ?_
  have h := List.all_eq_true.mp h1 c hc
  rcases Bool.eq_false_or_eq_true (isCode c) with hi | hi
  · exact h2 c (List.mem_filter.mpr ⟨hc, hi⟩)
  · simpa [hi] using h
set_option maxRecDepth 65536 in
theorem w_c0 : (Jvm.Cond.code x code maxLocals ret).before args0 about1 = true := code_word (m := ⟨1, 1⟩) (meth := k1m1) (c := k1c1) (by decide +kernel) rfl rfl rfl (by decide +kernel)
set_option maxRecDepth 65536 in
theorem w_c1 : (Jvm.Cond.code ({ cls := "java/lang/String", name := "length", desc := "()I" } : Jvm.MethodName) jdk_42_method_54_code (1 : Nat) (Option.some Jvm.ClassFile.FieldType.int)).before args0 about1 = true := code_word (m := ⟨7, 2⟩) (meth := k7m2) (c := k7c2) (by decide +kernel) rfl rfl rfl (by decide +kernel)
set_option maxRecDepth 65536 in
theorem w_c2 : (Jvm.Cond.code ({ cls := "java/lang/String", name := "coder", desc := "()B" } : Jvm.MethodName) jdk_42_method_152_code (1 : Nat) (Option.some Jvm.ClassFile.FieldType.byte)).before args0 about1 = true := code_word (m := ⟨7, 8⟩) (meth := k7m8) (c := k7c8) (by decide +kernel) rfl rfl rfl (by decide +kernel)
set_option maxRecDepth 65536 in
theorem w_c3 : (Jvm.Cond.code ({ cls := "java/lang/String", name := "charAt", desc := "(I)C" } : Jvm.MethodName) jdk_42_method_56_code (2 : Nat) (Option.some Jvm.ClassFile.FieldType.char)).before args0 about1 = true := code_word (m := ⟨7, 3⟩) (meth := k7m3) (c := k7c3) (by decide +kernel) rfl rfl rfl (by decide +kernel)
set_option maxRecDepth 65536 in
theorem w_c4 : (Jvm.Cond.code ({ cls := "java/lang/String", name := "isLatin1", desc := "()Z" } : Jvm.MethodName) jdk_42_method_154_code (1 : Nat) (Option.some Jvm.ClassFile.FieldType.boolean)).before args0 about1 = true := code_word (m := ⟨7, 9⟩) (meth := k7m9) (c := k7c9) (by decide +kernel) rfl rfl rfl (by decide +kernel)
set_option maxRecDepth 65536 in
theorem w_c5 : (Jvm.Cond.code ({ cls := "java/lang/StringLatin1", name := "charAt", desc := "([BI)C" } : Jvm.MethodName) jdk_43_method_2_code (2 : Nat) (Option.some Jvm.ClassFile.FieldType.char)).before args0 about1 = true := code_word (m := ⟨10, 1⟩) (meth := k10m1) (c := k10c1) (by decide +kernel) rfl rfl rfl (by decide +kernel)
set_option maxRecDepth 65536 in
theorem w_c6 : (Jvm.Cond.code ({ cls := "java/lang/String", name := "checkIndex", desc := "(II)V" } : Jvm.MethodName) jdk_42_method_155_code (2 : Nat) (Option.none : Option Jvm.ClassFile.FieldType)).before args0 about1 = true := code_word (m := ⟨7, 10⟩) (meth := k7m10) (c := k7c10) (by decide +kernel) rfl rfl rfl (by decide +kernel)
set_option maxRecDepth 65536 in
theorem w_c7 : (Jvm.Cond.code ({ cls := "jdk/internal/util/Preconditions", name := "checkIndex", desc := "(IILjava/util/function/BiFunction;)I" } : Jvm.MethodName) jdk_41_method_11_code (3 : Nat) (Option.some Jvm.ClassFile.FieldType.int)).before args0 about1 = true := code_word (m := ⟨11, 1⟩) (meth := k11m1) (c := k11c1) (by decide +kernel) rfl rfl rfl (by decide +kernel)
set_option maxRecDepth 65536 in
theorem w_c8 : (Jvm.Cond.code ({ cls := "com/example/avain/avain/model/TypeFromKeywordPinLaw", name := "build", desc := "(Ljava/lang/String;IIC)Ljava/lang/String;" } : Jvm.MethodName) method_3_code (8 : Nat) (Option.some (Jvm.ClassFile.FieldType.object "java/lang/String"))).before args0 about1 = true := code_word (m := ⟨1, 2⟩) (meth := k1m2) (c := k1c2) (by decide +kernel) rfl rfl rfl (by decide +kernel)
set_option maxRecDepth 65536 in
theorem w_c9 : (Jvm.Cond.code ({ cls := "java/lang/Math", name := "min", desc := "(II)I" } : Jvm.MethodName) jdk_29_method_69_code (2 : Nat) (Option.some Jvm.ClassFile.FieldType.int)).before args0 about1 = true := code_word (m := ⟨12, 1⟩) (meth := k12m1) (c := k12c1) (by decide +kernel) rfl rfl rfl (by decide +kernel)
set_option maxRecDepth 65536 in
theorem w_c10 : (Jvm.Cond.code ({ cls := "com/example/avain/avain/model/TypeFromKeywordPinLaw", name := "copy", desc := "([CLjava/lang/String;II)V" } : Jvm.MethodName) method_4_code (4 : Nat) (Option.none : Option Jvm.ClassFile.FieldType)).before args0 about1 = true := code_word (m := ⟨1, 3⟩) (meth := k1m3) (c := k1c3) (by decide +kernel) rfl rfl rfl (by decide +kernel)
set_option maxRecDepth 65536 in
theorem w_c11 : (Jvm.Cond.code ({ cls := "java/lang/String", name := "<init>", desc := "([C)V" } : Jvm.MethodName) jdk_42_method_3_code (2 : Nat) (Option.none : Option Jvm.ClassFile.FieldType)).before args0 about1 = true := code_word (m := ⟨7, 1⟩) (meth := k7m1) (c := k7c1) (by decide +kernel) rfl rfl rfl (by decide +kernel)
set_option maxRecDepth 65536 in
theorem w_c12 : (Jvm.Cond.code ({ cls := "java/lang/String", name := "<init>", desc := "([CIILjava/lang/Void;)V" } : Jvm.MethodName) jdk_42_method_149_code (6 : Nat) (Option.none : Option Jvm.ClassFile.FieldType)).before args0 about1 = true := code_word (m := ⟨7, 6⟩) (meth := k7m6) (c := k7c6) (by decide +kernel) rfl rfl rfl (by decide +kernel)
set_option maxRecDepth 65536 in
theorem w_c13 : (Jvm.Cond.code ({ cls := "java/lang/Object", name := "<init>", desc := "()V" } : Jvm.MethodName) object_method_1_code (1 : Nat) (Option.none : Option Jvm.ClassFile.FieldType)).before args0 about1 = true := code_word (m := ⟨0, 0⟩) (meth := k0m0) (c := k0c0) (by decide +kernel) rfl rfl rfl (by decide +kernel)
set_option maxRecDepth 65536 in
theorem w_c14 : (Jvm.Cond.code ({ cls := "java/lang/StringUTF16", name := "compress", desc := "([CII)[B" } : Jvm.MethodName) jdk_52_method_16_code (6 : Nat) (Option.some (Jvm.ClassFile.FieldType.array Jvm.ClassFile.FieldType.byte))).before args0 about1 = true := code_word (m := ⟨13, 7⟩) (meth := k13m7) (c := k13c7) (by decide +kernel) rfl rfl rfl (by decide +kernel)
set_option maxRecDepth 65536 in
theorem w_c15 : (Jvm.Cond.code ({ cls := "java/lang/StringUTF16", name := "compress", desc := "([CI[BII)I" } : Jvm.MethodName) jdk_52_method_21_code (7 : Nat) (Option.some Jvm.ClassFile.FieldType.int)).before args0 about1 = true := code_word (m := ⟨13, 8⟩) (meth := k13m8) (c := k13c8) (by decide +kernel) rfl rfl rfl (by decide +kernel)
set_option maxRecDepth 65536 in
theorem w_c16 : (Jvm.Cond.code ({ cls := "java/lang/StringUTF16", name := "coderFromArrayLen", desc := "([BI)B" } : Jvm.MethodName) jdk_52_method_15_code (2 : Nat) (Option.some Jvm.ClassFile.FieldType.byte)).before args0 about1 = true := code_word (m := ⟨13, 6⟩) (meth := k13m6) (c := k13c6) (by decide +kernel) rfl rfl rfl (by decide +kernel)
set_option maxRecDepth 65536 in
theorem w_c17 : (Jvm.Cond.code ({ cls := "com/example/avain/avain/model/Type", name := "fromKeyword", desc := "(Ljava/lang/String;)Lcom/example/avain/avain/model/Type;" } : Jvm.MethodName) prog_59_method_5_code (5 : Nat) (Option.some (Jvm.ClassFile.FieldType.object "com/example/avain/avain/model/Type"))).before args0 about1 = true := code_word (m := ⟨9, 1⟩) (meth := k9m1) (c := k9c1) (by decide +kernel) rfl rfl rfl (by decide +kernel)
set_option maxRecDepth 65536 in
theorem w_c18 : (Jvm.Cond.code ({ cls := "com/example/avain/avain/model/Type", name := "values", desc := "()[Lcom/example/avain/avain/model/Type;" } : Jvm.MethodName) prog_59_method_1_code (0 : Nat) (Option.some (Jvm.ClassFile.FieldType.array (Jvm.ClassFile.FieldType.object "com/example/avain/avain/model/Type")))).before args0 about1 = true := code_word (m := ⟨9, 0⟩) (meth := k9m0) (c := k9c0) (by decide +kernel) rfl rfl rfl (by decide +kernel)
set_option maxRecDepth 65536 in
theorem w_c19 : (Jvm.Cond.code ({ cls := "java/lang/String", name := "equals", desc := "(Ljava/lang/Object;)Z" } : Jvm.MethodName) jdk_42_method_66_code (3 : Nat) (Option.some Jvm.ClassFile.FieldType.boolean)).before args0 about1 = true := code_word (m := ⟨7, 4⟩) (meth := k7m4) (c := k7c4) (by decide +kernel) rfl rfl rfl (by decide +kernel)
set_option maxRecDepth 65536 in
theorem w_c20 : (Jvm.Cond.code ({ cls := "java/lang/StringLatin1", name := "equals", desc := "([B[B)Z" } : Jvm.MethodName) jdk_43_method_13_code (3 : Nat) (Option.some Jvm.ClassFile.FieldType.boolean)).before args0 about1 = true := code_word (m := ⟨10, 3⟩) (meth := k10m3) (c := k10c3) (by decide +kernel) rfl rfl rfl (by decide +kernel)
set_option maxRecDepth 65536 in
theorem w_c21 : (Jvm.Cond.code ({ cls := "java/lang/String", name := "valueOf", desc := "(C)Ljava/lang/String;" } : Jvm.MethodName) jdk_42_method_139_code (1 : Nat) (Option.some (Jvm.ClassFile.FieldType.object "java/lang/String"))).before args0 about1 = true := code_word (m := ⟨7, 5⟩) (meth := k7m5) (c := k7c5) (by decide +kernel) rfl rfl rfl (by decide +kernel)
set_option maxRecDepth 65536 in
theorem w_c22 : (Jvm.Cond.code ({ cls := "java/lang/StringLatin1", name := "canEncode", desc := "(C)Z" } : Jvm.MethodName) jdk_43_method_3_code (1 : Nat) (Option.some Jvm.ClassFile.FieldType.boolean)).before args0 about1 = true := code_word (m := ⟨10, 2⟩) (meth := k10m2) (c := k10c2) (by decide +kernel) rfl rfl rfl (by decide +kernel)
set_option maxRecDepth 65536 in
theorem w_c23 : (Jvm.Cond.code ({ cls := "java/lang/StringLatin1", name := "toBytes", desc := "(C)[B" } : Jvm.MethodName) jdk_43_method_46_code (1 : Nat) (Option.some (Jvm.ClassFile.FieldType.array Jvm.ClassFile.FieldType.byte))).before args0 about1 = true := code_word (m := ⟨10, 4⟩) (meth := k10m4) (c := k10c4) (by decide +kernel) rfl rfl rfl (by decide +kernel)
set_option maxRecDepth 65536 in
theorem w_c24 : (Jvm.Cond.code ({ cls := "java/lang/String", name := "<init>", desc := "([BB)V" } : Jvm.MethodName) jdk_42_method_151_code (3 : Nat) (Option.none : Option Jvm.ClassFile.FieldType)).before args0 about1 = true := code_word (m := ⟨7, 7⟩) (meth := k7m7) (c := k7c7) (by decide +kernel) rfl rfl rfl (by decide +kernel)
set_option maxRecDepth 65536 in
theorem w_c25 : (Jvm.Cond.code ({ cls := "java/lang/StringUTF16", name := "toBytes", desc := "([CII)[B" } : Jvm.MethodName) jdk_52_method_14_code (5 : Nat) (Option.some (Jvm.ClassFile.FieldType.array Jvm.ClassFile.FieldType.byte))).before args0 about1 = true := code_word (m := ⟨13, 5⟩) (meth := k13m5) (c := k13c5) (by decide +kernel) rfl rfl rfl (by decide +kernel)
set_option maxRecDepth 65536 in
theorem w_c26 : (Jvm.Cond.code ({ cls := "java/lang/StringUTF16", name := "newBytesFor", desc := "(I)[B" } : Jvm.MethodName) jdk_52_method_2_code (1 : Nat) (Option.some (Jvm.ClassFile.FieldType.array Jvm.ClassFile.FieldType.byte))).before args0 about1 = true := code_word (m := ⟨13, 1⟩) (meth := k13m1) (c := k13c1) (by decide +kernel) rfl rfl rfl (by decide +kernel)
set_option maxRecDepth 65536 in
theorem w_c27 : (Jvm.Cond.code ({ cls := "java/lang/StringUTF16", name := "newBytesLength", desc := "(I)I" } : Jvm.MethodName) jdk_52_method_3_code (1 : Nat) (Option.some Jvm.ClassFile.FieldType.int)).before args0 about1 = true := code_word (m := ⟨13, 2⟩) (meth := k13m2) (c := k13c2) (by decide +kernel) rfl rfl rfl (by decide +kernel)
set_option maxRecDepth 65536 in
theorem w_c28 : (Jvm.Cond.code ({ cls := "java/lang/StringUTF16", name := "putChar", desc := "([BII)V" } : Jvm.MethodName) jdk_52_method_4_code (3 : Nat) (Option.none : Option Jvm.ClassFile.FieldType)).before args0 about1 = true := code_word (m := ⟨13, 3⟩) (meth := k13m3) (c := k13c3) (by decide +kernel) rfl rfl rfl (by decide +kernel)
set_option maxRecDepth 65536 in
theorem w_c29 : (Jvm.Cond.code ({ cls := "java/lang/StringUTF16", name := "getChar", desc := "([BI)C" } : Jvm.MethodName) jdk_52_method_5_code (2 : Nat) (Option.some Jvm.ClassFile.FieldType.char)).before args0 about1 = true := code_word (m := ⟨13, 4⟩) (meth := k13m4) (c := k13c4) (by decide +kernel) rfl rfl rfl (by decide +kernel)
set_option maxRecDepth 65536 in
theorem w_c30 : (Jvm.Cond.code ({ cls := "java/lang/StringUTF16", name := "toBytes", desc := "(C)[B" } : Jvm.MethodName) jdk_52_method_24_code (2 : Nat) (Option.some (Jvm.ClassFile.FieldType.array Jvm.ClassFile.FieldType.byte))).before args0 about1 = true := code_word (m := ⟨13, 9⟩) (meth := k13m9) (c := k13c9) (by decide +kernel) rfl rfl rfl (by decide +kernel)
def codes1 : List Jvm.Cond := [Jvm.Cond.code x code maxLocals ret, Jvm.Cond.code ({ cls := "java/lang/String", name := "length", desc := "()I" } : Jvm.MethodName) jdk_42_method_54_code (1 : Nat) (Option.some Jvm.ClassFile.FieldType.int), Jvm.Cond.code ({ cls := "java/lang/String", name := "coder", desc := "()B" } : Jvm.MethodName) jdk_42_method_152_code (1 : Nat) (Option.some Jvm.ClassFile.FieldType.byte), Jvm.Cond.code ({ cls := "java/lang/String", name := "charAt", desc := "(I)C" } : Jvm.MethodName) jdk_42_method_56_code (2 : Nat) (Option.some Jvm.ClassFile.FieldType.char), Jvm.Cond.code ({ cls := "java/lang/String", name := "isLatin1", desc := "()Z" } : Jvm.MethodName) jdk_42_method_154_code (1 : Nat) (Option.some Jvm.ClassFile.FieldType.boolean), Jvm.Cond.code ({ cls := "java/lang/StringLatin1", name := "charAt", desc := "([BI)C" } : Jvm.MethodName) jdk_43_method_2_code (2 : Nat) (Option.some Jvm.ClassFile.FieldType.char), Jvm.Cond.code ({ cls := "java/lang/String", name := "checkIndex", desc := "(II)V" } : Jvm.MethodName) jdk_42_method_155_code (2 : Nat) (Option.none : Option Jvm.ClassFile.FieldType), Jvm.Cond.code ({ cls := "jdk/internal/util/Preconditions", name := "checkIndex", desc := "(IILjava/util/function/BiFunction;)I" } : Jvm.MethodName) jdk_41_method_11_code (3 : Nat) (Option.some Jvm.ClassFile.FieldType.int), Jvm.Cond.code ({ cls := "com/example/avain/avain/model/TypeFromKeywordPinLaw", name := "build", desc := "(Ljava/lang/String;IIC)Ljava/lang/String;" } : Jvm.MethodName) method_3_code (8 : Nat) (Option.some (Jvm.ClassFile.FieldType.object "java/lang/String")), Jvm.Cond.code ({ cls := "java/lang/Math", name := "min", desc := "(II)I" } : Jvm.MethodName) jdk_29_method_69_code (2 : Nat) (Option.some Jvm.ClassFile.FieldType.int), Jvm.Cond.code ({ cls := "com/example/avain/avain/model/TypeFromKeywordPinLaw", name := "copy", desc := "([CLjava/lang/String;II)V" } : Jvm.MethodName) method_4_code (4 : Nat) (Option.none : Option Jvm.ClassFile.FieldType), Jvm.Cond.code ({ cls := "java/lang/String", name := "<init>", desc := "([C)V" } : Jvm.MethodName) jdk_42_method_3_code (2 : Nat) (Option.none : Option Jvm.ClassFile.FieldType), Jvm.Cond.code ({ cls := "java/lang/String", name := "<init>", desc := "([CIILjava/lang/Void;)V" } : Jvm.MethodName) jdk_42_method_149_code (6 : Nat) (Option.none : Option Jvm.ClassFile.FieldType), Jvm.Cond.code ({ cls := "java/lang/Object", name := "<init>", desc := "()V" } : Jvm.MethodName) object_method_1_code (1 : Nat) (Option.none : Option Jvm.ClassFile.FieldType), Jvm.Cond.code ({ cls := "java/lang/StringUTF16", name := "compress", desc := "([CII)[B" } : Jvm.MethodName) jdk_52_method_16_code (6 : Nat) (Option.some (Jvm.ClassFile.FieldType.array Jvm.ClassFile.FieldType.byte)), Jvm.Cond.code ({ cls := "java/lang/StringUTF16", name := "compress", desc := "([CI[BII)I" } : Jvm.MethodName) jdk_52_method_21_code (7 : Nat) (Option.some Jvm.ClassFile.FieldType.int), Jvm.Cond.code ({ cls := "java/lang/StringUTF16", name := "coderFromArrayLen", desc := "([BI)B" } : Jvm.MethodName) jdk_52_method_15_code (2 : Nat) (Option.some Jvm.ClassFile.FieldType.byte), Jvm.Cond.code ({ cls := "com/example/avain/avain/model/Type", name := "fromKeyword", desc := "(Ljava/lang/String;)Lcom/example/avain/avain/model/Type;" } : Jvm.MethodName) prog_59_method_5_code (5 : Nat) (Option.some (Jvm.ClassFile.FieldType.object "com/example/avain/avain/model/Type")), Jvm.Cond.code ({ cls := "com/example/avain/avain/model/Type", name := "values", desc := "()[Lcom/example/avain/avain/model/Type;" } : Jvm.MethodName) prog_59_method_1_code (0 : Nat) (Option.some (Jvm.ClassFile.FieldType.array (Jvm.ClassFile.FieldType.object "com/example/avain/avain/model/Type"))), Jvm.Cond.code ({ cls := "java/lang/String", name := "equals", desc := "(Ljava/lang/Object;)Z" } : Jvm.MethodName) jdk_42_method_66_code (3 : Nat) (Option.some Jvm.ClassFile.FieldType.boolean), Jvm.Cond.code ({ cls := "java/lang/StringLatin1", name := "equals", desc := "([B[B)Z" } : Jvm.MethodName) jdk_43_method_13_code (3 : Nat) (Option.some Jvm.ClassFile.FieldType.boolean), Jvm.Cond.code ({ cls := "java/lang/String", name := "valueOf", desc := "(C)Ljava/lang/String;" } : Jvm.MethodName) jdk_42_method_139_code (1 : Nat) (Option.some (Jvm.ClassFile.FieldType.object "java/lang/String")), Jvm.Cond.code ({ cls := "java/lang/StringLatin1", name := "canEncode", desc := "(C)Z" } : Jvm.MethodName) jdk_43_method_3_code (1 : Nat) (Option.some Jvm.ClassFile.FieldType.boolean), Jvm.Cond.code ({ cls := "java/lang/StringLatin1", name := "toBytes", desc := "(C)[B" } : Jvm.MethodName) jdk_43_method_46_code (1 : Nat) (Option.some (Jvm.ClassFile.FieldType.array Jvm.ClassFile.FieldType.byte)), Jvm.Cond.code ({ cls := "java/lang/String", name := "<init>", desc := "([BB)V" } : Jvm.MethodName) jdk_42_method_151_code (3 : Nat) (Option.none : Option Jvm.ClassFile.FieldType), Jvm.Cond.code ({ cls := "java/lang/StringUTF16", name := "toBytes", desc := "([CII)[B" } : Jvm.MethodName) jdk_52_method_14_code (5 : Nat) (Option.some (Jvm.ClassFile.FieldType.array Jvm.ClassFile.FieldType.byte)), Jvm.Cond.code ({ cls := "java/lang/StringUTF16", name := "newBytesFor", desc := "(I)[B" } : Jvm.MethodName) jdk_52_method_2_code (1 : Nat) (Option.some (Jvm.ClassFile.FieldType.array Jvm.ClassFile.FieldType.byte)), Jvm.Cond.code ({ cls := "java/lang/StringUTF16", name := "newBytesLength", desc := "(I)I" } : Jvm.MethodName) jdk_52_method_3_code (1 : Nat) (Option.some Jvm.ClassFile.FieldType.int), Jvm.Cond.code ({ cls := "java/lang/StringUTF16", name := "putChar", desc := "([BII)V" } : Jvm.MethodName) jdk_52_method_4_code (3 : Nat) (Option.none : Option Jvm.ClassFile.FieldType), Jvm.Cond.code ({ cls := "java/lang/StringUTF16", name := "getChar", desc := "([BI)C" } : Jvm.MethodName) jdk_52_method_5_code (2 : Nat) (Option.some Jvm.ClassFile.FieldType.char), Jvm.Cond.code ({ cls := "java/lang/StringUTF16", name := "toBytes", desc := "(C)[B" } : Jvm.MethodName) jdk_52_method_24_code (2 : Nat) (Option.some (Jvm.ClassFile.FieldType.array Jvm.ClassFile.FieldType.byte))]
set_option maxRecDepth 65536 in
theorem codes_eq : words1.filter isCode = codes1 := rfl
theorem w_codes : ∀ c ∈ words1.filter isCode, c.before args0 about1 = true := by
  rw [codes_eq]
  intro c hc
  simp only [codes1, List.mem_cons, List.not_mem_nil, or_false] at hc
  rcases hc with rfl | rfl | rfl | rfl | rfl | rfl | rfl | rfl | rfl | rfl | rfl | rfl | rfl | rfl | rfl | rfl | rfl | rfl | rfl | rfl | rfl | rfl | rfl | rfl | rfl | rfl | rfl | rfl | rfl | rfl | rfl
  · exact w_c0
  · exact w_c1
  · exact w_c2
  · exact w_c3
  · exact w_c4
  · exact w_c5
  · exact w_c6
  · exact w_c7
  · exact w_c8
  · exact w_c9
  · exact w_c10
  · exact w_c11
  · exact w_c12
  · exact w_c13
  · exact w_c14
  · exact w_c15
  · exact w_c16
  · exact w_c17
  · exact w_c18
  · exact w_c19
  · exact w_c20
  · exact w_c21
  · exact w_c22
  · exact w_c23
  · exact w_c24
  · exact w_c25
  · exact w_c26
  · exact w_c27
  · exact w_c28
  · exact w_c29
  · exact w_c30
set_option maxRecDepth 65536 in
theorem w_t1 : (words1.take 24).all (fun c => isCode c || c.before args0 about1) = true := by decide +kernel
set_option maxRecDepth 65536 in
theorem w_t2 : ((words1.drop 24).take 24).all (fun c => isCode c || c.before args0 about1) = true := by decide +kernel
set_option maxRecDepth 65536 in
theorem w_t3 : (((words1.drop 24).drop 24).take 24).all (fun c => isCode c || c.before args0 about1) = true := by decide +kernel
set_option maxRecDepth 65536 in
theorem w_t4 : ((((words1.drop 24).drop 24).drop 24).take 24).all (fun c => isCode c || c.before args0 about1) = true := by decide +kernel
set_option maxRecDepth 65536 in
theorem w_t5 : (((((words1.drop 24).drop 24).drop 24).drop 24).take 24).all (fun c => isCode c || c.before args0 about1) = true := by decide +kernel
set_option maxRecDepth 65536 in
theorem w_t6 : ((((((words1.drop 24).drop 24).drop 24).drop 24).drop 24).take 24).all (fun c => isCode c || c.before args0 about1) = true := by decide +kernel
set_option maxRecDepth 65536 in
theorem w_t7 : ((((((words1.drop 24).drop 24).drop 24).drop 24).drop 24).drop 24).all (fun c => isCode c || c.before args0 about1) = true := by decide +kernel
theorem w_tables : (allAtoms (Jvm.Cond.code x code maxLocals ret :: tables_1)).before args0 about1 = true := by
  rw [allAtoms_all]
  show words1.all (fun c => c.before args0 about1) = true
  refine all_split ?_ w_codes
  rw [← List.take_append_drop 24 words1, List.all_append, w_t1, ← List.take_append_drop 24 (words1.drop 24), List.all_append, w_t2, ← List.take_append_drop 24 ((words1.drop 24).drop 24), List.all_append, w_t3, ← List.take_append_drop 24 (((words1.drop 24).drop 24).drop 24), List.all_append, w_t4, ← List.take_append_drop 24 ((((words1.drop 24).drop 24).drop 24).drop 24), List.all_append, w_t5, ← List.take_append_drop 24 (((((words1.drop 24).drop 24).drop 24).drop 24).drop 24), List.all_append, w_t6, w_t7]
  rfl
set_option maxRecDepth 65536 in
theorem w_rest : rest_1_c.before args0 about1 = true := by decide +kernel
set_option maxRecDepth 65536 in
theorem w_case : (Jvm.Cond.and given_1 narrow_1).before args0 about1 = true := by decide +kernel
set_option maxRecDepth 65536 in
theorem w_consts : constsHeld consts_1 about1 := Jvm.Lit.constsHeldB_iff.mp (by decide +kernel)
theorem w_applies : (headSpec (Jvm.Cond.code x code maxLocals ret :: tables_1) room_1).applies x e0.platform about1 = true :=
  (Spec.applies_iff w_frames).mpr ⟨w_running, w_runnable, w_alone, w_named, w_hears, w_ripe, w_room, w_tables⟩
theorem atStart : AtStart classFile x code maxLocals ret World_1 tables_1 room_1 Calls_1 rest_1 Pre_1 launch0 p0 e0 about1 theMethod args0 below0 :=
  ⟨lists_1, trivial, launch0.admits_env _ _ _, launch0.least_env, fairChoices_fair.cas, fairChoices_fair.clock, w_frames, w_args, w_heap, w_applies, ⟨w_consts, trivial⟩, w_rest, w_case⟩
end start1
theorem witness_1 : WitnessClaimed_1 := ⟨start1.p0, start1.e0, start1.about1, start1.theMethod, start1.args0, start1.below0, start1.atStart⟩
end Jvm.Pilot.@@N@@
