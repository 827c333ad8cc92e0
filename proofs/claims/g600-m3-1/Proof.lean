import JvmDerived
import JvmDerived.Pilot.@@N@@Statement
import JvmDerived.Pilot.@@N@@Code
set_option linter.unusedVariables false
set_option linter.unusedSimpArgs false
namespace Jvm.Pilot.@@N@@
namespace GK
open Jvm Jvm.ClassFile Sem Op Lib Jvm.Free Jvm.Stand Jvm.LawKit Jvm.RoadKit Bundle
/-! A small program logic over the library's walks: 'Go' says that from a frame at pc the body runs to its return, and what holds there. -/
abbrev Md := Option (List (String × Nat))
def Bk0 (md : Md) (Z s : State) (sf : List Addr) (vm0 : Vm) (h : Heap) : Prop :=
  match md with
  | none => vm0 = s.vm
  | some EL => (∃ k, s.Since vm0 k ∧ k ≤ h.size) ∧ (∃ a0, EW Z a0 EL) ∧ CHr Z EL s.vm s.heap vm0 h ∧ ∀ x ∈ sf, x < h.size ∧ Safe Z EL vm0 h x
/-- what is kept along a walk: the start's cells stand; the tables' book -/
def Bok (md : Md) (Z : State) (n0 : Nat) (s : State) (sf : List Addr) (vm0 : Vm) (h : Heap) : Prop := Old Z n0 h ∧ Bk0 md Z s sf vm0 h
def SafeAll (md : Md) (Z : State) (sf : List Addr) (vm : Vm) (h : Heap) : Prop :=
  match md with
  | none => True
  | some EL => ∀ x ∈ sf, x < h.size ∧ Safe Z EL vm h x
def FinE (md : Md) (Z s : State) (o : Outcome) (t : State) (L : List Loc) (k n : Nat) : Prop :=
  match md with
  | none => FrameEnd s o t L k n
  | some EL => CHr Z EL s.vm s.heap t.vm t.heap ∧ ReturnedEndW s o t L k n
section B
variable {md : Md} {EL : List (String × Nat)} {Z s : State} {n0 : Nat} {sf sf' ws : List Addr} {vm0 vm1 : Vm} {h h' h2 : Heap} {x a : Addr} {sl : Nat} {v : Value}
theorem extR (h : Heap) : Ext h h := ⟨Nat.le_refl _, fun _ _ q => q⟩
theorem extT (E : Ext h h') (E' : Ext h' h2) : Ext h h2 := ⟨Nat.le_trans E.1 E'.1, fun a c q => E'.2 a c (E.2 a c q)⟩
/-- a write beyond h -/
theorem extW (E : Ext h h') (W : Wr h' h2 a sl v) (q : h.size ≤ a) : Ext h h2 := by
  obtain ⟨c, -, -, -, rfl⟩ := W
  refine ⟨by simpa using E.1, fun b cb hb => ?_⟩
  have hlt := (Array.getElem?_eq_some_iff.mp hb).1
  rw [Array.getElem?_setIfInBounds_ne (by omega)]
  exact E.2 b cb hb
theorem extK (E : Ext h h') (K : Keep h' h2 ws) (q : ∀ x ∈ ws, h.size ≤ x) : Ext h h2 :=
  ⟨Nat.le_trans E.1 K.1, fun b cb hb => K.2.1 b cb (E.2 b cb hb) fun z => by
    have hlt := (Array.getElem?_eq_some_iff.mp hb).1
    have := q b z; omega⟩
theorem keepE (E : Ext h h') (ws : List Addr) : Keep h h' ws := (Keep.refl h ws).ext E
theorem Bok.n0le (B : Bok md Z n0 s sf vm0 h) : n0 ≤ h.size := B.1.1 ▸ B.1.2.1
theorem Bok.sub (B : Bok md Z n0 s sf vm0 h) (q : ∀ x ∈ sf', x ∈ sf) : Bok md Z n0 s sf' vm0 h := by
  cases md with
  | none => exact B
  | some EL => exact ⟨B.1, B.2.1, B.2.2.1, B.2.2.2.1, fun x hx => B.2.2.2.2 x (q x hx)⟩
theorem Bok.keep (B : Bok md Z n0 s sf vm0 h) (K : Keep h h' ws) (q : ∀ x ∈ ws, x ∈ sf) (q0 : ∀ x ∈ ws, n0 ≤ x) : Bok md Z n0 s sf vm0 h' := by
  refine ⟨B.1.keep K q0, ?_⟩
  cases md with
  | none => exact B.2
  | some EL =>
    obtain ⟨-, ⟨k, h1, h2⟩, h3, h4, h5⟩ := B
    have C := CHr.keep K (fun x hx => (h5 x (q x hx)).2) h4.1
    exact ⟨⟨k, h1, Nat.le_trans h2 K.1⟩, h3, h4.trans C, fun x hx => ⟨Nat.lt_of_lt_of_le (h5 x hx).1 K.1, C.safe (h5 x hx).1 (h5 x hx).2⟩⟩
theorem Bok.wr (B : Bok md Z n0 s sf vm0 h) (W : Wr h h' a sl v) (q : a ∈ sf) (q0 : n0 ≤ a) : Bok md Z n0 s sf vm0 h' :=
  B.keep (Keep.of_wr W) (fun x hx => by cases List.mem_singleton.mp hx; exact q) (fun x hx => by cases List.mem_singleton.mp hx; exact q0)
theorem Bok.ext (B : Bok md Z n0 s sf vm0 h) (E : Ext h h') : Bok md Z n0 s sf vm0 h' :=
  B.keep (keepE E []) (fun x hx => nomatch hx) (fun x hx => nomatch hx)
theorem Bok.new (B : Bok md Z n0 s sf vm0 h) (E : Ext h h') (q : x < h'.size) (r : h.size ≤ x) : Bok md Z n0 s (x :: sf) vm0 h' := by
  have B' := B.ext E
  cases md with
  | none => exact B'
  | some EL =>
    refine ⟨B'.1, B'.2.1, B'.2.2.1, B'.2.2.2.1, fun y hy => ?_⟩
    rcases List.mem_cons.mp hy with rfl | hy
    · exact ⟨q, fun b => Safe.new r ((B.2.2.2.1.1.step fun _ _ _ q => E.2 _ _ q).2 _ b)⟩
    · exact B'.2.2.2.2 y hy
end B
/-- Java's x >>> y -/
def ushr (x y : Int32) : Int32 := (x.toUInt32 >>> (y &&& 31).toUInt32).toInt32
def ushrL (x : Int64) (y : Int32) : Int64 := (x.toUInt64 >>> (y &&& 0x3f).toInt64.toUInt64).toInt64
/-- (char) x -/
def chr (x : Int32) : Int32 := x.toUInt32.toUInt16.toUInt32.toInt32
def Go (md : Md) (l : Launch) (Z : State) (n0 : Nat) (R : Room) (bytes : ByteArray) (ml : Nat) (ret : Option FieldType) (own mn : String) (Ψ : Option Value → Heap → List Addr → Prop)
    (cells slots : Nat) (sf : List Addr) (h : Heap) (pc : Nat) (L : Array Slot) (S : List Value) : Prop :=
  ∀ (p : Program) (e : Env) (s : State) (m : MethodId) (args : Array Value) (below : List Frame) (meth : Method) (c : Code) (vm0 : Vm) (T : State) (locs : List Loc),
    p.tables.exec = Jvm.exec → c.code = bytes → c.maxLocals = ml → meth.sig.returnType = ret → meth.locks = false → meth.name = mn → Z.vm.findClass own = some m.cls →
    Stand p l e R (s.setVm vm0) m args below meth c T locs cells slots → T.heap = h → Z.Warmed39 vm0 → Bok md Z n0 s sf vm0 h → Fr n0 locs →
    ∃ (s₂ : State) (o : Outcome), Steps p.tables e below (T.setTop (mkF m pc L S)) s₂ ∧ s₂.status = .running ∧ Ended s₂ below o ∧
      ∃ (v : Option Value) (L' : List Loc) (sf' : List Addr), o = .returned v ∧ Ψ v s₂.heap sf' ∧ Old Z n0 s₂.heap ∧ Fr n0 L' ∧ SafeAll md Z sf' s₂.vm s₂.heap ∧ FinE md Z s o s₂ L' R.cells R.slots
section G
variable {md : Md} {EL : List (String × Nat)} {l : Launch} {Z : State} {n0 : Nat} {R : Room} {bytes : ByteArray} {ml : Nat} {ret : Option FieldType} {own mn : String} {Ψ : Option Value → Heap → List Addr → Prop}
  {cells slots : Nat} {sf : List Addr} {h h' : Heap} {pc : Nat} {L : Array Slot} {S : List Value} {a0 : Array Value}
theorem Go.more {cells' slots' : Nat} {sf' : List Addr} (G : Go md l Z n0 R bytes ml ret own mn Ψ cells' slots' sf' h pc L S) (hc : cells ≤ cells') (hs : slots ≤ slots') (q : ∀ x ∈ sf', x ∈ sf) : Go md l Z n0 R bytes ml ret own mn Ψ cells slots sf h pc L S := by
  intro p e s m args below meth c vm0 T locs hx hby hml hr hlk hn ho X eT hZ B N
  exact G p e s m args below meth c vm0 T locs hx hby hml hr hlk hn ho (X.more hc hs) eT hZ (B.sub q) N
theorem Go.old (G : Old Z n0 h → n0 ≤ h.size → Go md l Z n0 R bytes ml ret own mn Ψ cells slots sf h pc L S) : Go md l Z n0 R bytes ml ret own mn Ψ cells slots sf h pc L S := by
  intro p e s m args below meth c vm0 T locs hx hby hml hr hlk hn ho X eT hZ B N
  exact G B.1 B.n0le p e s m args below meth c vm0 T locs hx hby hml hr hlk hn ho X eT hZ B N
theorem Go.pure {L' : Array Slot} {S' : List Value} (pc' : Nat) (k : ∀ (p : Program) (e : Env) (below : List Frame) (T target : State) (m : MethodId) (c : Code), At T m c below → p.tables.exec = Jvm.exec → c.code = bytes → Steps p.tables e below (T.setTop (mkF m pc' L' S')) target → Steps p.tables e below (T.setTop (mkF m pc L S)) target)
    (G : Go md l Z n0 R bytes ml ret own mn Ψ cells slots sf h pc' L' S') : Go md l Z n0 R bytes ml ret own mn Ψ cells slots sf h pc L S := by
  intro p e s m args below meth c vm0 T locs hx hby hml hr hlk hn ho X eT hZ B N
  obtain ⟨s₂, o, h1, r⟩ := G p e s m args below meth c vm0 T locs hx hby hml hr hlk hn ho X eT hZ B N
  exact ⟨s₂, o, k _ _ _ _ _ _ _ X.here hx hby h1, r⟩
/-- a step that may warm the tables and leaves the heap as it was -/
theorem Go.warm {L' : Array Slot} {S' : List Value} (pc' : Nat) (k : ∀ (p : Program) (e : Env) (s : State) (m : MethodId) (args : Array Value) (below : List Frame) (meth : Method) (c : Code) (T : State) (locs : List Loc), p.tables.exec = Jvm.exec → c.code = bytes → c.maxLocals = ml → Z.Warmed39 s.vm → s.vm.findClass own = some m.cls →
      Stand p l e R s m args below meth c T locs cells slots → T.heap = h → ∃ T', Stand p l e R s m args below meth c T' locs cells slots ∧ T'.heap = h ∧ ∀ target, Steps p.tables e below (T'.setTop (mkF m pc' L' S')) target → Steps p.tables e below (T.setTop (mkF m pc L S)) target)
    (G : Go md l Z n0 R bytes ml ret own mn Ψ cells slots sf h pc' L' S') : Go md l Z n0 R bytes ml ret own mn Ψ cells slots sf h pc L S := by
  intro p e s m args below meth c vm0 T locs hx hby hml hr hlk hn ho X eT hZ B N
  obtain ⟨T', X', e', st⟩ := k p e (s.setVm vm0) m args below meth c T locs hx hby hml hZ (by rw [show (s.setVm vm0).vm = vm0 from rfl, hZ.alike.findClass]; exact ho) X eT
  obtain ⟨s₂, o, h1, r⟩ := G p e s m args below meth c vm0 T' locs hx hby hml hr hlk hn ho X' e' hZ B N
  exact ⟨s₂, o, st _ h1, r⟩
/-- a write at a place of the object a -/
theorem Go.write {L' : Array Slot} {S' : List Value} {a : Addr} {sl : Nat} {v : Value} (pc' : Nat) (ha : a ∈ sf) (hn0 : n0 ≤ a) (k : ∀ (p : Program) (e : Env) (s : State) (m : MethodId) (args : Array Value) (below : List Frame) (meth : Method) (c : Code) (T : State) (locs : List Loc), p.tables.exec = Jvm.exec → c.code = bytes → c.maxLocals = ml → meth.name = mn → Z.Warmed39 s.vm → s.vm.findClass own = some m.cls →
      Stand p l e R s m args below meth c T locs cells slots → T.heap = h → ∃ T' h', Stand p l e R s m args below meth c T' (locs ++ [⟨a, sl⟩]) cells slots ∧ T'.heap = h' ∧ Wr h h' a sl v ∧ ∀ target, Steps p.tables e below (T'.setTop (mkF m pc' L' S')) target → Steps p.tables e below (T.setTop (mkF m pc L S)) target)
    (G : ∀ h', Wr h h' a sl v → Go md l Z n0 R bytes ml ret own mn Ψ cells slots sf h' pc' L' S') : Go md l Z n0 R bytes ml ret own mn Ψ cells slots sf h pc L S := by
  intro p e s m args below meth c vm0 T locs hx hby hml hr hlk hn ho X eT hZ B N
  obtain ⟨T', h', X', e', W, st⟩ := k p e (s.setVm vm0) m args below meth c T locs hx hby hml hn hZ (by rw [show (s.setVm vm0).vm = vm0 from rfl, hZ.alike.findClass]; exact ho) X eT
  obtain ⟨s₂, o, h1, r⟩ := G h' W p e s m args below meth c vm0 T' _ hx hby hml hr hlk hn ho X' e' hZ (B.wr W ha hn0) (Fr.snoc X' N hn0)
  exact ⟨s₂, o, st _ h1, r⟩
/-! the ends -/
theorem fin_ret {p : Program} {e : Env} {s : State} {m : MethodId} {args : Array Value} {below : List Frame} {meth : Method} {c : Code} {vm0 : Vm} {T : State} {locs : List Loc} {sf' : List Addr} {g : JFrame}
    (X : Stand p l e R (s.setVm vm0) m args below meth c T locs cells slots) (eT : T.heap = h) (hZ : Z.Warmed39 vm0) (B : Bok md Z n0 s sf vm0 h) (N : Fr n0 locs) {v : Option Value} (hv : meth.sig.returnType = none → v = none) (hlk : meth.locks = false) (hc : cells ≤ R.cells) (hs : slots ≤ R.slots)
    (Q : Ψ v h sf') (hsub : ∀ x ∈ sf', x ∈ sf)
    (st : ∀ fs, (∀ (f : JFrame) (acts : List Action), f.method = m → f.locked = none → f.entered = [] → (doReturn e (T.setTop f) acts v).1 = T.setFrames fs) → Steps p.tables e below (T.setTop g) (T.setFrames fs)) :
    ∃ (s₂ : State) (o : Outcome), Steps p.tables e below (T.setTop g) s₂ ∧ s₂.status = .running ∧ Ended s₂ below o ∧
      ∃ (v : Option Value) (L' : List Loc) (sf' : List Addr), o = .returned v ∧ Ψ v s₂.heap sf' ∧ Old Z n0 s₂.heap ∧ Fr n0 L' ∧ SafeAll md Z sf' s₂.vm s₂.heap ∧ FinE md Z s o s₂ L' R.cells R.slots := by
  have eh : ∀ fs, (T.setFrames fs).heap = h := fun fs => eT
  cases md with
  | none =>
    obtain rfl : vm0 = s.vm := B.2
    obtain ⟨fs, hr, hrun, hended, hW, hsame⟩ := X.leave hv hlk
    exact ⟨_, _, st fs hr, hrun, hended, v, locs, sf', rfl, by rw [eh]; exact Q, by rw [eh]; exact B.1, N, trivial, ⟨_, rfl⟩, hW, hsame.mono hc hs⟩
  | some EL =>
    obtain ⟨h0, ⟨k, h1, h2⟩, ⟨a0, h3⟩, h4, h5⟩ := B
    obtain ⟨fs, hr, hrun, hended, hW⟩ := X.leaveW h1 (by rw [eT]; exact h2) hv hlk
    have C : CHr Z EL vm0 h T.vm h := CHv.at X hZ h3 h4.1
    refine ⟨_, _, st fs hr, hrun, hended, v, locs, sf', rfl, by rw [eh]; exact Q, by rw [eh]; exact h0, N, fun x hx => ?_, ?_, hW.1, hW.2.1, hW.2.2.1, hW.2.2.2.mono hc hs⟩
    · rw [eh]; exact ⟨(h5 x (hsub x hx)).1, C.safe (h5 x (hsub x hx)).1 (h5 x (hsub x hx)).2⟩
    · rw [eh]; exact h4.trans C
theorem Go.ret0 (hd : decode bytes pc = .ok (.return_, 1)) (hret : ret = none) {sf' : List Addr} (Q : Ψ none h sf') (hsub : ∀ x ∈ sf', x ∈ sf) (hc : cells ≤ R.cells) (hs : slots ≤ R.slots) : Go md l Z n0 R bytes ml ret own mn Ψ cells slots sf h pc L [] := by
  intro p e s m args below meth c vm0 T locs hx hby hml hr hlk hn ho X eT hZ B N
  exact fin_ret X eT hZ B N (fun _ => rfl) hlk hc hs Q hsub fun fs hl => X.returnOut hx (hr.trans hret) (hb hby hd) hl
theorem Go.retW {t : FieldType} {w : Value} {i : Instr} (hd : decode bytes pc = .ok (i, 1)) (hret : ret = some t) (hn' : narrow t w = w)
    (hi : (i = .ireturn ∧ (t = .int ∨ t = .boolean ∨ t = .byte ∨ t = .char ∨ t = .short) ∧ ∃ z, w = .int z) ∨ (i = .lreturn ∧ t = .long ∧ ∃ z, w = .long z) ∨ (i = .dreturn ∧ t = .double ∧ ∃ z, w = .double z) ∨ (i = .freturn ∧ t = .float ∧ ∃ z, w = .float z) ∨ (i = .areturn ∧ t.isReference = true ∧ w.isRef = true))
    {sf' : List Addr} (Q : Ψ (some w) h sf') (hsub : ∀ x ∈ sf', x ∈ sf) (hc : cells ≤ R.cells) (hs : slots ≤ R.slots) : Go md l Z n0 R bytes ml ret own mn Ψ cells slots sf h pc L (w :: S) := by
  intro p e s m args below meth c vm0 T locs hx hby hml hr hlk hn ho X eT hZ B N
  exact fin_ret X eT hZ B N (fun q => by rw [hr, hret] at q; cases q) hlk hc hs Q hsub fun fs hl => retOut X hx (hr.trans hret) hn' hi (hb hby hd) hl
theorem Go.retI {z : Int32} (hd : decode bytes pc = .ok (.ireturn, 1)) (hret : ret = some .int) {sf' : List Addr} (Q : Ψ (some (.int z)) h sf') (hsub : ∀ x ∈ sf', x ∈ sf) (hc : cells ≤ R.cells) (hs : slots ≤ R.slots) : Go md l Z n0 R bytes ml ret own mn Ψ cells slots sf h pc L (.int z :: S) :=
  Go.retW hd hret rfl (Or.inl ⟨rfl, Or.inl rfl, _, rfl⟩) Q hsub hc hs
theorem Go.retJ {z : Int64} (hd : decode bytes pc = .ok (.lreturn, 1)) (hret : ret = some .long) {sf' : List Addr} (Q : Ψ (some (.long z)) h sf') (hsub : ∀ x ∈ sf', x ∈ sf) (hc : cells ≤ R.cells) (hs : slots ≤ R.slots) : Go md l Z n0 R bytes ml ret own mn Ψ cells slots sf h pc L (.long z :: S) :=
  Go.retW hd hret rfl (Or.inr (Or.inl ⟨rfl, rfl, _, rfl⟩)) Q hsub hc hs
theorem Go.retA {t : FieldType} {w : Value} (hd : decode bytes pc = .ok (.areturn, 1)) (hret : ret = some t) (ht : t.isReference = true) (hw : w.isRef = true) {sf' : List Addr} (Q : Ψ (some w) h sf') (hsub : ∀ x ∈ sf', x ∈ sf) (hc : cells ≤ R.cells) (hs : slots ≤ R.slots) : Go md l Z n0 R bytes ml ret own mn Ψ cells slots sf h pc L (w :: S) :=
  Go.retW hd hret (by cases t <;> cases w <;> first | rfl | cases ht | cases hw) (Or.inr (Or.inr (Or.inr (Or.inr ⟨rfl, ht, hw⟩)))) Q hsub hc hs
theorem Go.retN {t : FieldType} {z : Int32} (v : Int32) (hd : decode bytes pc = .ok (.ireturn, 1)) (hret : ret = some t) (ht : t = .boolean ∨ t = .byte ∨ t = .char ∨ t = .short) (hv : nar t z = v) {sf' : List Addr} (Q : Ψ (some (.int v)) h sf') (hsub : ∀ x ∈ sf', x ∈ sf) (hc : cells ≤ R.cells) (hs : slots ≤ R.slots) :
    Go md l Z n0 R bytes ml ret own mn Ψ cells slots sf h pc L (.int z :: S) := by
  subst hv
  intro p e s m args below meth c vm0 T locs hx hby hml hr hlk hn ho X eT hZ B N
  exact fin_ret X eT hZ B N (fun q => by rw [hr, hret] at q; cases q) hlk hc hs Q hsub fun fs hl => Jvm.RoadKit.retN X hx (hr.trans hret) ht (hb hby hd) hl
/-! plain steps -/
theorem Go.aload {k : Nat} {v : Value} (pc' : Nat) (hd : decode bytes pc = .ok (.aload k, 2)) (hp : pc + 2 = pc') (hl : L[k]? = some (.val v)) (hv : v.isRef = true) (G : Go md l Z n0 R bytes ml ret own mn Ψ cells slots sf h pc' L (v :: S)) : Go md l Z n0 R bytes ml ret own mn Ψ cells slots sf h pc L S := by
  subst hp; exact Go.pure _ (fun p e below T target m c A hx hby k => XS.aload A hx rfl (hb hby hd) hl hv k) G
theorem Go.aloadN {k : Fin 4} {v : Value} (pc' : Nat) (hd : decode bytes pc = .ok (.aload_n k, 1)) (hp : pc + 1 = pc') (hl : L[k.val]? = some (.val v)) (hv : v.isRef = true) (G : Go md l Z n0 R bytes ml ret own mn Ψ cells slots sf h pc' L (v :: S)) : Go md l Z n0 R bytes ml ret own mn Ψ cells slots sf h pc L S := by
  subst hp; exact Go.pure _ (fun p e below T target m c A hx hby k => XS.aloadN A hx rfl (hb hby hd) hl hv k) G
theorem Go.iload {k : Nat} {v : Int32} (pc' : Nat) (hd : decode bytes pc = .ok (.iload k, 2)) (hp : pc + 2 = pc') (hl : L[k]? = some (.val (.int v))) (G : Go md l Z n0 R bytes ml ret own mn Ψ cells slots sf h pc' L (.int v :: S)) : Go md l Z n0 R bytes ml ret own mn Ψ cells slots sf h pc L S := by
  subst hp; exact Go.pure _ (fun p e below T target m c A hx hby k => XS.iload A hx rfl (hb hby hd) hl k) G
theorem Go.iloadN {k : Fin 4} {v : Int32} (pc' : Nat) (hd : decode bytes pc = .ok (.iload_n k, 1)) (hp : pc + 1 = pc') (hl : L[k.val]? = some (.val (.int v))) (G : Go md l Z n0 R bytes ml ret own mn Ψ cells slots sf h pc' L (.int v :: S)) : Go md l Z n0 R bytes ml ret own mn Ψ cells slots sf h pc L S := by
  subst hp; exact Go.pure _ (fun p e below T target m c A hx hby k => XS.iloadN A hx rfl (hb hby hd) hl k) G
theorem Go.lload {k : Nat} {v : Int64} (pc' : Nat) (hd : decode bytes pc = .ok (.lload k, 2)) (hp : pc + 2 = pc') (hl : L[k]? = some (.val (.long v))) (G : Go md l Z n0 R bytes ml ret own mn Ψ cells slots sf h pc' L (.long v :: S)) : Go md l Z n0 R bytes ml ret own mn Ψ cells slots sf h pc L S := by
  subst hp; exact Go.pure _ (fun p e below T target m c A hx hby k => XS.lload A hx rfl (hb hby hd) hl k) G
theorem Go.lloadN {k : Fin 4} {v : Int64} (pc' : Nat) (hd : decode bytes pc = .ok (.lload_n k, 1)) (hp : pc + 1 = pc') (hl : L[k.val]? = some (.val (.long v))) (G : Go md l Z n0 R bytes ml ret own mn Ψ cells slots sf h pc' L (.long v :: S)) : Go md l Z n0 R bytes ml ret own mn Ψ cells slots sf h pc L S := by
  subst hp; exact Go.pure _ (fun p e below T target m c A hx hby k => XS.lloadN A hx rfl (hb hby hd) hl k) G
theorem Go.astore {k : Nat} {v : Value} (pc' : Nat) (L' : Array Slot) (hd : decode bytes pc = .ok (.astore k, 2)) (hp : pc + 2 = pc') (hv : v.isRef = true) (hl : storeLocals L k v = some L') (G : Go md l Z n0 R bytes ml ret own mn Ψ cells slots sf h pc' L' S) : Go md l Z n0 R bytes ml ret own mn Ψ cells slots sf h pc L (v :: S) := by
  subst hp; exact Go.pure _ (fun p e below T target m c A hx hby k => XS.astore A hx rfl (hb hby hd) rfl hv hl k) G
theorem Go.astoreN {k : Fin 4} {v : Value} (pc' : Nat) (L' : Array Slot) (hd : decode bytes pc = .ok (.astore_n k, 1)) (hp : pc + 1 = pc') (hv : v.isRef = true) (hl : storeLocals L k.val v = some L') (G : Go md l Z n0 R bytes ml ret own mn Ψ cells slots sf h pc' L' S) : Go md l Z n0 R bytes ml ret own mn Ψ cells slots sf h pc L (v :: S) := by
  subst hp; exact Go.pure _ (fun p e below T target m c A hx hby k => XS.astoreN A hx rfl (hb hby hd) rfl hv hl k) G
theorem Go.istore {k : Nat} {x : Int32} (pc' : Nat) (L' : Array Slot) (hd : decode bytes pc = .ok (.istore k, 2)) (hp : pc + 2 = pc') (hl : storeLocals L k (.int x) = some L') (G : Go md l Z n0 R bytes ml ret own mn Ψ cells slots sf h pc' L' S) : Go md l Z n0 R bytes ml ret own mn Ψ cells slots sf h pc L (.int x :: S) := by
  subst hp; exact Go.pure _ (fun p e below T target m c A hx hby k => XS.istore A hx rfl (hb hby hd) rfl hl k) G
theorem Go.istoreN {k : Fin 4} {x : Int32} (pc' : Nat) (L' : Array Slot) (hd : decode bytes pc = .ok (.istore_n k, 1)) (hp : pc + 1 = pc') (hl : storeLocals L k.val (.int x) = some L') (G : Go md l Z n0 R bytes ml ret own mn Ψ cells slots sf h pc' L' S) : Go md l Z n0 R bytes ml ret own mn Ψ cells slots sf h pc L (.int x :: S) := by
  subst hp; exact Go.pure _ (fun p e below T target m c A hx hby k => XS.istoreN A hx rfl (hb hby hd) rfl hl k) G
theorem Go.lstore {k : Nat} {x : Int64} (pc' : Nat) (L' : Array Slot) (hd : decode bytes pc = .ok (.lstore k, 2)) (hp : pc + 2 = pc') (hl : storeLocals L k (.long x) = some L') (G : Go md l Z n0 R bytes ml ret own mn Ψ cells slots sf h pc' L' S) : Go md l Z n0 R bytes ml ret own mn Ψ cells slots sf h pc L (.long x :: S) := by
  subst hp; exact Go.pure _ (fun p e below T target m c A hx hby k => XS.lstore A hx rfl (hb hby hd) rfl hl k) G
theorem Go.lstoreN {k : Fin 4} {x : Int64} (pc' : Nat) (L' : Array Slot) (hd : decode bytes pc = .ok (.lstore_n k, 1)) (hp : pc + 1 = pc') (hl : storeLocals L k.val (.long x) = some L') (G : Go md l Z n0 R bytes ml ret own mn Ψ cells slots sf h pc' L' S) : Go md l Z n0 R bytes ml ret own mn Ψ cells slots sf h pc L (.long x :: S) := by
  subst hp; exact Go.pure _ (fun p e below T target m c A hx hby k => XS.lstoreN A hx rfl (hb hby hd) rfl hl k) G
theorem Go.iinc {k : Nat} {cst : Int} {x : Int32} (pc' : Nat) (L' : Array Slot) (v : Int32) (hd : decode bytes pc = .ok (.iinc k cst, 3)) (hp : pc + 3 = pc') (hl : L[k]? = some (.val (.int x))) (hv : Int32.ofInt cst = v) (hl' : storeLocals L k (.int (x + v)) = some L') (G : Go md l Z n0 R bytes ml ret own mn Ψ cells slots sf h pc' L' S) : Go md l Z n0 R bytes ml ret own mn Ψ cells slots sf h pc L S := by
  subst hp; subst hv; exact Go.pure _ (fun p e below T target m c A hx hby k => XS.iinc A hx rfl (hb hby hd) hl hl' k) G
theorem Go.iconst {i : Int} (pc' : Nat) (v : Int32) (hd : decode bytes pc = .ok (.iconst i, 1)) (hp : pc + 1 = pc') (hv : Int32.ofInt i = v) (G : Go md l Z n0 R bytes ml ret own mn Ψ cells slots sf h pc' L (.int v :: S)) : Go md l Z n0 R bytes ml ret own mn Ψ cells slots sf h pc L S := by
  subst hp; subst hv; exact Go.pure _ (fun p e below T target m c A hx hby k => XS.iconst A hx rfl (hb hby hd) k) G
theorem Go.bipush {i : Int} (pc' : Nat) (v : Int32) (hd : decode bytes pc = .ok (.bipush i, 2)) (hp : pc + 2 = pc') (hv : (Int8.ofInt i).toInt32 = v) (G : Go md l Z n0 R bytes ml ret own mn Ψ cells slots sf h pc' L (.int v :: S)) : Go md l Z n0 R bytes ml ret own mn Ψ cells slots sf h pc L S := by
  subst hp; subst hv; exact Go.pure _ (fun p e below T target m c A hx hby k => XS.bipush A hx rfl (hb hby hd) k) G
theorem Go.sipush {i : Int} (pc' : Nat) (v : Int32) (hd : decode bytes pc = .ok (.sipush i, 3)) (hp : pc + 3 = pc') (hv : (Int16.ofInt i).toInt32 = v) (G : Go md l Z n0 R bytes ml ret own mn Ψ cells slots sf h pc' L (.int v :: S)) : Go md l Z n0 R bytes ml ret own mn Ψ cells slots sf h pc L S := by
  subst hp; subst hv; exact Go.pure _ (fun p e below T target m c A hx hby k => XS.sipush A hx rfl (hb hby hd) k) G
theorem Go.lconst {i : Fin 2} (pc' : Nat) (v : Int64) (hd : decode bytes pc = .ok (.lconst i, 1)) (hp : pc + 1 = pc') (hv : Int64.ofNat i = v) (G : Go md l Z n0 R bytes ml ret own mn Ψ cells slots sf h pc' L (.long v :: S)) : Go md l Z n0 R bytes ml ret own mn Ψ cells slots sf h pc L S := by
  subst hp; subst hv; exact Go.pure _ (fun p e below T target m c A hx hby k => XS.lconst A hx rfl (hb hby hd) k) G
theorem Go.aconstNull (pc' : Nat) (hd : decode bytes pc = .ok (.aconst_null, 1)) (hp : pc + 1 = pc') (G : Go md l Z n0 R bytes ml ret own mn Ψ cells slots sf h pc' L (.null :: S)) : Go md l Z n0 R bytes ml ret own mn Ψ cells slots sf h pc L S := by
  subst hp; exact Go.pure _ (fun p e below T target m c A hx hby k => XS.aconstNull A hx rfl (hb hby hd) k) G
theorem Go.dup {v : Value} (pc' : Nat) (hd : decode bytes pc = .ok (.dup, 1)) (hp : pc + 1 = pc') (hv : v.category = 1) (G : Go md l Z n0 R bytes ml ret own mn Ψ cells slots sf h pc' L (v :: v :: S)) : Go md l Z n0 R bytes ml ret own mn Ψ cells slots sf h pc L (v :: S) := by
  subst hp; exact Go.pure _ (fun p e below T target m c A hx hby k => XS.dup A hx rfl (hb hby hd) rfl hv k) G
theorem Go.pop {v : Value} (pc' : Nat) (hd : decode bytes pc = .ok (.pop, 1)) (hp : pc + 1 = pc') (hv : v.category = 1) (G : Go md l Z n0 R bytes ml ret own mn Ψ cells slots sf h pc' L S) : Go md l Z n0 R bytes ml ret own mn Ψ cells slots sf h pc L (v :: S) := by
  subst hp; exact Go.pure _ (fun p e below T target m c A hx hby k => XS.pop A hx rfl (hb hby hd) rfl hv k) G
theorem Go.goto {o : Int} (pc' : Nat) (hd : decode bytes pc = .ok (.goto o, 3)) (ho' : 0 ≤ (pc : Int) + o) (hp : ((pc : Int) + o).toNat = pc') (G : Go md l Z n0 R bytes ml ret own mn Ψ cells slots sf h pc' L S) : Go md l Z n0 R bytes ml ret own mn Ψ cells slots sf h pc L S :=
  Go.pure pc' (fun p e below T target m c A hx hby k => XS.goto A hx rfl (pc0 := pc) (pc' := pc') rfl (hb hby hd) ho' hp k) G
theorem Go.ifY {cd : ClassFile.Cond} {x : Int32} {o : Int} (pc' : Nat) (hd : decode bytes pc = .ok (.ifCond cd o, 3)) (ho' : 0 ≤ (pc : Int) + o) (hp : ((pc : Int) + o).toNat = pc') (hc : if_icmp.holds cd x 0 = true) (G : Go md l Z n0 R bytes ml ret own mn Ψ cells slots sf h pc' L S) : Go md l Z n0 R bytes ml ret own mn Ψ cells slots sf h pc L (.int x :: S) :=
  Go.pure pc' (fun p e below T target m c A hx hby k => XS.ifYes A hx rfl (pc0 := pc) (pc' := pc') rfl (hb hby hd) rfl ((if0 _ _).trans hc) ho' hp k) G
theorem Go.ifN {cd : ClassFile.Cond} {x : Int32} {o : Int} (pc' : Nat) (hd : decode bytes pc = .ok (.ifCond cd o, 3)) (hp : pc + 3 = pc') (hc : if_icmp.holds cd x 0 = false) (G : Go md l Z n0 R bytes ml ret own mn Ψ cells slots sf h pc' L S) : Go md l Z n0 R bytes ml ret own mn Ψ cells slots sf h pc L (.int x :: S) := by
  subst hp; exact Go.pure _ (fun p e below T target m c A hx hby k => XS.ifNo A hx rfl (hb hby hd) rfl ((if0 _ _).trans hc) k) G
theorem Go.icmpY {cd : ClassFile.Cond} {x y : Int32} {o : Int} (pc' : Nat) (hd : decode bytes pc = .ok (.if_icmp cd o, 3)) (ho' : 0 ≤ (pc : Int) + o) (hp : ((pc : Int) + o).toNat = pc') (hc : if_icmp.holds cd x y = true) (G : Go md l Z n0 R bytes ml ret own mn Ψ cells slots sf h pc' L S) : Go md l Z n0 R bytes ml ret own mn Ψ cells slots sf h pc L (.int y :: .int x :: S) :=
  Go.pure pc' (fun p e below T target m c A hx hby k => XS.icmpYes A hx rfl (pc0 := pc) (pc' := pc') rfl (hb hby hd) rfl hc ho' hp k) G
theorem Go.icmpN {cd : ClassFile.Cond} {x y : Int32} {o : Int} (pc' : Nat) (hd : decode bytes pc = .ok (.if_icmp cd o, 3)) (hp : pc + 3 = pc') (hc : if_icmp.holds cd x y = false) (G : Go md l Z n0 R bytes ml ret own mn Ψ cells slots sf h pc' L S) : Go md l Z n0 R bytes ml ret own mn Ψ cells slots sf h pc L (.int y :: .int x :: S) := by
  subst hp; exact Go.pure _ (fun p e below T target m c A hx hby k => XS.icmpNo A hx rfl (hb hby hd) rfl hc k) G
theorem Go.acmpY {cd : ClassFile.ACond} {x y : Value} {o : Int} (pc' : Nat) (hd : decode bytes pc = .ok (.if_acmp cd o, 3)) (ho' : 0 ≤ (pc : Int) + o) (hp : ((pc : Int) + o).toNat = pc') (hx' : x.isRef = true) (hy' : y.isRef = true) (hc : acV cd (decide (x = y)) = true) (G : Go md l Z n0 R bytes ml ret own mn Ψ cells slots sf h pc' L S) : Go md l Z n0 R bytes ml ret own mn Ψ cells slots sf h pc L (y :: x :: S) :=
  Go.warm pc' (fun p e s m args below meth c T locs hx hby hml hZ hown X eT => ⟨T, X, eT, fun target k => Jvm.RoadKit.acmp (g := mkF m pc L (y :: x :: S)) X hx rfl hx' hy' (pc0 := pc) rfl (hb hby hd) rfl rfl ho' (by rw [if_pos hc]; exact hp.symm) k⟩) G
theorem Go.acmpN {cd : ClassFile.ACond} {x y : Value} {o : Int} (pc' : Nat) (hd : decode bytes pc = .ok (.if_acmp cd o, 3)) (ho' : 0 ≤ (pc : Int) + o) (hp : pc + 3 = pc') (hx' : x.isRef = true) (hy' : y.isRef = true) (hc : acV cd (decide (x = y)) = false) (G : Go md l Z n0 R bytes ml ret own mn Ψ cells slots sf h pc' L S) : Go md l Z n0 R bytes ml ret own mn Ψ cells slots sf h pc L (y :: x :: S) :=
  Go.warm pc' (fun p e s m args below meth c T locs hx hby hml hZ hown X eT => ⟨T, X, eT, fun target k => Jvm.RoadKit.acmp (g := mkF m pc L (y :: x :: S)) X hx rfl hx' hy' (pc0 := pc) rfl (hb hby hd) rfl rfl ho' (by rw [if_neg (by rw [hc]; exact Bool.false_ne_true)]; exact hp.symm) k⟩) G
theorem Go.nullY {o : Int} (pc' : Nat) (hd : decode bytes pc = .ok (.ifnull o, 3)) (ho' : 0 ≤ (pc : Int) + o) (hp : ((pc : Int) + o).toNat = pc') (G : Go md l Z n0 R bytes ml ret own mn Ψ cells slots sf h pc' L S) : Go md l Z n0 R bytes ml ret own mn Ψ cells slots sf h pc L (.null :: S) :=
  Go.pure pc' (fun p e below T target m c A hx hby k => XS.ifnullYes A hx rfl (pc0 := pc) (pc' := pc') rfl (hb hby hd) rfl ho' hp k) G
theorem Go.nullN {o : Int} {a : Addr} (pc' : Nat) (hd : decode bytes pc = .ok (.ifnull o, 3)) (hp : pc + 3 = pc') (G : Go md l Z n0 R bytes ml ret own mn Ψ cells slots sf h pc' L S) : Go md l Z n0 R bytes ml ret own mn Ψ cells slots sf h pc L (.ref a :: S) := by
  subst hp; exact Go.pure _ (fun p e below T target m c A hx hby k => XS.ifnullNo A hx rfl (hb hby hd) rfl k) G
theorem Go.nonnullY {o : Int} {a : Addr} (pc' : Nat) (hd : decode bytes pc = .ok (.ifnonnull o, 3)) (ho' : 0 ≤ (pc : Int) + o) (hp : ((pc : Int) + o).toNat = pc') (G : Go md l Z n0 R bytes ml ret own mn Ψ cells slots sf h pc' L S) : Go md l Z n0 R bytes ml ret own mn Ψ cells slots sf h pc L (.ref a :: S) :=
  Go.pure pc' (fun p e below T target m c A hx hby k => XS.ifnonnullYes A hx rfl (pc0 := pc) (pc' := pc') rfl (hb hby hd) rfl ho' hp k) G
theorem Go.nonnullN {o : Int} (pc' : Nat) (hd : decode bytes pc = .ok (.ifnonnull o, 3)) (hp : pc + 3 = pc') (G : Go md l Z n0 R bytes ml ret own mn Ψ cells slots sf h pc' L S) : Go md l Z n0 R bytes ml ret own mn Ψ cells slots sf h pc L (.null :: S) := by
  subst hp; exact Go.pure _ (fun p e below T target m c A hx hby k => XS.ifnonnullNo A hx rfl (hb hby hd) rfl k) G
theorem Go.iadd {x y : Int32} (pc' : Nat) (hd : decode bytes pc = .ok (.iadd, 1)) (hp : pc + 1 = pc') (G : Go md l Z n0 R bytes ml ret own mn Ψ cells slots sf h pc' L (.int (x + y) :: S)) : Go md l Z n0 R bytes ml ret own mn Ψ cells slots sf h pc L (.int y :: .int x :: S) := by
  subst hp; exact Go.pure _ (fun p e below T target m c A hx hby k => XS.iadd A hx rfl (hb hby hd) rfl k) G
theorem Go.isub {x y : Int32} (pc' : Nat) (hd : decode bytes pc = .ok (.isub, 1)) (hp : pc + 1 = pc') (G : Go md l Z n0 R bytes ml ret own mn Ψ cells slots sf h pc' L (.int (x - y) :: S)) : Go md l Z n0 R bytes ml ret own mn Ψ cells slots sf h pc L (.int y :: .int x :: S) := by
  subst hp; exact Go.pure _ (fun p e below T target m c A hx hby k => XS.isub A hx rfl (hb hby hd) rfl k) G
theorem Go.imul {x y : Int32} (pc' : Nat) (hd : decode bytes pc = .ok (.imul, 1)) (hp : pc + 1 = pc') (G : Go md l Z n0 R bytes ml ret own mn Ψ cells slots sf h pc' L (.int (x * y) :: S)) : Go md l Z n0 R bytes ml ret own mn Ψ cells slots sf h pc L (.int y :: .int x :: S) := by
  subst hp; exact Go.pure _ (fun p e below T target m c A hx hby k => XS.imul A hx rfl (hb hby hd) rfl k) G
theorem Go.iand {x y : Int32} (pc' : Nat) (hd : decode bytes pc = .ok (.iand, 1)) (hp : pc + 1 = pc') (G : Go md l Z n0 R bytes ml ret own mn Ψ cells slots sf h pc' L (.int (x &&& y) :: S)) : Go md l Z n0 R bytes ml ret own mn Ψ cells slots sf h pc L (.int y :: .int x :: S) := by
  subst hp; exact Go.pure _ (fun p e below T target m c A hx hby k => XS.iand A hx rfl (hb hby hd) rfl k) G
theorem Go.ior {x y : Int32} (pc' : Nat) (hd : decode bytes pc = .ok (.ior, 1)) (hp : pc + 1 = pc') (G : Go md l Z n0 R bytes ml ret own mn Ψ cells slots sf h pc' L (.int (x ||| y) :: S)) : Go md l Z n0 R bytes ml ret own mn Ψ cells slots sf h pc L (.int y :: .int x :: S) := by
  subst hp; exact Go.pure _ (fun p e below T target m c A hx hby k => XS.ior A hx rfl (hb hby hd) rfl k) G
theorem Go.ixor {x y : Int32} (pc' : Nat) (hd : decode bytes pc = .ok (.ixor, 1)) (hp : pc + 1 = pc') (G : Go md l Z n0 R bytes ml ret own mn Ψ cells slots sf h pc' L (.int (x ^^^ y) :: S)) : Go md l Z n0 R bytes ml ret own mn Ψ cells slots sf h pc L (.int y :: .int x :: S) := by
  subst hp; exact Go.pure _ (fun p e below T target m c A hx hby k => XS.ixor A hx rfl (hb hby hd) rfl k) G
theorem Go.ishl {x y : Int32} (pc' : Nat) (hd : decode bytes pc = .ok (.ishl, 1)) (hp : pc + 1 = pc') (G : Go md l Z n0 R bytes ml ret own mn Ψ cells slots sf h pc' L (.int (x <<< (y &&& 31)) :: S)) : Go md l Z n0 R bytes ml ret own mn Ψ cells slots sf h pc L (.int y :: .int x :: S) := by
  subst hp; exact Go.pure _ (fun p e below T target m c A hx hby k => XS.ishl A hx rfl (hb hby hd) rfl k) G
theorem Go.ishr {x y : Int32} (pc' : Nat) (hd : decode bytes pc = .ok (.ishr, 1)) (hp : pc + 1 = pc') (G : Go md l Z n0 R bytes ml ret own mn Ψ cells slots sf h pc' L (.int (x >>> (y &&& 31)) :: S)) : Go md l Z n0 R bytes ml ret own mn Ψ cells slots sf h pc L (.int y :: .int x :: S) := by
  subst hp; exact Go.pure _ (fun p e below T target m c A hx hby k => XS.ishr A hx rfl (hb hby hd) rfl k) G
theorem Go.iushr {x y : Int32} (pc' : Nat) (hd : decode bytes pc = .ok (.iushr, 1)) (hp : pc + 1 = pc') (G : Go md l Z n0 R bytes ml ret own mn Ψ cells slots sf h pc' L (.int (ushr x y) :: S)) : Go md l Z n0 R bytes ml ret own mn Ψ cells slots sf h pc L (.int y :: .int x :: S) := by
  subst hp; exact Go.pure _ (fun p e below T target m c A hx hby k => XS.iushr A hx rfl (hb hby hd) rfl k) G
theorem Go.idiv {x y : Int32} (pc' : Nat) (hd : decode bytes pc = .ok (.idiv, 1)) (hp : pc + 1 = pc') (hy : y ≠ 0) (G : Go md l Z n0 R bytes ml ret own mn Ψ cells slots sf h pc' L (.int (x / y) :: S)) : Go md l Z n0 R bytes ml ret own mn Ψ cells slots sf h pc L (.int y :: .int x :: S) := by
  subst hp; exact Go.pure _ (fun p e below T target m c A hx hby k => XS.idiv A hx rfl (hb hby hd) rfl hy k) G
theorem Go.ineg {x : Int32} (pc' : Nat) (hd : decode bytes pc = .ok (.ineg, 1)) (hp : pc + 1 = pc') (G : Go md l Z n0 R bytes ml ret own mn Ψ cells slots sf h pc' L (.int (-x) :: S)) : Go md l Z n0 R bytes ml ret own mn Ψ cells slots sf h pc L (.int x :: S) := by
  subst hp; exact Go.pure _ (fun p e below T target m c A hx hby k => XS.ineg A hx rfl (hb hby hd) rfl k) G
theorem Go.ladd {x y : Int64} (pc' : Nat) (hd : decode bytes pc = .ok (.ladd, 1)) (hp : pc + 1 = pc') (G : Go md l Z n0 R bytes ml ret own mn Ψ cells slots sf h pc' L (.long (x + y) :: S)) : Go md l Z n0 R bytes ml ret own mn Ψ cells slots sf h pc L (.long y :: .long x :: S) := by
  subst hp; exact Go.pure _ (fun p e below T target m c A hx hby k => XS.ladd A hx rfl (hb hby hd) rfl k) G
theorem Go.lsub {x y : Int64} (pc' : Nat) (hd : decode bytes pc = .ok (.lsub, 1)) (hp : pc + 1 = pc') (G : Go md l Z n0 R bytes ml ret own mn Ψ cells slots sf h pc' L (.long (x - y) :: S)) : Go md l Z n0 R bytes ml ret own mn Ψ cells slots sf h pc L (.long y :: .long x :: S) := by
  subst hp; exact Go.pure _ (fun p e below T target m c A hx hby k => XS.lsub A hx rfl (hb hby hd) rfl k) G
theorem Go.lmul {x y : Int64} (pc' : Nat) (hd : decode bytes pc = .ok (.lmul, 1)) (hp : pc + 1 = pc') (G : Go md l Z n0 R bytes ml ret own mn Ψ cells slots sf h pc' L (.long (x * y) :: S)) : Go md l Z n0 R bytes ml ret own mn Ψ cells slots sf h pc L (.long y :: .long x :: S) := by
  subst hp; exact Go.pure _ (fun p e below T target m c A hx hby k => XS.lmul A hx rfl (hb hby hd) rfl k) G
theorem Go.land {x y : Int64} (pc' : Nat) (hd : decode bytes pc = .ok (.land, 1)) (hp : pc + 1 = pc') (G : Go md l Z n0 R bytes ml ret own mn Ψ cells slots sf h pc' L (.long (x &&& y) :: S)) : Go md l Z n0 R bytes ml ret own mn Ψ cells slots sf h pc L (.long y :: .long x :: S) := by
  subst hp; exact Go.pure _ (fun p e below T target m c A hx hby k => XS.land A hx rfl (hb hby hd) rfl k) G
theorem Go.lor {x y : Int64} (pc' : Nat) (hd : decode bytes pc = .ok (.lor, 1)) (hp : pc + 1 = pc') (G : Go md l Z n0 R bytes ml ret own mn Ψ cells slots sf h pc' L (.long (x ||| y) :: S)) : Go md l Z n0 R bytes ml ret own mn Ψ cells slots sf h pc L (.long y :: .long x :: S) := by
  subst hp; exact Go.pure _ (fun p e below T target m c A hx hby k => XS.lor A hx rfl (hb hby hd) rfl k) G
theorem Go.lxor {x y : Int64} (pc' : Nat) (hd : decode bytes pc = .ok (.lxor, 1)) (hp : pc + 1 = pc') (G : Go md l Z n0 R bytes ml ret own mn Ψ cells slots sf h pc' L (.long (x ^^^ y) :: S)) : Go md l Z n0 R bytes ml ret own mn Ψ cells slots sf h pc L (.long y :: .long x :: S) := by
  subst hp; exact Go.pure _ (fun p e below T target m c A hx hby k => XS.lxor A hx rfl (hb hby hd) rfl k) G
theorem Go.lneg {x : Int64} (pc' : Nat) (hd : decode bytes pc = .ok (.lneg, 1)) (hp : pc + 1 = pc') (G : Go md l Z n0 R bytes ml ret own mn Ψ cells slots sf h pc' L (.long (-x) :: S)) : Go md l Z n0 R bytes ml ret own mn Ψ cells slots sf h pc L (.long x :: S) := by
  subst hp; exact Go.pure _ (fun p e below T target m c A hx hby k => XS.lneg A hx rfl (hb hby hd) rfl k) G
theorem Go.lcmp {x y : Int64} (pc' : Nat) (hd : decode bytes pc = .ok (.lcmp, 1)) (hp : pc + 1 = pc') (G : Go md l Z n0 R bytes ml ret own mn Ψ cells slots sf h pc' L (.int (lcmpW x y) :: S)) : Go md l Z n0 R bytes ml ret own mn Ψ cells slots sf h pc L (.long y :: .long x :: S) := by
  subst hp; exact Go.pure _ (fun p e below T target m c A hx hby k => XS.lcmp A hx rfl (hb hby hd) rfl k) G
theorem Go.lushr {x : Int64} {y : Int32} (pc' : Nat) (hd : decode bytes pc = .ok (.lushr, 1)) (hp : pc + 1 = pc') (G : Go md l Z n0 R bytes ml ret own mn Ψ cells slots sf h pc' L (.long (ushrL x y) :: S)) : Go md l Z n0 R bytes ml ret own mn Ψ cells slots sf h pc L (.int y :: .long x :: S) := by
  subst hp; exact Go.pure _ (fun p e below T target m c A hx hby k => XS.lushr A hx rfl (hb hby hd) rfl k) G
theorem Go.lshl {x : Int64} {y : Int32} (pc' : Nat) (hd : decode bytes pc = .ok (.lshl, 1)) (hp : pc + 1 = pc') (G : Go md l Z n0 R bytes ml ret own mn Ψ cells slots sf h pc' L (.long (x <<< (y &&& 0x3f).toInt64) :: S)) : Go md l Z n0 R bytes ml ret own mn Ψ cells slots sf h pc L (.int y :: .long x :: S) := by
  subst hp; exact Go.pure _ (fun p e below T target m c A hx hby k => XS.lshl A hx rfl (hb hby hd) rfl k) G
theorem Go.lrem {x y : Int64} (pc' : Nat) (hd : decode bytes pc = .ok (.lrem, 1)) (hp : pc + 1 = pc') (hy : y ≠ 0) (G : Go md l Z n0 R bytes ml ret own mn Ψ cells slots sf h pc' L (.long (x - (x / y) * y) :: S)) : Go md l Z n0 R bytes ml ret own mn Ψ cells slots sf h pc L (.long y :: .long x :: S) := by
  subst hp; exact Go.pure _ (fun p e below T target m c A hx hby k => XS.lrem A hx rfl (hb hby hd) rfl hy k) G
theorem Go.i2l {x : Int32} (pc' : Nat) (hd : decode bytes pc = .ok (.i2l, 1)) (hp : pc + 1 = pc') (G : Go md l Z n0 R bytes ml ret own mn Ψ cells slots sf h pc' L (.long x.toInt64 :: S)) : Go md l Z n0 R bytes ml ret own mn Ψ cells slots sf h pc L (.int x :: S) := by
  subst hp; exact Go.pure _ (fun p e below T target m c A hx hby k => XS.i2l A hx rfl (hb hby hd) rfl k) G
theorem Go.l2i {x : Int64} (pc' : Nat) (hd : decode bytes pc = .ok (.l2i, 1)) (hp : pc + 1 = pc') (G : Go md l Z n0 R bytes ml ret own mn Ψ cells slots sf h pc' L (.int x.toInt32 :: S)) : Go md l Z n0 R bytes ml ret own mn Ψ cells slots sf h pc L (.long x :: S) := by
  subst hp; exact Go.pure _ (fun p e below T target m c A hx hby k => XS.l2i A hx rfl (hb hby hd) rfl k) G
theorem Go.i2b {x : Int32} (pc' : Nat) (hd : decode bytes pc = .ok (.i2b, 1)) (hp : pc + 1 = pc') (G : Go md l Z n0 R bytes ml ret own mn Ψ cells slots sf h pc' L (.int x.toInt8.toInt32 :: S)) : Go md l Z n0 R bytes ml ret own mn Ψ cells slots sf h pc L (.int x :: S) := by
  subst hp; exact Go.pure _ (fun p e below T target m c A hx hby k => XS.i2b A hx rfl (hb hby hd) rfl k) G
theorem Go.i2c {x : Int32} (pc' : Nat) (hd : decode bytes pc = .ok (.i2c, 1)) (hp : pc + 1 = pc') (G : Go md l Z n0 R bytes ml ret own mn Ψ cells slots sf h pc' L (.int (chr x) :: S)) : Go md l Z n0 R bytes ml ret own mn Ψ cells slots sf h pc L (.int x :: S) := by
  subst hp; exact Go.pure _ (fun p e below T target m c A hx hby k => XS.i2c A hx rfl (hb hby hd) rfl k) G
theorem Go.dupX1 {v w : Value} (pc' : Nat) (hd : decode bytes pc = .ok (.dup_x1, 1)) (hp : pc + 1 = pc') (hv : v.category = 1) (hw : w.category = 1) (G : Go md l Z n0 R bytes ml ret own mn Ψ cells slots sf h pc' L (v :: w :: v :: S)) : Go md l Z n0 R bytes ml ret own mn Ψ cells slots sf h pc L (v :: w :: S) := by
  subst hp; exact Go.pure _ (fun p e below T target m c A hx hby k => XS.dupX1 A hx rfl (hb hby hd) rfl hv hw k) G
theorem sub1 {x : Addr} (q : x ∈ sf) : ∀ y ∈ [x], y ∈ sf := fun y hy => by cases List.mem_singleton.mp hy; exact q
/-- one field of an ordinary object known, each laid one holds something -/
theorem Fld.any {a : Addr} {C O n d O' n' d' : String} {v : Value} {k : Nat} (F : Fld Z h a O' n' d' v) (E : Exa Z h a C) (wi : (Jvm.Cond.instantiable C k).before a0 Z = true) (Lw : Laid Z a0 C O n d) : ∃ w, Fld Z h a O n d w := by
  obtain ⟨cell, cf, kk, i, f, h1, -, -, h4, h5, -, -⟩ := F
  obtain ⟨c2, k2, g1, g2, g3, g4, g5⟩ := E
  cases h1.symm.trans g1
  obtain ⟨c3, k3, i1, i2, i3, -⟩ := Cond.instantiable_spec wi
  cases g2.symm.trans i1
  cases g3.symm.trans i2
  obtain ⟨c, kc, cf', kf, j, f', a1, a2, a3, a4, a5, a6, -⟩ := Lw.spec
  cases g2.symm.trans a1
  cases g3.symm.trans a2
  have hs := g5 i3
  have hlt : f'.slot < cell.slots.size := by rw [hs]; exact (Array.getElem?_eq_some_iff.mp a6).1
  exact ⟨cell.slots[f'.slot], cell, cf', kf, j, f', h1, a3, a4, h4, h5, a5, Array.getElem?_eq_getElem hlt⟩
theorem Go.irem {x y : Int32} (pc' : Nat) (hd : decode bytes pc = .ok (.irem, 1)) (hp : pc + 1 = pc') (hy : y ≠ 0) (G : Go md l Z n0 R bytes ml ret own mn Ψ cells slots sf h pc' L (.int (x % y) :: S)) : Go md l Z n0 R bytes ml ret own mn Ψ cells slots sf h pc L (.int y :: .int x :: S) := by
  subst hp; exact Go.warm _ (fun p e s m args below meth c T locs hx hby hml hZ hown X eT => ⟨T, X, eT, fun target k => iremM (g := mkF m pc L (.int y :: .int x :: S)) X hx rfl (hb hby hd) rfl hy k⟩) G
theorem Go.ldcI {index : Nat} {v : Int32} (pc' : Nat) (hd : decode bytes pc = .ok (.ldc index, 2)) (hp : pc + 2 = pc') (w : (Jvm.Cond.constant own index v).before a0 Z = true) (G : Go md l Z n0 R bytes ml ret own mn Ψ cells slots sf h pc' L (.int v :: S)) : Go md l Z n0 R bytes ml ret own mn Ψ cells slots sf h pc L S := by
  subst hp; exact Go.warm _ (fun p e s m args below meth c T locs hx hby hml hZ hown X eT => ⟨T, X, eT, fun target k => X.ldcI (g := mkF m pc L S) hx hown (mvT hZ w) rfl (hb hby hd) k⟩) G
theorem Go.ldc2J {index : Nat} {v : Int64} (pc' : Nat) (hd : decode bytes pc = .ok (.ldc2_w index, 3)) (hp : pc + 3 = pc') (w : (Jvm.Cond.constantLong own index v).before a0 Z = true) (G : Go md l Z n0 R bytes ml ret own mn Ψ cells slots sf h pc' L (.long v :: S)) : Go md l Z n0 R bytes ml ret own mn Ψ cells slots sf h pc L S := by
  subst hp; exact Go.warm _ (fun p e s m args below meth c T locs hx hby hml hZ hown X eT => ⟨T, X, eT, fun target k => X.ldc2J (g := mkF m pc L S) hx hown (mvT hZ w) rfl (hb hby hd) k⟩) G
/-! fields -/
theorem Go.getF {R0 O n d : String} {index : Nat} {a : Addr} {v : Value} (pc' : Nat) (hd : decode bytes pc = .ok (.getfield index, 3)) (hp : pc + 3 = pc') (w : (Jvm.Cond.fieldLink own index R0 n d).before a0 Z = true) (via : Via Z R0 O n d) (F : Fld Z h a O n d v) (G : Go md l Z n0 R bytes ml ret own mn Ψ cells slots sf h pc' L (v :: S)) :
    Go md l Z n0 R bytes ml ret own mn Ψ cells slots sf h pc L (.ref a :: S) := by
  subst hp; exact Go.warm _ (fun p e s m args below meth c T locs hx hby hml hZ hown X eT => Jvm.RoadKit.getF X hx hZ hown (host := "") (Or.inl w) via eT F (g := mkF m pc L (.ref a :: S)) rfl rfl (hb hby hd)) G
theorem Go.getS {R0 O n d : String} {index : Nat} {v : Value} (pc' : Nat) (hd : decode bytes pc = .ok (.getstatic index, 3)) (hp : pc + 3 = pc') (w : (Jvm.Cond.fieldLink own index R0 n d).before a0 Z = true) (via : Via Z R0 O n d) (F : Sta Z Z.heap O n d v) (G : Go md l Z n0 R bytes ml ret own mn Ψ cells slots sf h pc' L (v :: S)) :
    Go md l Z n0 R bytes ml ret own mn Ψ cells slots sf h pc L S := by
  subst hp; exact Go.old fun o _ => Go.warm _ (fun p e s m args below meth c T locs hx hby hml hZ hown X eT => Jvm.RoadKit.getS (host := "") X hx hZ hown w via eT (F.ext o.2) (g := mkF m pc L S) rfl (hb hby hd)) G
theorem Go.putF {R0 O n d C : String} {index kk : Nat} {ty : FieldType} {a : Addr} {v old : Value} (pc' : Nat) (v' : Value) (hd : decode bytes pc = .ok (.putfield index, 3)) (hp : pc + 3 = pc') (w : (Jvm.Cond.fieldLink own index R0 n d).before a0 Z = true) (via : Via Z R0 O n d) (F : Fld Z h a O n d old) (E : Exa Z h a C)
    (Lw : (Jvm.Cond.lays C O n d).before a0 Z = true ∨ ((Jvm.Cond.laysFinal C O n d).before a0 Z = true ∧ own = O ∧ mn = "<init>")) (wi : (Jvm.Cond.instantiable C kk).before a0 Z = true) (hty : parseFieldDescriptor d = some ty) (hnw : narrow ty v = v') (hf : fits ty v' = true) (ha : a ∈ sf) (hn0 : n0 ≤ a)
    (G : ∀ h', Wr h h' a (Jvm.RoadKit.slotOf Z O n d) v' → Go md l Z n0 R bytes ml ret own mn Ψ cells slots sf h' pc' L S) : Go md l Z n0 R bytes ml ret own mn Ψ cells slots sf h pc L (v :: .ref a :: S) := by
  subst hp; exact Go.write _ ha hn0 (fun p e s m args below meth c T locs hx hby hml hnm hZ hown X eT => putFN X hx hZ hown w via eT F E (Lw.imp id fun q => ⟨q.1, q.2.1, hnm.trans q.2.2⟩) wi hty hnw hf (g := mkF m pc L (v :: .ref a :: S)) rfl rfl (hb hby hd)) G
/-! classes -/
theorem Go.castY {K : String} {index : Nat} {a : Addr} (pc' : Nat) (hd : decode bytes pc = .ok (.checkcast index, 3)) (hp : pc + 3 = pc') (w : (Jvm.Cond.classLink own index K).before a0 Z = true) (F : Ins Z h a K true) (G : Go md l Z n0 R bytes ml ret own mn Ψ cells slots sf h pc' L (.ref a :: S)) :
    Go md l Z n0 R bytes ml ret own mn Ψ cells slots sf h pc L (.ref a :: S) := by
  subst hp; exact Go.warm _ (fun p e s m args below meth c T locs hx hby hml hZ hown X eT => Jvm.RoadKit.castY X hx hZ hown w eT F (g := mkF m pc L (.ref a :: S)) rfl rfl (hb hby hd)) G
theorem Go.instY {K : String} {index : Nat} {a : Addr} (pc' : Nat) (hd : decode bytes pc = .ok (.instanceof index, 3)) (hp : pc + 3 = pc') (w : (Jvm.Cond.classLink own index K).before a0 Z = true) (F : Ins Z h a K true) (G : Go md l Z n0 R bytes ml ret own mn Ψ cells slots sf h pc' L (.int 1 :: S)) :
    Go md l Z n0 R bytes ml ret own mn Ψ cells slots sf h pc L (.ref a :: S) := by
  subst hp; exact Go.warm _ (fun p e s m args below meth c T locs hx hby hml hZ hown X eT => Jvm.RoadKit.instY X hx hZ hown w eT F (g := mkF m pc L (.ref a :: S)) rfl rfl (hb hby hd)) G
theorem Go.instNo {K C : String} {index : Nat} {a : Addr} (pc' : Nat) (hd : decode bytes pc = .ok (.instanceof index, 3)) (hp : pc + 3 = pc') (w : (Jvm.Cond.classLink own index K).before a0 Z = true) (E : Exa Z h a C) (F : ∃ c t, Z.vm.findClass C = some c ∧ Z.vm.findClass K = some t ∧ Z.vm.assignable c t = false) (G : Go md l Z n0 R bytes ml ret own mn Ψ cells slots sf h pc' L (.int 0 :: S)) :
    Go md l Z n0 R bytes ml ret own mn Ψ cells slots sf h pc L (.ref a :: S) := by
  subst hp; exact Go.warm _ (fun p e s m args below meth c T locs hx hby hml hZ hown X eT => Jvm.RoadKit.instNo X hx hZ hown w eT E F (g := mkF m pc L (.ref a :: S)) rfl rfl (hb hby hd)) G
theorem Go.instNull {index : Nat} (pc' : Nat) (hd : decode bytes pc = .ok (.instanceof index, 3)) (hp : pc + 3 = pc') (G : Go md l Z n0 R bytes ml ret own mn Ψ cells slots sf h pc' L (.int 0 :: S)) : Go md l Z n0 R bytes ml ret own mn Ψ cells slots sf h pc L (.null :: S) := by
  subst hp; exact Go.warm _ (fun p e s m args below meth c T locs hx hby hml hZ hown X eT => ⟨T, X, eT, fun target k => X.instanceofNull (g := mkF m pc L (.null :: S)) hx rfl rfl (hb hby hd) target k⟩) G
theorem Go.castNull {index : Nat} (pc' : Nat) (hd : decode bytes pc = .ok (.checkcast index, 3)) (hp : pc + 3 = pc') (G : Go md l Z n0 R bytes ml ret own mn Ψ cells slots sf h pc' L (.null :: S)) : Go md l Z n0 R bytes ml ret own mn Ψ cells slots sf h pc L (.null :: S) := by
  subst hp; exact Go.warm _ (fun p e s m args below meth c T locs hx hby hml hZ hown X eT => ⟨T, X, eT, fun target k => X.checkcastNull (g := mkF m pc L (.null :: S)) hx rfl rfl (hb hby hd) target k⟩) G
/-- Object's constructor -/
theorem Go.initO {idx : Nat} {a : Addr} {W : Nat} (pc' : Nat) (hd : decode bytes pc = .ok (.invokespecial idx, 3)) (hp : pc + 3 = pc') (w1 : (Jvm.Cond.methodLink own idx Lib.objectInit).before a0 Z = true) (w2 : (Jvm.Cond.instanceMethod Lib.objectInit).before a0 Z = true) (w3 : (Jvm.Cond.code Lib.objectInit ⟨#[0xb1]⟩ 1 none).before a0 Z = true)
    (hsz : L.size = ml) (hf : 1 ≤ R.frames) (hW : (S.map fun v => v.category).sum ≤ W) (hl : W + 12 ≤ R.locals) (G : Go md l Z n0 R bytes ml ret own mn Ψ cells slots sf h pc' L S) : Go md l Z n0 R bytes ml ret own mn Ψ cells slots sf h pc L (.ref a :: S) := by
  subst hp; exact Go.warm _ (fun p e s m args below meth c T locs hx hby hml hZ hown X eT => Jvm.RoadKit.initO X hx hZ hown w1 w2 w3 eT (g := mkF m pc L (.ref a :: S)) rfl (hsz.trans hml.symm) rfl (hb hby hd) hf (W := W) (by simpa using hW) hl) G
/-! what is made -/
theorem Go.new {C : String} {index n : Nat} (pc' : Nat) (hd : decode bytes pc = .ok (.new index, 3)) (hp : pc + 3 = pc') (w : (Jvm.Cond.classLink own index C).before a0 Z = true) (wi : (Jvm.Cond.instantiable C n).before a0 Z = true) (wz : (Jvm.Cond.initialized C).before a0 Z = true) (hc : cells + 1 ≤ R.cells) (hl : slots + n ≤ R.slots)
    (G : ∀ h' x, h.size = x → n0 ≤ x → Ext h h' → x < h'.size → Exa Z h' x C → (∀ {O nm d : String} {ty : FieldType}, Laid Z a0 C O nm d → parseFieldDescriptor d = some ty → Fld Z h' x O nm d (defaultValue ty)) → Go md l Z n0 R bytes ml ret own mn Ψ (cells + 1) (slots + n) (x :: sf) h' pc' L (.ref x :: S)) :
    Go md l Z n0 R bytes ml ret own mn Ψ cells slots sf h pc L S := by
  subst hp
  intro p e s m args below meth c vm0 T locs hx hby hml hr hlk hn ho X eT hZ B N
  obtain ⟨T', h', X', e', E, A, D, -, st⟩ := newO X hx hZ (by rw [show (s.setVm vm0).vm = vm0 from rfl, hZ.alike.findClass]; exact ho) w wi wz eT (g := mkF m pc L S) rfl (hb hby hd) hc hl
  obtain ⟨s₂, o, h1, r⟩ := G h' _ rfl B.n0le E A.lt A D p e s m args below meth c vm0 T' locs hx hby hml hr hlk hn ho X' e' hZ (B.new E A.lt (Nat.le_refl _)) N
  exact ⟨s₂, o, st _ h1, r⟩
/-- the array at a holds just these -/
def Ary (Z : State) (h : Heap) (a : Addr) (ty : FieldType) (vs : List Value) : Prop := ∃ c : Cell, Arr Z h a c ty ∧ c.slots.toList = vs ∧ vs.length < 2147483648 ∧ ∀ v ∈ vs, fits ty v = true
theorem Ary.lt {a : Addr} {ty : FieldType} {vs : List Value} (A : Ary Z h a ty vs) : a < h.size := by obtain ⟨c, A, -⟩ := A; exact A.lt
theorem Ary.ext {a : Addr} {ty : FieldType} {vs : List Value} (E : Ext h h') (A : Ary Z h a ty vs) : Ary Z h' a ty vs := by obtain ⟨c, A, r⟩ := A; exact ⟨c, A.ext E, r⟩
theorem Ary.other {a b : Addr} {ty : FieldType} {vs : List Value} {sl : Nat} {v : Value} (W : Wr h h' a sl v) (A : Ary Z h b ty vs) (q : b ≠ a) : Ary Z h' b ty vs := by obtain ⟨c, A, r⟩ := A; exact ⟨c, A.other W q, r⟩
theorem Ary.keep {a : Addr} {ty : FieldType} {vs : List Value} {ws : List Addr} (K : Keep h h' ws) (A : Ary Z h a ty vs) (q : a ∉ ws) : Ary Z h' a ty vs := by obtain ⟨c, A, r⟩ := A; exact ⟨c, ⟨K.2.1 a c A.1 q, A.2⟩, r⟩
theorem Ary.set {a : Addr} {ty : FieldType} {vs : List Value} {i : Nat} {v : Value} (W : Wr h h' a i v) (A : Ary Z h a ty vs) (hf : fits ty v = true) : Ary Z h' a ty (vs.set i v) := by
  obtain ⟨c, A, e1, e2, e3⟩ := A
  refine ⟨_, A.same W, by rw [← e1]; simp [Cell.setSlot, Array.toList_setIfInBounds], by simpa using e2, fun w hw => ?_⟩
  rcases List.mem_or_eq_of_mem_set hw with q | rfl
  · exact e3 w q
  · exact hf
theorem clamp_of {j : Int32} {i : Nat} (q : j.toInt = (i : Int)) : ¬ j < 0 ∧ j.toNatClampNeg = i := by
  refine ⟨fun z => ?_, ?_⟩
  · rw [Int32.lt_iff_toInt_lt] at z; rw [q] at z; have : (0 : Int32).toInt = 0 := rfl; omega
  · show j.toInt.toNat = i; rw [q]; rfl
theorem Ary.inb {a : Addr} {ty : FieldType} {vs : List Value} {c : Cell} {j : Int32} {i : Nat} (e1 : c.slots.toList = vs) (q : j.toInt = (i : Int)) (hi : i < vs.length) : ¬ (j < 0 ∨ c.slots.size ≤ j.toNatClampNeg) := by
  obtain ⟨q1, q2⟩ := clamp_of q
  rintro (z | z)
  · exact q1 z
  · rw [q2] at z; subst e1; simp at hi; omega
theorem Ary.at {c : Cell} {vs : List Value} {j : Int32} {i : Nat} {v : Value} (e1 : c.slots.toList = vs) (q : j.toInt = (i : Int)) (hv : vs[i]? = some v) : c.slots[j.toNatClampNeg]? = some v := by
  rw [(clamp_of q).2]; subst e1; rw [← hv]; simp
theorem Go.newA {aty : ArrayType} {n : Int32} {ty : FieldType} (k : Nat) (pc' : Nat) (hd : decode bytes pc = .ok (.newarray aty, 2)) (hp : pc + 2 = pc') (hty : newarray.typeOf aty = ty) (w : (Jvm.Cond.arrayClass ty).before a0 Z = true) (hk : n.toInt = (k : Int)) (cap : Nat) (hcap : k ≤ cap) (hb8 : cap * 8 ≤ 536870912) (hc : cells + 1 ≤ R.cells) (hl : slots + cap ≤ R.slots)
    (G : ∀ h' x, h.size = x → n0 ≤ x → Ext h h' → x < h'.size → Ary Z h' x ty (List.replicate k (defaultValue ty)) → Go md l Z n0 R bytes ml ret own mn Ψ (cells + 1) (slots + cap) (x :: sf) h' pc' L (.ref x :: S)) :
    Go md l Z n0 R bytes ml ret own mn Ψ cells slots sf h pc L (.int n :: S) := by
  subst hp; subst hty
  obtain ⟨q1, q2⟩ := clamp_of hk
  intro p e s m args below meth c vm0 T locs hx hby hml hr hlk hn ho X eT hZ B N
  obtain ⟨T', h', cA, X', e', E, A, st⟩ := newP X hx hZ w eT (g := mkF m pc L (.int n :: S)) rfl (hb hby hd) rfl q1 (cap := cap) (by rw [q2]; exact hcap) hb8 hc hl
  have A' : Ary Z h' h.size (newarray.typeOf aty) (List.replicate k (defaultValue (newarray.typeOf aty))) := ⟨_, A, by simp [Jvm.RoadKit.newA, q2], by simp; omega, fun v hv => by
    rw [(List.mem_replicate.mp hv).2]; cases aty <;> rfl⟩
  obtain ⟨s₂, o, h1, r⟩ := G h' _ rfl B.n0le E A'.lt A' p e s m args below meth c vm0 T' locs hx hby hml hr hlk hn ho X' e' hZ (B.new E A'.lt (Nat.le_refl _)) N
  exact ⟨s₂, o, st _ h1, r⟩
theorem Go.alen {a : Addr} {ty : FieldType} {vs : List Value} (pc' : Nat) (n : Int32) (hd : decode bytes pc = .ok (.arraylength, 1)) (hp : pc + 1 = pc') (A : Ary Z h a ty vs) (hn : Int32.ofNat vs.length = n) (G : Go md l Z n0 R bytes ml ret own mn Ψ cells slots sf h pc' L (.int n :: S)) :
    Go md l Z n0 R bytes ml ret own mn Ψ cells slots sf h pc L (.ref a :: S) := by
  subst hp; subst hn
  obtain ⟨c0, A, e1, e2, e3⟩ := A
  refine Go.warm _ (fun p e s m args below meth c T locs hx hby hml hZ hown X eT => ⟨T, X, eT, fun target k => X.arraylength hx (by rw [eT]; exact A.1) (State.isArrayOf_alike hZ.alike A.2.1) (g := mkF m pc L (.ref a :: S)) rfl rfl (hb hby hd) target ?_⟩) G
  subst e1; simpa using k
theorem Go.caload {a : Addr} {vs : List Value} {j : Int32} (i : Nat) {v : Value} (pc' : Nat) (hd : decode bytes pc = .ok (.caload, 1)) (hp : pc + 1 = pc') (A : Ary Z h a .char vs) (hj : j.toInt = (i : Int)) (hv : vs[i]? = some v) (G : Go md l Z n0 R bytes ml ret own mn Ψ cells slots sf h pc' L (v :: S)) :
    Go md l Z n0 R bytes ml ret own mn Ψ cells slots sf h pc L (.int j :: .ref a :: S) := by
  subst hp
  obtain ⟨c0, A, e1, e2, e3⟩ := A
  have hi := (List.getElem?_eq_some_iff.mp hv).1
  exact Go.warm _ (fun p e s m args below meth c T locs hx hby hml hZ hown X eT => ⟨T, X, eT, fun target k => X.caload hx (by rw [eT]; exact A.1) (State.isArrayOf_alike hZ.alike A.2.1) A.2.2 (Ary.inb (a := a) (ty := .char) e1 hj hi) (Ary.at e1 hj hv) (g := mkF m pc L (.int j :: .ref a :: S)) rfl rfl (hb hby hd) target k⟩) G
theorem Go.baload {a : Addr} {vs : List Value} {j : Int32} (i : Nat) {v : Value} (pc' : Nat) (hd : decode bytes pc = .ok (.baload, 1)) (hp : pc + 1 = pc') (A : Ary Z h a .byte vs) (hj : j.toInt = (i : Int)) (hv : vs[i]? = some v) (G : Go md l Z n0 R bytes ml ret own mn Ψ cells slots sf h pc' L (v :: S)) :
    Go md l Z n0 R bytes ml ret own mn Ψ cells slots sf h pc L (.int j :: .ref a :: S) := by
  subst hp
  obtain ⟨c0, A, e1, e2, e3⟩ := A
  have hi := (List.getElem?_eq_some_iff.mp hv).1
  exact Go.warm _ (fun p e s m args below meth c T locs hx hby hml hZ hown X eT => ⟨T, X, eT, fun target k => X.baloadBytes hx (by rw [eT]; exact A.1) (State.isArrayOf_alike hZ.alike A.2.1) A.2.2 (Ary.inb (a := a) (ty := .byte) e1 hj hi) (Ary.at e1 hj hv) (g := mkF m pc L (.int j :: .ref a :: S)) rfl rfl (hb hby hd) target k⟩) G
theorem Go.laload {a : Addr} {vs : List Value} {j : Int32} (i : Nat) {v : Value} (pc' : Nat) (hd : decode bytes pc = .ok (.laload, 1)) (hp : pc + 1 = pc') (A : Ary Z h a .long vs) (hj : j.toInt = (i : Int)) (hv : vs[i]? = some v) (G : Go md l Z n0 R bytes ml ret own mn Ψ cells slots sf h pc' L (v :: S)) :
    Go md l Z n0 R bytes ml ret own mn Ψ cells slots sf h pc L (.int j :: .ref a :: S) := by
  subst hp
  obtain ⟨c0, A, e1, e2, e3⟩ := A
  have hi := (List.getElem?_eq_some_iff.mp hv).1
  exact Go.warm _ (fun p e s m args below meth c T locs hx hby hml hZ hown X eT => ⟨T, X, eT, fun target k => X.laload hx (by rw [eT]; exact A.1) (State.isArrayOf_alike hZ.alike A.2.1) A.2.2 (Ary.inb (a := a) (ty := .long) e1 hj hi) (Ary.at e1 hj hv) (g := mkF m pc L (.int j :: .ref a :: S)) rfl rfl (hb hby hd) target k⟩) G
theorem Go.aaload {a : Addr} {vs : List Value} {j : Int32} {ty : FieldType} (i : Nat) {v : Value} (pc' : Nat) (hd : decode bytes pc = .ok (.aaload, 1)) (hp : pc + 1 = pc') (hty : ty.isReference = true) (A : Ary Z h a ty vs) (hj : j.toInt = (i : Int)) (hv : vs[i]? = some v) (G : Go md l Z n0 R bytes ml ret own mn Ψ cells slots sf h pc' L (v :: S)) :
    Go md l Z n0 R bytes ml ret own mn Ψ cells slots sf h pc L (.int j :: .ref a :: S) := by
  subst hp
  obtain ⟨c0, A, e1, e2, e3⟩ := A
  have hi := (List.getElem?_eq_some_iff.mp hv).1
  exact Go.warm _ (fun p e s m args below meth c T locs hx hby hml hZ hown X eT => ⟨T, X, eT, fun target k => X.aaload hx (by rw [eT]; exact A.1) (State.isArrayOf_alike hZ.alike A.2.1) hty A.2.2 (Ary.inb (a := a) (ty := ty) e1 hj hi) (Ary.at e1 hj hv) (g := mkF m pc L (.int j :: .ref a :: S)) rfl rfl (hb hby hd) target k⟩) G
theorem Go.castore {a : Addr} {vs : List Value} {j x : Int32} (i : Nat) (pc' : Nat) (hd : decode bytes pc = .ok (.castore, 1)) (hp : pc + 1 = pc') (A : Ary Z h a .char vs) (hj : j.toInt = (i : Int)) (hi : i < vs.length) (ha : a ∈ sf) (hn0 : n0 ≤ a)
    (G : ∀ h', Wr h h' a i (.int (nar .char x)) → Ary Z h' a .char (vs.set i (.int (nar .char x))) → Go md l Z n0 R bytes ml ret own mn Ψ cells slots sf h' pc' L S) : Go md l Z n0 R bytes ml ret own mn Ψ cells slots sf h pc L (.int x :: .int j :: .ref a :: S) := by
  subst hp
  obtain ⟨c0, A0, e1, e2, e3⟩ := A
  obtain ⟨-, q2⟩ := clamp_of hj
  exact Go.write _ ha hn0 (sl := i) (fun p e s m args below meth c T locs hx hby hml hnm hZ hown X eT => by rw [← q2]; exact stC X hx hZ eT A0 (Ary.inb (a := a) (ty := .char) e1 hj hi) (g := mkF m pc L (.int x :: .int j :: .ref a :: S)) rfl rfl (hb hby hd)) (fun h' W => G h' W (Ary.set W ⟨c0, A0, e1, e2, e3⟩ (fits_nar_char _)))
theorem Go.bastore {a : Addr} {vs : List Value} {j x : Int32} (i : Nat) (pc' : Nat) (hd : decode bytes pc = .ok (.bastore, 1)) (hp : pc + 1 = pc') (A : Ary Z h a .byte vs) (hj : j.toInt = (i : Int)) (hi : i < vs.length) (ha : a ∈ sf) (hn0 : n0 ≤ a)
    (G : ∀ h', Wr h h' a i (.int x.toInt8.toInt32) → Ary Z h' a .byte (vs.set i (.int x.toInt8.toInt32)) → Go md l Z n0 R bytes ml ret own mn Ψ cells slots sf h' pc' L S) : Go md l Z n0 R bytes ml ret own mn Ψ cells slots sf h pc L (.int x :: .int j :: .ref a :: S) := by
  subst hp
  obtain ⟨c0, A0, e1, e2, e3⟩ := A
  obtain ⟨-, q2⟩ := clamp_of hj
  exact Go.write _ ha hn0 (sl := i) (fun p e s m args below meth c T locs hx hby hml hnm hZ hown X eT => by rw [← q2]; exact stB X hx hZ eT A0 (Ary.inb (a := a) (ty := .byte) e1 hj hi) (g := mkF m pc L (.int x :: .int j :: .ref a :: S)) rfl rfl (hb hby hd)) (fun h' W => G h' W (Ary.set W ⟨c0, A0, e1, e2, e3⟩ (fits_nar_byte _)))
/-! calls -/
abbrev CPre (R : Room) (as : Array Value) (h : Heap) (kc ks : Nat) : Pt → Array Value → Prop := fun A a => a = as ∧ A.U.heap = h ∧ A.cells + kc ≤ R.cells ∧ A.slots + ks ≤ R.slots
abbrev CPost (Z : State) (n0 : Nat) (Q : Option Value → Heap → List Addr → Prop) (kc ks : Nat) : Pt → Array Value → Option Value → Pt → Prop := fun A _ v B => ∃ (L : List Loc) (sf' : List Addr), Q v B.U.heap sf' ∧ Old Z n0 B.U.heap ∧ Fr n0 L ∧ B.locs = A.locs ++ L ∧ B.cells = A.cells + kc ∧ B.slots = A.slots + ks
abbrev CPostW (Z : State) (EL : List (String × Nat)) (vm0 : Vm) (h : Heap) (n0 : Nat) (Q : Option Value → Heap → List Addr → Prop) (kc ks : Nat) : Pt → Array Value → Option Value → Pt → Prop := fun A _ v B => ∃ (L : List Loc) (sf' : List Addr), Q v B.U.heap sf' ∧ Old Z n0 B.U.heap ∧ Fr n0 L ∧ B.locs = A.locs ++ L ∧ B.cells = A.cells + kc ∧ B.slots = A.slots + ks ∧ CHr Z EL vm0 h B.U.vm B.U.heap ∧ ∀ x ∈ sf', x < B.U.heap.size ∧ Safe Z EL B.U.vm B.U.heap x
def Call (md : Md) (l : Launch) (Z : State) (n0 : Nat) (R : Room) (y : MethodName) (len W : Nat) (as : Array Value) (h : Heap) (sf : List Addr) (kc ks : Nat) (Q : Option Value → Heap → List Addr → Prop) : Prop :=
  ∀ (p : Program) (e : Env) (below : List Frame) (s : State) (vm0 : Vm) (sargs : Array Value), Z.Warmed39 vm0 → Bok md Z n0 s sf vm0 h →
    match md with
    | none => Back l R p e below (s.setVm vm0) sargs y len W (CPre R as h kc ks) (CPost Z n0 Q kc ks)
    | some EL => BackS l R p e below (s.setVm vm0) sargs y len W (CPre R as h kc ks) (CPostW Z EL vm0 h n0 Q kc ks)
theorem Bok.called {s U : State} {vm0 : Vm} {sf' : List Addr} (B : Bok (some EL) Z n0 s sf vm0 h) (h2 : (s.setVm vm0).Since U.vm U.heap.size) (o : Old Z n0 U.heap) (C : CHr Z EL vm0 h U.vm U.heap) (q : ∀ x ∈ sf', x < U.heap.size ∧ Safe Z EL U.vm U.heap x) : Bok (some EL) Z n0 s (sf' ++ sf) U.vm U.heap := by
  obtain ⟨-, ⟨k, b1, b2⟩, b3, b4, b5⟩ := B
  refine ⟨o, ⟨_, b1.trans h2 (Nat.le_trans b2 C.2.1), Nat.le_refl _⟩, b3, b4.trans C, fun x hx => ?_⟩
  rcases List.mem_append.mp hx with hx | hx
  · exact q x hx
  · exact ⟨Nat.lt_of_lt_of_le (b5 x hx).1 C.2.1, C.safe (b5 x hx).1 (b5 x hx).2⟩
theorem Go.callS {y : MethodName} {index maxY kc ks W : Nat} {bytesY : ByteArray} {retY : Option FieldType} {sfc : List Addr} {Q : Option Value → Heap → List Addr → Prop} {St : List Value} (pc' : Nat) (argsL : List Value) (hd : decode bytes pc = .ok (.invokestatic index, 3)) (hp : pc + 3 = pc') (hst : St = argsL.reverse ++ S)
    (wl : (Jvm.Cond.methodLink own index y).before a0 Z = true) (ws : (Jvm.Cond.static y).before a0 Z = true) (wi : (Jvm.Cond.initialized y.cls).before a0 Z = true) (wc : (Jvm.Cond.code y bytesY maxY retY).before a0 Z = true) (hy : y.cls ≠ "java/lang/invoke/MethodHandle" ∧ y.cls ≠ "java/lang/invoke/VarHandle")
    (hC : Call md l Z n0 R y 3 W argsL.toArray h sfc kc ks Q) (hlen : ∀ sig, parseMethodDescriptor y.desc = some sig → argsL.length = sig.parameters.length) (hW : (S.map fun v => v.category).sum ≤ W) (hsz : L.size = ml) (hc : cells + kc ≤ R.cells) (hs : slots + ks ≤ R.slots) (hsf : ∀ x ∈ sfc, x ∈ sf)
    (G : ∀ v h' sf', Q v h' sf' → Go md l Z n0 R bytes ml ret own mn Ψ (cells + kc) (slots + ks) (sf' ++ sf) h' pc' L (v.toList ++ S)) : Go md l Z n0 R bytes ml ret own mn Ψ cells slots sf h pc L St := by
  subst hp; subst hst
  intro p e s m args below meth c vm0 T locs hx hby hml hr hlk hn ho X eT hZ B N
  have hown : (s.setVm vm0).vm.findClass own = some m.cls := by rw [show (s.setVm vm0).vm = vm0 from rfl, hZ.alike.findClass]; exact ho
  have K := hC p e below s vm0 args hZ (B.sub hsf)
  cases md with
  | none =>
    obtain ⟨v, vm₁, ⟨U, L1, c1, n1⟩, -, X', ⟨L', sf', q1, q0, q2, q3, q4, q5⟩, st⟩ := Jvm.LawKit.callS X hx hown (mvT hZ wl) (mvT hZ ws) (mvT hZ wi) (mvT hZ wc) hy K (g := mkF m pc L (argsL.reverse ++ S)) rfl (hsz.trans hml.symm) hlen rfl (by simpa using hW) (hb hby hd) (fun _ _ => ⟨rfl, eT, hc, hs⟩)
    dsimp only [Pt.U, Pt.locs, Pt.cells, Pt.slots] at q1 q0 q3 q4 q5 X' st
    subst q3 q4 q5
    obtain ⟨s₂, o, h1, r⟩ := G v U.heap sf' q1 p e s m args below meth c vm0 U _ hx hby hml hr hlk hn ho X' rfl hZ ⟨q0, B.2⟩ (N.app q2)
    exact ⟨s₂, o, st _ h1, r⟩
  | some EL =>
    obtain ⟨v, vm₁, ⟨U, L1, c1, n1⟩, -, X', hS, hgr, ⟨L', sf', q1, q0, q2, q3, q4, q5, q6, q7⟩, st⟩ := callSS X hx hown (mvT hZ wl) (mvT hZ ws) (mvT hZ wi) (mvT hZ wc) hy K (g := mkF m pc L (argsL.reverse ++ S)) rfl (hsz.trans hml.symm) hlen rfl (by simpa using hW) (hb hby hd) (fun _ _ => ⟨rfl, eT, hc, hs⟩)
    dsimp only [Pt.U, Pt.locs, Pt.cells, Pt.slots] at q1 q0 q3 q4 q5 q6 q7 X' st hS hgr
    subst q3 q4 q5
    obtain ⟨s₂, o, h1, r⟩ := G v U.heap sf' q1 p e s m args below meth c U.vm U _ hx hby hml hr hlk hn ho X' rfl (State.Warmed39.trans (t := s.setVm vm0) hZ hS.1) (B.called hS q0 q6 q7) (N.app q2)
    exact ⟨s₂, o, st.trans h1, r⟩
theorem Go.callC {y : MethodName} {index maxY kc ks W : Nat} {bytesY : ByteArray} {sfc : List Addr} {Q : Option Value → Heap → List Addr → Prop} {St : List Value} {a : Addr} (pc' : Nat) (argsL : List Value) (hd : decode bytes pc = .ok (.invokespecial index, 3)) (hp : pc + 3 = pc') (hst : St = argsL.reverse ++ .ref a :: S) (hy1 : y.name = "<init>")
    (wl : (Jvm.Cond.methodLink own index y).before a0 Z = true) (ws : (Jvm.Cond.instanceMethod y).before a0 Z = true) (wc : (Jvm.Cond.code y bytesY maxY none).before a0 Z = true) (hy : y.cls ≠ "java/lang/invoke/MethodHandle" ∧ y.cls ≠ "java/lang/invoke/VarHandle")
    (hC : Call md l Z n0 R y 3 W (.ref a :: argsL).toArray h sfc kc ks Q) (hlen : ∀ sig, parseMethodDescriptor y.desc = some sig → argsL.length = sig.parameters.length) (hW : (S.map fun v => v.category).sum ≤ W) (hsz : L.size = ml) (hc : cells + kc ≤ R.cells) (hs : slots + ks ≤ R.slots) (hsf : ∀ x ∈ sfc, x ∈ sf)
    (G : ∀ v h' sf', Q v h' sf' → Go md l Z n0 R bytes ml ret own mn Ψ (cells + kc) (slots + ks) (sf' ++ sf) h' pc' L (v.toList ++ S)) : Go md l Z n0 R bytes ml ret own mn Ψ cells slots sf h pc L St := by
  subst hp; subst hst
  intro p e s m args below meth c vm0 T locs hx hby hml hr hlk hn ho X eT hZ B N
  have hown : (s.setVm vm0).vm.findClass own = some m.cls := by rw [show (s.setVm vm0).vm = vm0 from rfl, hZ.alike.findClass]; exact ho
  have K := hC p e below s vm0 args hZ (B.sub hsf)
  cases md with
  | none =>
    obtain ⟨v, vm₁, ⟨U, L1, c1, n1⟩, -, X', ⟨L', sf', q1, q0, q2, q3, q4, q5⟩, st⟩ := X.specialBack hx hy1 hown (mvT hZ wl) (mvT hZ ws) (mvT hZ wc) hy K (g := mkF m pc L (argsL.reverse ++ .ref a :: S)) rfl (hsz.trans hml.symm) (Steps.refl _) hlen rfl (by simpa using hW) (hb hby hd) (fun _ _ => ⟨rfl, eT, hc, hs⟩)
    dsimp only [Pt.U, Pt.locs, Pt.cells, Pt.slots] at q1 q0 q3 q4 q5 X' st
    subst q3 q4 q5
    obtain ⟨s₂, o, h1, r⟩ := G v U.heap sf' q1 p e s m args below meth c vm0 U _ hx hby hml hr hlk hn ho X' rfl hZ ⟨q0, B.2⟩ (N.app q2)
    exact ⟨s₂, o, st.trans h1, r⟩
  | some EL =>
    obtain ⟨v, vm₁, ⟨U, L1, c1, n1⟩, -, X', hS, hgr, ⟨L', sf', q1, q0, q2, q3, q4, q5, q6, q7⟩, st⟩ := X.specialBackS hx hy1 hown (mvT hZ wl) (mvT hZ ws) (mvT hZ wc) hy K (g := mkF m pc L (argsL.reverse ++ .ref a :: S)) rfl (hsz.trans hml.symm) (Steps.refl _) hlen rfl (by simpa using hW) (hb hby hd) (fun _ _ => ⟨rfl, eT, hc, hs⟩)
    dsimp only [Pt.U, Pt.locs, Pt.cells, Pt.slots] at q1 q0 q3 q4 q5 q6 q7 X' st hS hgr
    subst q3 q4 q5
    obtain ⟨s₂, o, h1, r⟩ := G v U.heap sf' q1 p e s m args below meth c U.vm U _ hx hby hml hr hlk hn ho X' rfl (State.Warmed39.trans (t := s.setVm vm0) hZ hS.1) (B.called hS q0 q6 q7) (N.app q2)
    exact ⟨s₂, o, st.trans h1, r⟩
theorem Go.callV {y z : MethodName} {index kc ks W : Nat} {C : String} {sfc : List Addr} {Q : Option Value → Heap → List Addr → Prop} {St : List Value} {a : Addr} (pc' : Nat) (argsL : List Value) (hd : decode bytes pc = .ok (.invokevirtual index, 3)) (hp : pc + 3 = pc') (hst : St = argsL.reverse ++ .ref a :: S)
    (wl : (Jvm.Cond.methodLink own index y).before a0 Z = true) (wd : (Jvm.Cond.declares y).before a0 Z = true) (wse : (Jvm.Cond.selects C y z).before a0 Z = true) (ws : (Jvm.Cond.instanceMethod z).before a0 Z = true) (hnf : ∀ (s : State), Z.Warmed39 s.vm → NotFace s y) (hy : y.cls ≠ "java/lang/invoke/MethodHandle" ∧ y.cls ≠ "java/lang/invoke/VarHandle")
    (E : Exa Z h a C) (hC : Call md l Z n0 R z 3 W (.ref a :: argsL).toArray h sfc kc ks Q) (hlen : ∀ sig, parseMethodDescriptor y.desc = some sig → argsL.length = sig.parameters.length) (hW : (S.map fun v => v.category).sum ≤ W) (hsz : L.size = ml) (hc : cells + kc ≤ R.cells) (hs : slots + ks ≤ R.slots) (hsf : ∀ x ∈ sfc, x ∈ sf)
    (G : ∀ v h' sf', Q v h' sf' → Go md l Z n0 R bytes ml ret own mn Ψ (cells + kc) (slots + ks) (sf' ++ sf) h' pc' L (v.toList ++ S)) : Go md l Z n0 R bytes ml ret own mn Ψ cells slots sf h pc L St := by
  subst hp; subst hst
  intro p e s m args below meth c vm0 T locs hx hby hml hr hlk hn ho X eT hZ B N
  have hown : (s.setVm vm0).vm.findClass own = some m.cls := by rw [show (s.setVm vm0).vm = vm0 from rfl, hZ.alike.findClass]; exact ho
  have K := hC p e below s vm0 args hZ (B.sub hsf)
  obtain ⟨cB, kB, i1, -, i3⟩ := isOf (s := s.setVm vm0) hZ eT E
  cases md with
  | none =>
    obtain ⟨v, vm₁, ⟨U, L1, c1, n1⟩, -, X', ⟨L', sf', q1, q0, q2, q3, q4, q5⟩, st⟩ := X.virtualBack hx hown (mvT hZ wl) (mvT hZ wd) (hnf _ hZ) (mvT hZ wse) (mvT hZ ws) hy K i1 i3 (g := mkF m pc L (argsL.reverse ++ .ref a :: S)) rfl (hsz.trans hml.symm) (Steps.refl _) hlen rfl (by simpa using hW) (hb hby hd) (fun _ _ => ⟨rfl, eT, hc, hs⟩)
    dsimp only [Pt.U, Pt.locs, Pt.cells, Pt.slots] at q1 q0 q3 q4 q5 X' st
    subst q3 q4 q5
    obtain ⟨s₂, o, h1, r⟩ := G v U.heap sf' q1 p e s m args below meth c vm0 U _ hx hby hml hr hlk hn ho X' rfl hZ ⟨q0, B.2⟩ (N.app q2)
    exact ⟨s₂, o, st.trans h1, r⟩
  | some EL =>
    obtain ⟨v, vm₁, ⟨U, L1, c1, n1⟩, -, X', hS, hgr, ⟨L', sf', q1, q0, q2, q3, q4, q5, q6, q7⟩, st⟩ := X.virtualBackS hx hown (mvT hZ wl) (mvT hZ wd) (hnf _ hZ) (mvT hZ wse) (mvT hZ ws) hy K i1 i3 (g := mkF m pc L (argsL.reverse ++ .ref a :: S)) rfl (hsz.trans hml.symm) (Steps.refl _) hlen rfl (by simpa using hW) (hb hby hd) (fun _ _ => ⟨rfl, eT, hc, hs⟩)
    dsimp only [Pt.U, Pt.locs, Pt.cells, Pt.slots] at q1 q0 q3 q4 q5 q6 q7 X' st hS hgr
    subst q3 q4 q5
    obtain ⟨s₂, o, h1, r⟩ := G v U.heap sf' q1 p e s m args below meth c U.vm U _ hx hby hml hr hlk hn ho X' rfl (State.Warmed39.trans (t := s.setVm vm0) hZ hS.1) (B.called hS q0 q6 q7) (N.app q2)
    exact ⟨s₂, o, st.trans h1, r⟩
/-! from a body to a call -/
theorem met_of_go {cls name desc : String} {as : Array Value} {L0 : Array Slot} {Q : Option Value → Heap → List Addr → Prop} {ws : List Jvm.Cond} (hpn : plainName cls = true) (hef : ∀ m, entryFrame m as ml = mkF m 0 L0 []) (G : Go md l Z n0 R bytes ml ret cls name Q 0 0 sf h 0 L0 []) :
    MetFree l ⟨cls, name, desc⟩ (head1 (Jvm.Cond.code ⟨cls, name, desc⟩ bytes ml ret :: ws) R) (fun a U => a = as ∧ Z.Warmed39 U.vm ∧ U.heap = h ∧ Bok md Z n0 U sf U.vm h) (fun _ _ _ _ _ => True)
      (fun _ U o U' => ∃ (v : Option Value) (L' : List Loc) (sf' : List Addr), o = .returned v ∧ Q v U'.heap sf' ∧ Old Z n0 U'.heap ∧ Fr n0 L' ∧ SafeAll md Z sf' U'.vm U'.heap ∧ FinE md Z U o U' L' R.cells R.slots) := by
  refine MetFree.of_bodySF (plainFor_of_name hpn) hisR ?_
  intro p e s m args below meth c s₁ Bd hml0 hP hK
  obtain ⟨rfl, hZ, hh, hB⟩ := hP
  have X0 : Stand p l e R s m args below meth c s₁ [] 0 0 := Stand.of_body Bd
  have e0 : s₁.heap = h := by rw [← hh, Bd.state]; rfl
  have q := G p e s m args below meth c s.vm s₁ [] Bd.exec Bd.bytes hml0 Bd.returns (BodyLoose.notSynchronized Bd) (name_of_methodNamed Bd.named Bd.method).1 (by rw [← hZ.alike.findClass]; exact findClass_of_methodNamed Bd.named) X0 e0 hZ hB (Fr.nil n0)
  rw [hef]; exact q
theorem call_of_go {cls name desc : String} {as : Array Value} {L0 : Array Slot} {Q : Option Value → Heap → List Addr → Prop} {rm : Room} {len W : Nat} (hpn : plainName cls = true) (hef : ∀ m, entryFrame m as ml = mkF m 0 L0 []) (G : Go md l Z n0 rm bytes ml ret cls name Q 0 0 sf h 0 L0 [])
    (wc : (Jvm.Cond.code ⟨cls, name, desc⟩ bytes ml ret).before a0 Z = true) (wz : (Jvm.Cond.initialized cls).before a0 Z = true) (hf : rm.frames + 1 ≤ R.frames) (hl : W + (ml + 11) + rm.locals ≤ R.locals) :
    Call md l Z n0 R ⟨cls, name, desc⟩ len W as h sf rm.cells rm.slots Q := by
  have hM := met_of_go (desc := desc) (ws := []) hpn hef G
  intro p e below s vm0 sargs hZ B
  cases md with
  | none =>
    have hM' : MetFree l ⟨cls, name, desc⟩ (head1 [Jvm.Cond.code ⟨cls, name, desc⟩ bytes ml ret] rm) (fun a U => a = as ∧ Z.Warmed39 U.vm ∧ U.heap = h) (fun _ _ _ _ _ => True) (fun _ U o U' => ∃ v L, o = .returned v ∧ (fun v h' L => ∃ sf', Q v h' sf' ∧ Old Z n0 h' ∧ Fr n0 L) v U'.heap L ∧ FrameEnd U o U' L rm.cells rm.slots) :=
      fun p e ha hc hk s m args below hfr happ hP hK => by
        obtain ⟨n, o, h1, h2, h3, v, L', sf', e1, q1, q0, q2, -, q4⟩ := hM p e ha hc hk s m args below hfr happ ⟨hP.1, hP.2.1, hP.2.2, B.1, rfl⟩ hK
        exact ⟨n, o, h1, h2, h3, v, L', e1, ⟨sf', q1, q0, q2⟩, q4⟩
    have K := backOf (Q := fun v h' L => ∃ sf', Q v h' sf' ∧ Old Z n0 h' ∧ Fr n0 L) (R := R) (p := p) (e := e) (below := below) (s := s.setVm vm0) (args := sargs) (len := len) (W := W) hM' hZ wc wz hf hl
    intro m meth c A g ig mk a X hg hsize hdg hW hn hp
    obtain ⟨v, P, X', ⟨L', ⟨sf', q1, q0, q2⟩, q3, q4, q5⟩, st⟩ := K m meth c A g ig mk a X hg hsize hdg hW hn hp
    exact ⟨v, P, X', ⟨L', sf', q1, q0, q2, q3, q4, q5⟩, st⟩
  | some EL =>
    obtain ⟨b0, ⟨k, b1, b2⟩, ⟨a1, b3⟩, b4, b5⟩ := B
    exact BackS.of_freeW (bytes := bytes) (maxL := ml) (ret := ret) (E := fun _ first o t L k n => k = rm.cells ∧ n = rm.slots ∧ (∃ v sf', o = .returned v ∧ Q v t.heap sf' ∧ Old Z n0 t.heap ∧ Fr n0 L ∧ ∀ x ∈ sf', x < t.heap.size ∧ Safe Z EL t.vm t.heap x) ∧ CHr Z EL first.vm first.heap t.vm t.heap) hM hf hl
      (fun m meth c A a Y hp => have hU : Z.Warmed39 A.U.vm := wtrans (s := s.setVm vm0) hZ Y.warmed
        ⟨by show (Jvm.Cond.and _ .tt).before a A.U = true; rw [Cond.before_and, mv hU wc]; rfl, mv hU wc, mv hU wz, hp.2.2.1, hp.2.2.2⟩)
      (fun m meth c A a g mk Y hp => by
        have C := CHv.at Y hZ b3 b4.1
        exact ⟨hp.1, wtrans (s := s.setVm vm0) hZ Y.warmed, hp.2.1, b0, ⟨_, (State.WarmedH.refl _).since _, Nat.le_refl _⟩, ⟨a1, b3⟩, by show CHr Z EL A.U.vm A.U.heap A.U.vm h; rw [hp.2.1]; exact CHr.refl C.1, fun x hx => ⟨(b5 x hx).1, C.safe (b5 x hx).1 (b5 x hx).2⟩⟩)
      (fun _ _ _ _ _ _ _ _ _ => trivial)
      (fun _ _ _ _ ⟨v, L', sf', e1, q1, q0, q2, q3, q4, q5⟩ => ⟨L', _, _, q5, rfl, rfl, ⟨v, sf', e1, q1, q0, q2, q3⟩, q4⟩)
      (fun m meth c A a g mk v t L' k n Y hp _ _ ⟨e1, e2, ⟨v', sf', e3, q1, q0, q2, q3⟩, q4⟩ => by
        cases e3; subst e1 e2
        refine ⟨L', sf', q1, q0, q2, rfl, rfl, rfl, (CHv.at Y hZ b3 b4.1).trans ?_, q3⟩
        rw [← hp.2.1]; exact q4)
/-- a law of the library or of a pasted text, in backOf's shape -/
theorem call_of_back {y : MethodName} {as : Array Value} {len W kc ks : Nat} {QB : Option Value → Heap → List Loc → Prop} {Q : Option Value → Heap → List Addr → Prop} (ws : List Addr)
    (hB : ∀ (p : Program) (e : Env) (below : List Frame) (s : State) (sargs : Array Value), Z.Warmed39 s.vm → Back l R p e below s sargs y len W (fun A a => a = as ∧ A.U.heap = h ∧ A.cells + kc ≤ R.cells ∧ A.slots + ks ≤ R.slots) (fun A _ v B => ∃ L, QB v B.U.heap L ∧ B.locs = A.locs ++ L ∧ B.cells = A.cells + kc ∧ B.slots = A.slots + ks))
    (hQ : ∀ v h' L, QB v h' L → Fr n0 L ∧ Keep h h' ws ∧ Q v h' []) (hws : ∀ x ∈ ws, x ∈ sf) (hw0 : ∀ x ∈ ws, n0 ≤ x) : Call md l Z n0 R y len W as h sf kc ks Q := by
  intro p e below s vm0 sargs hZ B
  have K := hB p e below (s.setVm vm0) sargs hZ
  cases md with
  | none =>
    intro m meth c A g ig mk a X hg hsize hdg hW hn hp
    obtain ⟨v, P, X', ⟨L', q1, q3, q4, q5⟩, st⟩ := K m meth c A g ig mk a X hg hsize hdg hW hn hp
    obtain ⟨r1, r2, r3⟩ := hQ _ _ _ q1
    exact ⟨v, P, X', ⟨L', [], r3, B.1.keep r2 hw0, r1, q3, q4, q5⟩, st⟩
  | some EL =>
    obtain ⟨b0, ⟨k, b1, b2⟩, ⟨a1, b3⟩, b4, b5⟩ := B
    intro m meth c A g ig mk a X hg hsize hdg hW hn hp
    obtain ⟨v, P, X', ⟨L', q1, q3, q4, q5⟩, st⟩ := K m meth c A g ig mk a X hg hsize hdg hW hn hp
    obtain ⟨r1, r2, r3⟩ := hQ _ _ _ q1
    have C1 : CHr Z EL vm0 h vm0 P.U.heap := CHr.keep r2 (fun x hx => (b5 x (hws x hx)).2) b4.1
    have C2 : CHr Z EL vm0 P.U.heap P.U.vm P.U.heap := CHv.at X' hZ b3 C1.1
    exact ⟨v, P, X'.retabled X'.warmed.wide, X'.warmed.since _, by rw [hp.2.1]; exact r2.1, ⟨L', [], r3, b0.keep r2 hw0, r1, q3, q4, q5, C1.trans C2, fun x hx => nomatch hx⟩, st⟩
/-! String constants -/
theorem Go.ldcL {index : Nat} {text : String} {vs : List Value} {z : Int32} (n : Nat) (pc' : Nat) (hd : decode bytes pc = .ok (.ldc index, 2)) (hp : pc + 2 = pc') (w : (Jvm.Cond.stringLink own index text).before a0 Z = true) (wS : ∀ a ∈ Bundle.stringAtoms, a.before a0 Z = true) (hmem : (own, index) ∈ EL)
    (ht : (∀ c ∈ text.toList, c.toNat < 256) ∧ text.toList.map (fun c => Value.int (Jvm.Lit.byteI c.toNat.toUInt16)) = vs) (hz : ¬ z < 0) (hl : z.toNatClampNeg = vs.length) (hn : 4 * text.toList.length ≤ n) (hbig : n ≤ 536870912) (hc : cells + 2 ≤ R.cells) (hl' : slots + (n + 4) ≤ R.slots)
    (G : ∀ h' a b k, Ext h h' → Exa Z h' a "java/lang/String" → Fld Z h' a "java/lang/String" "coder" "B" (.int 0) → Fld Z h' a "java/lang/String" "value" "[B" (.ref b) → Arv Z h' b k .byte z vs (.int 0) → (∀ x ∈ sf, x ≠ a ∧ x ≠ b) → Go (some EL) l Z n0 R bytes ml ret own mn Ψ (cells + 2) (slots + (n + 4)) sf h' pc' L (.ref a :: S)) :
    Go (some EL) l Z n0 R bytes ml ret own mn Ψ cells slots sf h pc L S := by
  subst hp
  intro p e s m args below meth c vm0 T locs hx hby hml hr hlk hnm ho X eT hZ B N
  obtain ⟨b0, ⟨k0, b1, b2⟩, ⟨a1, b3⟩, b4, b5⟩ := B
  have hown : vm0.findClass own = some m.cls := by rw [hZ.alike.findClass]; exact ho
  obtain ⟨a, T', h', k1, b, k, X', e', E, hS, hk1, hZ', hown', x1, x2, x3, x4, x5, x6, C, -, hsf, st⟩ := ldcCH X hx hZ hown w wS eT b1 b2 b3 hmem b4.1 ht hz hl (g := mkF m pc L S) rfl (hb hby hd) hn hbig hc hl'
  obtain ⟨s₂, o, h1, r⟩ := G h' a b k E x1 x2 x3 x4 (fun x hx => hsf x (C.safe (b5 x hx).1 (b5 x hx).2)) p e s m args below meth c T'.vm T' locs hx hby hml hr hlk hnm ho X' e' hZ' ⟨b0.ext E, ⟨k1, hS, hk1⟩, ⟨a1, b3⟩, b4.trans C, fun x hx => ⟨Nat.lt_of_lt_of_le (b5 x hx).1 C.2.1, C.safe (b5 x hx).1 (b5 x hx).2⟩⟩ N
  exact ⟨s₂, o, st _ h1, r⟩
theorem ofNat_toInt {n : Nat} (q : n < 2147483648) : (Int32.ofNat n).toInt = (n : Int) := Int32.toInt_ofNat_of_lt (by omega)
theorem Ary.arv {a : Addr} {ty : FieldType} {vs : List Value} (A : Ary Z h a ty vs) (d : Value) : ∃ k, Arv Z h a k ty (Int32.ofNat vs.length) vs d := by
  obtain ⟨c, A, e1, e2, e3⟩ := A
  obtain ⟨q1, q2⟩ := clamp_of (ofNat_toInt e2)
  subst e1
  refine ⟨c.cls, c, A, rfl, by rw [q2]; simp, q1, fun k hk => ?_, fun i hi => ?_⟩
  · simp [List.getD, hk]
  · have : c.slots.toList.getD i d = c.slots[i] := by simp [List.getD, hi]
    rw [this]; exact e3 _ (by simp)
theorem Ary.ofArv {a : Addr} {ty : FieldType} {vs : List Value} {k : ClassId} {z : Int32} {d : Value} (A : Arv Z h a k ty z vs d) (hl : z.toNatClampNeg = vs.length) (hb31 : vs.length < 2147483648) : Ary Z h a ty vs := by
  obtain ⟨c, A, -, e2, -, e4, e5⟩ := A
  have hs : c.slots.size = vs.length := e2.trans hl
  have e1 : c.slots.toList = vs := by
    refine List.ext_getElem? fun i => ?_
    by_cases hi : i < vs.length
    · have := e4 i (by omega)
      simp only [List.getD, List.getElem?_eq_getElem hi, Option.getD_some] at this
      rw [List.getElem?_eq_getElem hi, ← this]; simp
    · rw [List.getElem?_eq_none (by simpa using by omega), List.getElem?_eq_none (by omega)]
  refine ⟨c, A, e1, hb31, fun v hv => ?_⟩
  obtain ⟨i, hi, rfl⟩ := List.mem_iff_getElem.mp hv
  have := e5 i (by omega)
  simpa [List.getD, List.getElem?_eq_getElem hi] using this
theorem fld_int {args : Array Value} {s : State} {t : Term} {O n d : String} {v : Int32} {a : Addr} (hv : (Jvm.Cond.eq (Term.field t O n d) (Term.int v)).value args s none s [] = some true) (ev : t.eval args s none [] s = some (.ref a)) : Fld s s.heap a O n d (.int v) := by
  obtain ⟨x, y, e1, e2, k1, k2⟩ := cmp_v (Or.inl hv)
  cases (Term.int_eval v).symm.trans e2
  obtain ⟨z, rfl⟩ := k2
  have := gotT (Cond.eq_ints e1 (Term.int_eval v)) hv
  subst this
  exact Fld.start ((fld_at ev).symm.trans e1)
theorem no_sub {C O K : String} {k : Nat} (w : (Jvm.Cond.superclass C O).before a0 Z = true) (w0 : (Jvm.Cond.noSuperclass O).before a0 Z = true) (wi : (Jvm.Cond.instantiable K k).before a0 Z = true) (hn : C ≠ K) (hn2 : O ≠ K) : ∃ c t, Z.vm.findClass C = some c ∧ Z.vm.findClass K = some t ∧ Z.vm.assignable c t = false := by
  obtain ⟨c, h0⟩ := found_sup w
  obtain ⟨p, kc, kp, h1, h2, h3, h4, h5, -, h7⟩ := Cond.superclass_spec h0 w
  obtain ⟨c', k', g1, g2, g3, -, -⟩ := Cond.noSuperclass_spec w0
  cases h1.symm.trans g1
  obtain ⟨t, kt, i1, i2, i3, i4, -⟩ := Cond.instantiable_spec wi
  have ne1 := ids_ne h0 i1 hn
  have ne2 := ids_ne g1 i1 hn2
  have i5 : kt.isInterface = false := by simp only [Bool.or_eq_false_iff] at i4; exact i4.1
  refine ⟨c, t, h0, i1, ?_⟩
  show Z.vm.assignableAux (255 + 1) c t = false
  have j1 : ∀ f, Z.vm.isSubclassAux f p t = false := fun f => by cases f <;> simp [Vm.isSubclassAux, ne2, g2, g3]
  have j2 : ∀ f, Z.vm.isSubclassAux f c t = false := fun f => by cases f <;> simp [Vm.isSubclassAux, ne1, h2, h4, j1]
  simp [Vm.assignableAux, ne1, h2, i2, h5, i3, i5, Vm.isSubclass, j2]
end G
end GK
end Jvm.Pilot.@@N@@
/- laws to paste: Road.backV (cut by pick.py; bodies as the Statement names them) -/
namespace Jvm.Pilot.@@N@@
namespace StrChars
open Jvm Sem ClassFile Op Lib Jvm.Stand Jvm.Free.XT Jvm.Free.ALB Jvm.Free.JM Jvm.Free
open Jvm.Lib.Cold (StaticIs)
/-- a char array whose places are chars -/
def Ch (a : Addr) (A : Cell) (U : State) : Prop := Arr .char a A U ∧ Typed .char A
theorem Ch.mv {a : Addr} {A : Cell} {U U' : State} (h : Ch a A U) (hal : U.vm.Alike U'.vm) (hh : U'.heap = U.heap) : Ch a A U' := ⟨h.1.mv hal hh, h.2⟩
theorem Ch.keep {a : Addr} {A : Cell} {U U' : State} (h : Ch a A U) (hal : U.vm.Alike U'.vm) (hk : U'.heap[a]? = some A) : Ch a A U' := ⟨h.1.keep hal hk, h.2⟩
/-- what place i of a char[]'s cell holds -/
def cv (A : Cell) (i : Nat) : Int32 := match A.slots[i]? with | some (.int x) => x | _ => 0
theorem Ch.get {a : Addr} {A : Cell} {U : State} (h : Ch a A U) {i : Nat} (hi : i < A.slots.size) : A.slots[i]? = some (.int (cv A i)) := by
  have e := Array.getElem?_eq_getElem hi
  have f := h.2 i _ e
  unfold cv; rw [e]
  generalize A.slots[i] = v at f
  cases v <;> simp [fits] at f ⊢
/-- the byte that i2b leaves of a char -/
def lo8 (x : Int32) : Int32 := x.toInt8.toInt32
theorem fits_lo8 (y : Int32) : fits .byte (.int (lo8 y)) = true := by
  have h1 := y.toInt8.le_toInt
  have h2 := y.toInt8.toInt_lt
  simp only [lo8, fits, Bool.and_eq_true, decide_eq_true_eq, Int32.le_iff_toInt_le, Int8.toInt_toInt32, show (-128 : Int32).toInt = -128 from by decide, show (127 : Int32).toInt = 127 from by decide]
  omega
/-- A' is A but that each place j of lo .. hi - 1 holds f j -/
def Laid (A A' : Cell) (lo hi : Nat) (f : Nat → Value) : Prop := A'.cls = A.cls ∧ A'.vm = A.vm ∧ A'.slots.size = A.slots.size ∧ ∀ i, A'.slots[i]? = if lo ≤ i ∧ i < hi then some (f i) else A.slots[i]?
theorem Laid.zero (A : Cell) (lo : Nat) (f : Nat → Value) : Laid A A lo (lo + 0) f := ⟨rfl, rfl, rfl, fun i => by rw [if_neg (by omega)]⟩
theorem Laid.step {A Ak : Cell} {lo k : Nat} {f : Nat → Value} {v : Value} (h : Laid A Ak lo k f) (hlo : lo ≤ k) (hk : k < Ak.slots.size) (hv : v = f k) : Laid A (Ak.setSlot k v) lo (k + 1) f := by
  refine ⟨h.1, h.2.1, by simpa [Cell.setSlot] using h.2.2.1, fun i => ?_⟩
  by_cases e : k = i
  · subst e; rw [Cell.slots_setSlot_self v hk, if_pos (by omega), hv]
  · rw [Cell.slots_setSlot_ne v e, h.2.2.2 i]
    by_cases q : lo ≤ i ∧ i < k
    · rw [if_pos q, if_pos (by omega)]
    · rw [if_neg q, if_neg (by omega)]
def U16 : String := "java/lang/StringUTF16"
namespace Cmp5
def yN : MethodName := ⟨"java/lang/StringUTF16", "compress", "([CI[BII)I"⟩
abbrev yB : ByteArray := jdk_52_method_21_code
theorem d0 : decode yB 0 = .ok (.iconst 0, 1) := by decide +kernel
theorem d1 : decode yB 1 = .ok (.istore 5, 2) := by decide +kernel
theorem d3 : decode yB 3 = .ok (.iload 5, 2) := by decide +kernel
theorem d5 : decode yB 5 = .ok (.iload 4, 2) := by decide +kernel
theorem d7 : decode yB 7 = .ok (.if_icmp (.ge) 37, 3) := by decide +kernel
theorem d10 : decode yB 10 = .ok (.aload_n 0, 1) := by decide +kernel
theorem d11 : decode yB 11 = .ok (.iload_n 1, 1) := by decide +kernel
theorem d12 : decode yB 12 = .ok (.caload, 1) := by decide +kernel
theorem d13 : decode yB 13 = .ok (.istore 6, 2) := by decide +kernel
theorem d15 : decode yB 15 = .ok (.iload 6, 2) := by decide +kernel
theorem d17 : decode yB 17 = .ok (.sipush 255, 3) := by decide +kernel
theorem d20 : decode yB 20 = .ok (.if_icmp (.le) 6, 3) := by decide +kernel
theorem d26 : decode yB 26 = .ok (.aload_n 2, 1) := by decide +kernel
theorem d27 : decode yB 27 = .ok (.iload_n 3, 1) := by decide +kernel
theorem d28 : decode yB 28 = .ok (.iload 6, 2) := by decide +kernel
theorem d30 : decode yB 30 = .ok (.i2b, 1) := by decide +kernel
theorem d31 : decode yB 31 = .ok (.bastore, 1) := by decide +kernel
theorem d32 : decode yB 32 = .ok (.iinc 1 1, 3) := by decide +kernel
theorem d35 : decode yB 35 = .ok (.iinc 3 1, 3) := by decide +kernel
theorem d38 : decode yB 38 = .ok (.iinc 5 1, 3) := by decide +kernel
theorem d41 : decode yB 41 = .ok (.goto (-38), 3) := by decide +kernel
theorem d44 : decode yB 44 = .ok (.iload 4, 2) := by decide +kernel
theorem d46 : decode yB 46 = .ok (.ireturn, 1) := by decide +kernel
def site : List Cond := []
def tab : Cond := tabOf yN yB 7 (some .int) site
def P (b : Addr) (A : Cell) (d : Addr) (B : Cell) (o q len : Nat) (args : Array Value) (s : State) : Prop := args = #[.ref b, .int (Int32.ofNat o), .ref d, .int (Int32.ofNat q), .int (Int32.ofNat len)] ∧ Ch b A s ∧ Arr .byte d B s ∧ b ≠ d ∧ o + len ≤ A.slots.size ∧ q + len ≤ B.slots.size ∧ ∀ i, i < len → ¬ 255 < cv A (o + i)
def E (b : Addr) (A : Cell) (d : Addr) (B : Cell) (o q len : Nat) (r : Option Value) (s u : State) : Prop := r = some (.int (Int32.ofNat len)) ∧ ∃ B', Put d B' s u ∧ Laid B B' q (q + len) (fun j => Value.int (lo8 (cv A (o + (j - q)))))
/-- no char of the range above 255: len; the places written hold each char's low byte -/
theorem law (l : Launch) (b : Addr) (A : Cell) (d : Addr) (B : Cell) (o q len : Nat) : Law l yN 5 5 0 0 yB 7 (some .int) site (P b A d B o q len) (E b A d B o q len) (copyLocs d q len) 0 0 := by
  refine Law.of_walk (plainFor_of_name (by decide +kernel)) (by decide +kernel) (by decide +kernel) (by decide) (fun _ _ h => by rw [h.1]; rfl) (fun _ U U' hal hh h => ⟨h.1, h.2.1.mv hal hh, h.2.2.1.mv hal hh, h.2.2.2⟩) (fun r U U' V V' h1 hal h2 h => ⟨h.1, h.2.elim fun B' q => ⟨B', q.1.mv h1 h2, q.2⟩⟩) ?_
  intro p e s m args below meth c s₁ X0 hexec hbytes hml hret hlk hnm hown hh0 W hP
  obtain ⟨rfl, hA, hB, hne, l1, l2, hp⟩ := hP
  have c1 : Steps p.tables e below (s₁.setTop (entryFrame m #[.ref b, .int (Int32.ofNat o), .ref d, .int (Int32.ofNat q), .int (Int32.ofNat len)] 7)) (s₁.setTop (mkF m 0 #[.val (.ref b), .val (.int (Int32.ofNat o)), .val (.ref d), .val (.int (Int32.ofNat q)), .val (.int (Int32.ofNat len)), .unset, .unset] [])) := entry rfl
  have hA0 := hA.1.mv X0.warmed.alike hh0
  have hB0 := hB.mv X0.warmed.alike hh0
  have a31 := hA.1.2.2.2
  have c2 : Steps p.tables e below (s₁.setTop (entryFrame m #[.ref b, .int (Int32.ofNat o), .ref d, .int (Int32.ofNat q), .int (Int32.ofNat len)] 7)) (s₁.setTop (mkF m 3 #[.val (.ref b), .val (.int (Int32.ofNat o)), .val (.ref d), .val (.int (Int32.ofNat q)), .val (.int (Int32.ofNat len)), .val (.int 0), .unset] [])) := c1.trans (by
    refine iconstV X0.here hexec rfl 0 (hb hbytes d0) (by decide) ?_
    refine XS.istore X0.here hexec rfl (hb hbytes d1) rfl rfl ?_
    exact Steps.refl _)
  have loop : ∀ (r i : Nat), i + r = len → ∀ (z : Slot), (z = .unset ∨ ∃ w, z = .val w ∧ w.category = 1) → ∀ (Tl : State) (Bk : Cell), Stand p l e { frames := 0, locals := 0, cells := 0, slots := 0 } s m #[.ref b, .int (Int32.ofNat o), .ref d, .int (Int32.ofNat q), .int (Int32.ofNat len)] below meth c Tl ([] ++ copyLocs d q i) 0 0 → Put d Bk s₁ Tl → Laid B Bk q (q + i) (fun j => Value.int (lo8 (cv A (o + (j - q))))) →
      Steps p.tables e below (s₁.setTop (entryFrame m #[.ref b, .int (Int32.ofNat o), .ref d, .int (Int32.ofNat q), .int (Int32.ofNat len)] 7)) (Tl.setTop (mkF m 3 #[.val (.ref b), .val (.int (Int32.ofNat (o + i))), .val (.ref d), .val (.int (Int32.ofNat (q + i))), .val (.int (Int32.ofNat len)), .val (.int (Int32.ofNat i)), z] [])) → ∃ (T' : State) (B' : Cell) (z' : Slot), Stand p l e { frames := 0, locals := 0, cells := 0, slots := 0 } s m #[.ref b, .int (Int32.ofNat o), .ref d, .int (Int32.ofNat q), .int (Int32.ofNat len)] below meth c T' ([] ++ copyLocs d q len) 0 0 ∧ Put d B' s₁ T' ∧ Laid B B' q (q + len) (fun j => Value.int (lo8 (cv A (o + (j - q))))) ∧
      Steps p.tables e below (s₁.setTop (entryFrame m #[.ref b, .int (Int32.ofNat o), .ref d, .int (Int32.ofNat q), .int (Int32.ofNat len)] 7)) (T'.setTop (mkF m 3 #[.val (.ref b), .val (.int (Int32.ofNat (o + len))), .val (.ref d), .val (.int (Int32.ofNat (q + len))), .val (.int (Int32.ofNat len)), .val (.int (Int32.ofNat len)), z'] [])) := by
    intro r
    induction r with
    | zero =>
      intro i hi z hz Tl Bk Xl pl fl cl
      have hil : i = len := by omega
      rw [hil] at Xl fl cl
      exact ⟨Tl, Bk, z, Xl, pl, fl, cl⟩
    | succ r ih =>
      intro i hi z hz Tl Bk Xl pl fl cl
      have all := X0.warmed.alike.symm.trans Xl.warmed.alike
      have hAl := hA0.keep all (pl.other hne hA0.1)
      have hBk := hB0.like all pl.1 fl.1 fl.2.1 fl.2.2.1
      have hlt : q + i < Bk.slots.size := by rw [fl.2.2.1]; omega
      have c3 : Steps p.tables e below (s₁.setTop (entryFrame m #[.ref b, .int (Int32.ofNat o), .ref d, .int (Int32.ofNat q), .int (Int32.ofNat len)] 7)) (Tl.setTop (mkF m 12 #[.val (.ref b), .val (.int (Int32.ofNat (o + i))), .val (.ref d), .val (.int (Int32.ofNat (q + i))), .val (.int (Int32.ofNat len)), .val (.int (Int32.ofNat i)), z] [.int (Int32.ofNat (o + i)), .ref b])) := cl.trans (by
        refine XS.iload Xl.here hexec rfl (hb hbytes d3) rfl ?_
        refine XS.iload Xl.here hexec rfl (hb hbytes d5) rfl ?_
        refine XS.icmpNo Xl.here hexec rfl (hb hbytes d7) rfl (ii_ge_f (lt32 (by omega) (by omega))) ?_
        refine XS.aloadN Xl.here hexec rfl (hb hbytes d10) rfl rfl ?_
        refine XS.iloadN Xl.here hexec rfl (hb hbytes d11) rfl ?_
        exact Steps.refl _)
      have c4 : Steps p.tables e below (s₁.setTop (entryFrame m #[.ref b, .int (Int32.ofNat o), .ref d, .int (Int32.ofNat q), .int (Int32.ofNat len)] 7)) (Tl.setTop (mkF m 13 #[.val (.ref b), .val (.int (Int32.ofNat (o + i))), .val (.ref d), .val (.int (Int32.ofNat (q + i))), .val (.int (Int32.ofNat len)), .val (.int (Int32.ofNat i)), z] [.int (cv A (o + i))])) := c3.trans (by
        refine Xl.aget hexec hAl rfl (hA.get (i := o + i) (by omega)) rfl rfl (hb hbytes d12) ?_
        exact Steps.refl _)
      have c5 : Steps p.tables e below (s₁.setTop (entryFrame m #[.ref b, .int (Int32.ofNat o), .ref d, .int (Int32.ofNat q), .int (Int32.ofNat len)] 7)) (Tl.setTop (mkF m 15 #[.val (.ref b), .val (.int (Int32.ofNat (o + i))), .val (.ref d), .val (.int (Int32.ofNat (q + i))), .val (.int (Int32.ofNat len)), .val (.int (Int32.ofNat i)), .val (.int (cv A (o + i)))] [])) := c4.trans (by
        refine XS.istoreS Xl.here hexec rfl (hb hbytes d13) rfl rfl hz ?_
        exact Steps.refl _)
      have c6 : Steps p.tables e below (s₁.setTop (entryFrame m #[.ref b, .int (Int32.ofNat o), .ref d, .int (Int32.ofNat q), .int (Int32.ofNat len)] 7)) (Tl.setTop (mkF m 31 #[.val (.ref b), .val (.int (Int32.ofNat (o + i))), .val (.ref d), .val (.int (Int32.ofNat (q + i))), .val (.int (Int32.ofNat len)), .val (.int (Int32.ofNat i)), .val (.int (cv A (o + i)))] [.int (lo8 (cv A (o + i))), .int (Int32.ofNat (q + i)), .ref d])) := c5.trans (by
        refine XS.iload Xl.here hexec rfl (hb hbytes d15) rfl ?_
        refine sipushV Xl.here hexec rfl 255 (hb hbytes d17) (by decide) ?_
        refine XS.icmpYes Xl.here hexec rfl (pc0 := 20) rfl (hb hbytes d20) rfl (ii_le_t (hp i (by omega))) (by decide) rfl ?_
        refine XS.aloadN Xl.here hexec rfl (hb hbytes d26) rfl rfl ?_
        refine XS.iloadN Xl.here hexec rfl (hb hbytes d27) rfl ?_
        refine XS.iload Xl.here hexec rfl (hb hbytes d28) rfl ?_
        refine i2b Xl.here hexec rfl (hb hbytes d30) rfl ?_
        exact Steps.refl _)
      obtain ⟨T7, X7, p7, st7⟩ := Xl.aput hexec hBk rfl hlt rfl (fits_lo8 (cv A (o + i))) (g := (mkF m 31 #[.val (.ref b), .val (.int (Int32.ofNat (o + i))), .val (.ref d), .val (.int (Int32.ofNat (q + i))), .val (.int (Int32.ofNat len)), .val (.int (Int32.ofNat i)), .val (.int (cv A (o + i)))] [.int (lo8 (cv A (o + i))), .int (Int32.ofNat (q + i)), .ref d])) rfl (rest := []) rfl (hb hbytes d31)
      have c8 : Steps p.tables e below (s₁.setTop (entryFrame m #[.ref b, .int (Int32.ofNat o), .ref d, .int (Int32.ofNat q), .int (Int32.ofNat len)] 7)) (T7.setTop (mkF m 32 #[.val (.ref b), .val (.int (Int32.ofNat (o + i))), .val (.ref d), .val (.int (Int32.ofNat (q + i))), .val (.int (Int32.ofNat len)), .val (.int (Int32.ofNat i)), .val (.int (cv A (o + i)))] [])) := c6.trans (st7 _ (Steps.refl _))
      have c9 : Steps p.tables e below (s₁.setTop (entryFrame m #[.ref b, .int (Int32.ofNat o), .ref d, .int (Int32.ofNat q), .int (Int32.ofNat len)] 7)) (T7.setTop (mkF m 3 #[.val (.ref b), .val (.int (Int32.ofNat (o + i) + 1)), .val (.ref d), .val (.int (Int32.ofNat (q + i) + 1)), .val (.int (Int32.ofNat len)), .val (.int (Int32.ofNat i + 1)), .val (.int (cv A (o + i)))] [])) := c8.trans (by
        refine iincV X7.here hexec rfl 1 (hb hbytes d32) (by decide) rfl rfl ?_
        refine iincV X7.here hexec rfl 1 (hb hbytes d35) (by decide) rfl rfl ?_
        refine iincV X7.here hexec rfl 1 (hb hbytes d38) (by decide) rfl rfl ?_
        refine XS.goto X7.here hexec rfl (pc0 := 41) rfl (hb hbytes d41) (by decide) rfl ?_
        exact Steps.refl _)
      have c10 : Steps p.tables e below (s₁.setTop (entryFrame m #[.ref b, .int (Int32.ofNat o), .ref d, .int (Int32.ofNat q), .int (Int32.ofNat len)] 7)) (T7.setTop (mkF m 3 #[.val (.ref b), .val (.int (Int32.ofNat (o + (i + 1)))), .val (.ref d), .val (.int (Int32.ofNat (q + (i + 1)))), .val (.int (Int32.ofNat len)), .val (.int (Int32.ofNat (i + 1))), .val (.int (cv A (o + i)))] [])) := by
        have := c9
        rw [succ32, succ32, succ32] at this
        exact this
      exact ih (i + 1) (by omega) _ (Or.inr ⟨_, rfl, rfl⟩) T7 _ (by rw [copyLocs_step, ← List.append_assoc]; exact X7) (pl.trans p7) (fl.step (by omega) hlt (by simp)) c10
  obtain ⟨T9, B9, z9, X9, p9, f9, g9⟩ := loop len 0 (by omega) .unset (Or.inl rfl) s₁ B (by simpa [copyLocs] using X0) ⟨hB0.1, fun _ _ => rfl, rfl⟩ (Laid.zero _ _ _) c2
  have c11 : Steps p.tables e below (s₁.setTop (entryFrame m #[.ref b, .int (Int32.ofNat o), .ref d, .int (Int32.ofNat q), .int (Int32.ofNat len)] 7)) (T9.setTop (mkF m 46 #[.val (.ref b), .val (.int (Int32.ofNat (o + len))), .val (.ref d), .val (.int (Int32.ofNat (q + len))), .val (.int (Int32.ofNat len)), .val (.int (Int32.ofNat len)), z9] [.int (Int32.ofNat len)])) := g9.trans (by
    refine XS.iload X9.here hexec rfl (hb hbytes d3) rfl ?_
    refine XS.iload X9.here hexec rfl (hb hbytes d5) rfl ?_
    refine XS.icmpYes X9.here hexec rfl (pc0 := 7) rfl (hb hbytes d7) rfl (ii_ge_t (nlt32 (by omega) (Nat.le_refl _))) (by decide) rfl ?_
    refine XS.iload X9.here hexec rfl (hb hbytes d44) rfl ?_
    exact Steps.refl _)
  exact ⟨T9, some (.int (Int32.ofNat len)), _, _, _, X9, by simp, rfl, rfl, (fun h => by cases h), ⟨rfl, B9, p9.from hh0, f9⟩, fun fs hl => c11.trans (X9.ireturnOut hexec hret rfl (Or.inl rfl) (hb hbytes d46) hl)⟩
end Cmp5
namespace Cmp3
def yN : MethodName := ⟨"java/lang/StringUTF16", "compress", "([CII)[B"⟩
abbrev yB : ByteArray := jdk_52_method_16_code
theorem d0 : decode yB 0 = .ok (.iload_n 2, 1) := by decide +kernel
theorem d1 : decode yB 1 = .ok (.newarray .byte, 2) := by decide +kernel
theorem d3 : decode yB 3 = .ok (.astore_n 3, 1) := by decide +kernel
theorem d4 : decode yB 4 = .ok (.aload_n 0, 1) := by decide +kernel
theorem d5 : decode yB 5 = .ok (.iload_n 1, 1) := by decide +kernel
theorem d6 : decode yB 6 = .ok (.aload_n 3, 1) := by decide +kernel
theorem d7 : decode yB 7 = .ok (.iconst 0, 1) := by decide +kernel
theorem d8 : decode yB 8 = .ok (.iload_n 2, 1) := by decide +kernel
theorem d9 : decode yB 9 = .ok (.invokestatic 115, 3) := by decide +kernel
theorem d12 : decode yB 12 = .ok (.istore 4, 2) := by decide +kernel
theorem d14 : decode yB 14 = .ok (.iload 4, 2) := by decide +kernel
theorem d16 : decode yB 16 = .ok (.iload_n 2, 1) := by decide +kernel
theorem d17 : decode yB 17 = .ok (.if_icmp (.eq) 40, 3) := by decide +kernel
theorem d57 : decode yB 57 = .ok (.aload_n 3, 1) := by decide +kernel
theorem d58 : decode yB 58 = .ok (.areturn, 1) := by decide +kernel
def site : List Cond := [.arrayClass .byte, Cmp5.tab] ++ staticW U16 115 Cmp5.yN
def tab : Cond := tabOf yN yB 6 (some (.array .byte)) site
def P (b : Addr) (A : Cell) (o len : Nat) (args : Array Value) (s : State) : Prop := args = #[.ref b, .int (Int32.ofNat o), .int (Int32.ofNat len)] ∧ Ch b A s ∧ o + len ≤ A.slots.size ∧ len ≤ 536870912 ∧ ∀ i, i < len → ¬ 255 < cv A (o + i)
def E (b : Addr) (A : Cell) (o len : Nat) (r : Option Value) (s u : State) : Prop := NewArr .byte "[B" len (fun j => .int (lo8 (cv A (o + j)))) r s u ∧ u.heap.size = s.heap.size + 1
/-- no char of the range above 255: a new byte[] of their low bytes -/
theorem law (l : Launch) (b : Addr) (A : Cell) (o len : Nat) : Law l yN 3 3 1 18 yB 6 (some (.array .byte)) site (P b A o len) (E b A o len) [] 1 len := by
  refine Law.of_walk (plainFor_of_name (by decide +kernel)) (by decide +kernel) (by decide +kernel) (by decide) (fun _ _ h => by rw [h.1]; rfl) (fun _ U U' hal hh h => ⟨h.1, h.2.1.mv hal hh, h.2.2⟩) (fun r U U' V V' h1 hal h2 h => ⟨NewArr.mv r U U' V V' h1 hal h2 h.1, by rw [h1, h2]; exact h.2⟩) ?_
  intro p e s m args below meth c s₁ X0 hexec hbytes hml hret hlk hnm hown hh0 W hP
  obtain ⟨rfl, hA, l1, l2, hp⟩ := hP
  have a31 := hA.1.2.2.2
  have c1 : Steps p.tables e below (s₁.setTop (entryFrame m #[.ref b, .int (Int32.ofNat o), .int (Int32.ofNat len)] 6)) (s₁.setTop (mkF m 0 #[.val (.ref b), .val (.int (Int32.ofNat o)), .val (.int (Int32.ofNat len)), .unset, .unset, .unset] [])) := entry rfl
  have c2 : Steps p.tables e below (s₁.setTop (entryFrame m #[.ref b, .int (Int32.ofNat o), .int (Int32.ofNat len)] 6)) (s₁.setTop (mkF m 1 #[.val (.ref b), .val (.int (Int32.ofNat o)), .val (.int (Int32.ofNat len)), .unset, .unset, .unset] [.int (Int32.ofNat len)])) := c1.trans (by
    refine XS.iloadN X0.here hexec rfl (hb hbytes d0) rfl ?_
    exact Steps.refl _)
  obtain ⟨T3, B3, X3, ba3, bs3, bv3, bh3, bf3, st3⟩ := X0.anew hexec (atype := .byte) (wk W (.arrayClass .byte)) rfl (by show len * 1 ≤ _; omega) (by omega) (g := (mkF m 1 #[.val (.ref b), .val (.int (Int32.ofNat o)), .val (.int (Int32.ofNat len)), .unset, .unset, .unset] [.int (Int32.ofNat len)])) rfl (hb hbytes d1) (rest := []) rfl (Nat.le_refl _) (by show 0 + len ≤ len; omega)
  rw [hh0] at ba3 st3
  have kp3 : XT.Kept s T3 := (XT.Kept.of_eq hh0).push bh3
  have hA3 := hA.keep X3.warmed.alike (kp3 _ _ hA.1.1)
  have hne : b ≠ s.heap.size := hA.1.ne
  have c4 : Steps p.tables e below (s₁.setTop (entryFrame m #[.ref b, .int (Int32.ofNat o), .int (Int32.ofNat len)] 6)) (T3.setTop (mkF m 3 #[.val (.ref b), .val (.int (Int32.ofNat o)), .val (.int (Int32.ofNat len)), .unset, .unset, .unset] [.ref s.heap.size])) := c2.trans (st3 _ (Steps.refl _))
  have c5 : Steps p.tables e below (s₁.setTop (entryFrame m #[.ref b, .int (Int32.ofNat o), .int (Int32.ofNat len)] 6)) (T3.setTop (mkF m 9 #[.val (.ref b), .val (.int (Int32.ofNat o)), .val (.int (Int32.ofNat len)), .val (.ref s.heap.size), .unset, .unset] [.int (Int32.ofNat len), .int 0, .ref s.heap.size, .int (Int32.ofNat o), .ref b])) := c4.trans (by
    refine XS.astoreN X3.here hexec rfl (hb hbytes d3) rfl rfl rfl ?_
    refine XS.aloadN X3.here hexec rfl (hb hbytes d4) rfl rfl ?_
    refine XS.iloadN X3.here hexec rfl (hb hbytes d5) rfl ?_
    refine XS.aloadN X3.here hexec rfl (hb hbytes d6) rfl rfl ?_
    refine iconstV X3.here hexec rfl 0 (hb hbytes d7) (by decide) ?_
    refine XS.iloadN X3.here hexec rfl (hb hbytes d8) rfl ?_
    exact Steps.refl _)
  obtain ⟨v6, T6, X6, E6, g6⟩ := X3.callS hexec (Cmp5.law l b A s.heap.size B3 o 0 len) hown (wks W (staticW U16 115 Cmp5.yN)) (wk W Cmp5.tab) (W := 0) (Nat.le_of_ble_eq_true rfl) (Nat.le_of_ble_eq_true rfl) (Nat.le_refl _) (by show 0 + len + 0 ≤ len; omega) (g := (mkF m 9 #[.val (.ref b), .val (.int (Int32.ofNat o)), .val (.int (Int32.ofNat len)), .val (.ref s.heap.size), .unset, .unset] [.int (Int32.ofNat len), .int (Int32.ofNat 0), .ref s.heap.size, .int (Int32.ofNat o), .ref b])) rfl (by rw [hml]; rfl) c5 (argsL := [.ref b, .int (Int32.ofNat o), .ref s.heap.size, .int (Int32.ofNat 0), .int (Int32.ofNat len)]) (rest := []) rfl rfl (by show 2 * 0 + 0 ≤ _; decide) (hb hbytes d9) (⟨rfl, hA3, ba3, hne, l1, by rw [bs3]; simp, hp⟩)
  obtain ⟨rfl, B6, p6, f6⟩ := E6
  have c7 : Steps p.tables e below (s₁.setTop (entryFrame m #[.ref b, .int (Int32.ofNat o), .int (Int32.ofNat len)] 6)) (T6.setTop (mkF m 12 #[.val (.ref b), .val (.int (Int32.ofNat o)), .val (.int (Int32.ofNat len)), .val (.ref s.heap.size), .unset, .unset] [.int (Int32.ofNat len)])) := g6
  have c8 : Steps p.tables e below (s₁.setTop (entryFrame m #[.ref b, .int (Int32.ofNat o), .int (Int32.ofNat len)] 6)) (T6.setTop (mkF m 58 #[.val (.ref b), .val (.int (Int32.ofNat o)), .val (.int (Int32.ofNat len)), .val (.ref s.heap.size), .val (.int (Int32.ofNat len)), .unset] [.ref s.heap.size])) := c7.trans (by
    refine XS.istore X6.here hexec rfl (hb hbytes d12) rfl rfl ?_
    refine XS.iload X6.here hexec rfl (hb hbytes d14) rfl ?_
    refine XS.iloadN X6.here hexec rfl (hb hbytes d16) rfl ?_
    refine XS.icmpYes X6.here hexec rfl (pc0 := 17) rfl (hb hbytes d17) rfl (ii_eq_t rfl) (by decide) rfl ?_
    refine XS.aloadN X6.here hexec rfl (hb hbytes d57) rfl rfl ?_
    exact Steps.refl _)
  have X8 := X6.wide (L' := []) (cells' := 1) (slots' := len) (fun x hx hlt => by
    simp only [List.nil_append, copyLocs, List.mem_map, List.mem_range] at hx
    obtain ⟨i, -, rfl⟩ := hx
    exact absurd hlt (Nat.lt_irrefl _)) (Nat.le_refl _) (by omega)
  exact ⟨T6, some (.ref s.heap.size), _, _, _, X8, rfl, rfl, rfl, (fun h => by cases h), ⟨⟨rfl, B6, ba3.like (X3.warmed.alike.symm.trans X6.warmed.alike) p6.1 f6.1 f6.2.1 f6.2.2.1, f6.2.1.trans bv3, by rw [X6.warmed.alike.findClass, f6.1]; exact bf3, by rw [f6.2.2.1, bs3]; simp, fun j hj => by rw [f6.2.2.2 j, if_pos (by omega)]; rfl, kp3.put p6 (Nat.le_refl _)⟩, by rw [p6.2.2, bh3, hh0]; simp⟩, fun fs hl => c8.trans (X8.areturnOut hexec rfl hret rfl (hb hbytes d58) hl)⟩
end Cmp3
namespace CodL
def yN : MethodName := ⟨"java/lang/StringUTF16", "coderFromArrayLen", "([BI)B"⟩
abbrev yB : ByteArray := jdk_52_method_15_code
theorem d0 : decode yB 0 = .ok (.iload_n 1, 1) := by decide +kernel
theorem d1 : decode yB 1 = .ok (.aload_n 0, 1) := by decide +kernel
theorem d2 : decode yB 2 = .ok (.arraylength, 1) := by decide +kernel
theorem d3 : decode yB 3 = .ok (.isub, 1) := by decide +kernel
theorem d4 : decode yB 4 = .ok (.bipush 31, 2) := by decide +kernel
theorem d6 : decode yB 6 = .ok (.iushr, 1) := by decide +kernel
theorem d7 : decode yB 7 = .ok (.i2b, 1) := by decide +kernel
theorem d8 : decode yB 8 = .ok (.ireturn, 1) := by decide +kernel
def site : List Cond := []
def tab : Cond := tabOf yN yB 2 (some .byte) site
def P (d : Addr) (B : Cell) (args : Array Value) (s : State) : Prop := args = #[.ref d, .int (Int32.ofNat B.slots.size)] ∧ Arr .byte d B s
def E (r : Option Value) (s u : State) : Prop := XT.PureE (some (.int 0)) r s u
/-- an array as long as the number of chars: LATIN1 -/
theorem law (l : Launch) (d : Addr) (B : Cell) : Law l yN 2 2 0 0 yB 2 (some .byte) site (P d B) E [] 0 0 := by
  refine Law.of_walk (plainFor_of_name (by decide +kernel)) (by decide +kernel) (by decide +kernel) (by decide) (fun _ _ h => by rw [h.1]; rfl) (fun _ U U' hal hh h => ⟨h.1, h.2.mv hal hh⟩) (fun r U U' V V' h1 hal h2 h => XT.PureE.mv r U U' V V' h1 hal h2 h) ?_
  intro p e s m args below meth c s₁ X0 hexec hbytes hml hret hlk hnm hown hh0 W hP
  obtain ⟨rfl, hB⟩ := hP
  have hB0 := hB.mv X0.warmed.alike hh0
  have c1 : Steps p.tables e below (s₁.setTop (entryFrame m #[.ref d, .int (Int32.ofNat B.slots.size)] 2)) (s₁.setTop (mkF m 0 #[.val (.ref d), .val (.int (Int32.ofNat B.slots.size))] [])) := entry rfl
  have c2 : Steps p.tables e below (s₁.setTop (entryFrame m #[.ref d, .int (Int32.ofNat B.slots.size)] 2)) (s₁.setTop (mkF m 2 #[.val (.ref d), .val (.int (Int32.ofNat B.slots.size))] [.ref d, .int (Int32.ofNat B.slots.size)])) := c1.trans (by
    refine XS.iloadN X0.here hexec rfl (hb hbytes d0) rfl ?_
    refine XS.aloadN X0.here hexec rfl (hb hbytes d1) rfl rfl ?_
    exact Steps.refl _)
  have c3 : Steps p.tables e below (s₁.setTop (entryFrame m #[.ref d, .int (Int32.ofNat B.slots.size)] 2)) (s₁.setTop (mkF m 8 #[.val (.ref d), .val (.int (Int32.ofNat B.slots.size))] [.int (lo8 (ushr (Int32.ofNat B.slots.size - Int32.ofNat B.slots.size) 31))])) := c2.trans (by
    refine X0.alen hexec hB0 rfl rfl (hb hbytes d2) ?_
    refine XS.isub X0.here hexec rfl (hb hbytes d3) rfl ?_
    refine bipushV X0.here hexec rfl 31 (hb hbytes d4) (by decide) ?_
    refine iushr X0.here hexec rfl (hb hbytes d6) rfl ?_
    refine i2b X0.here hexec rfl (hb hbytes d7) rfl ?_
    exact Steps.refl _)
  have e0 : lo8 (ushr (Int32.ofNat B.slots.size - Int32.ofNat B.slots.size) 31) = 0 := by rw [Int32.sub_self]; decide
  rw [e0] at c3
  exact ⟨s₁, some (.int 0), _, _, _, X0, rfl, rfl, rfl, (fun h => by cases h), ⟨rfl, hh0⟩, fun fs hl => c3.trans (X0.ireturnOut hexec hret rfl (Or.inr (Or.inr (Or.inl rfl))) (hb hbytes d8) hl)⟩
end CodL
/-- the String at a is Latin-1 over a new byte[] (the heap's one new cell): the low bytes of the len chars of A from o on; every cell but a is kept -/
def Got (a : Addr) (D : Cell) (fV fC : Field) (A : Cell) (o len : Nat) (r : Option Value) (s u : State) : Prop := r = none ∧ ∃ D' V : Cell, Blank "java/lang/String" a D' u ∧ Same D D' [fV.slot, fC.slot] ∧ D'.slots[fV.slot]? = some (.ref s.heap.size) ∧ D'.slots[fC.slot]? = some (.int 0) ∧ Arr .byte s.heap.size V u ∧ V.vm = .none ∧ u.vm.findClass "[B" = some V.cls ∧ V.slots.size = len ∧ (∀ j, j < len → V.slots[j]? = some (.int (lo8 (cv A (o + j))))) ∧ (∀ (y : Addr) (c : Cell), y ≠ a → s.heap[y]? = some c → u.heap[y]? = some c) ∧ u.heap.size = s.heap.size + 1
theorem Got.mv {a : Addr} {D A : Cell} {fV fC : Field} {o len : Nat} : ∀ r (U U' V V' : State), U'.heap = U.heap → V.vm.Alike V'.vm → V'.heap = V.heap → Got a D fV fC A o len r U V → Got a D fV fC A o len r U' V' :=
  fun r U U' V V' h1 hal h2 ⟨e0, D', X, a1, a2, a3, a4, a5, a6, a7, a8, a9, a10, a11⟩ => ⟨e0, D', X, a1.mv hal h2, a2, by rw [h1]; exact a3, a4, by rw [h1]; exact a5.mv hal h2, a6, by rw [hal.findClass]; exact a7, a8, a9, by rw [h1, h2]; exact a10, by rw [h1, h2]; exact a11⟩
namespace New4
def yN : MethodName := ⟨"java/lang/String", "<init>", "([CIILjava/lang/Void;)V"⟩
abbrev yB : ByteArray := jdk_42_method_149_code
theorem d0 : decode yB 0 = .ok (.aload_n 0, 1) := by decide +kernel
theorem d1 : decode yB 1 = .ok (.invokespecial 1, 3) := by decide +kernel
theorem d4 : decode yB 4 = .ok (.iload_n 3, 1) := by decide +kernel
theorem d5 : decode yB 5 = .ok (.ifCond (.ne) 22, 3) := by decide +kernel
theorem d27 : decode yB 27 = .ok (.getstatic 38, 3) := by decide +kernel
theorem d30 : decode yB 30 = .ok (.ifCond (.eq) 28, 3) := by decide +kernel
theorem d33 : decode yB 33 = .ok (.aload_n 1, 1) := by decide +kernel
theorem d34 : decode yB 34 = .ok (.iload_n 2, 1) := by decide +kernel
theorem d35 : decode yB 35 = .ok (.iload_n 3, 1) := by decide +kernel
theorem d36 : decode yB 36 = .ok (.invokestatic 177, 3) := by decide +kernel
theorem d39 : decode yB 39 = .ok (.astore 5, 2) := by decide +kernel
theorem d41 : decode yB 41 = .ok (.aload_n 0, 1) := by decide +kernel
theorem d42 : decode yB 42 = .ok (.aload 5, 2) := by decide +kernel
theorem d44 : decode yB 44 = .ok (.iload_n 3, 1) := by decide +kernel
theorem d45 : decode yB 45 = .ok (.invokestatic 47, 3) := by decide +kernel
theorem d48 : decode yB 48 = .ok (.putfield 15, 3) := by decide +kernel
theorem d51 : decode yB 51 = .ok (.aload_n 0, 1) := by decide +kernel
theorem d52 : decode yB 52 = .ok (.aload 5, 2) := by decide +kernel
theorem d54 : decode yB 54 = .ok (.putfield 9, 3) := by decide +kernel
theorem d57 : decode yB 57 = .ok (.return_, 1) := by decide +kernel
def site : List Cond := [.fieldLink "java/lang/String" 38 "java/lang/String" "COMPACT_STRINGS" "Z", Cmp3.tab, CodL.tab, .laysFinal "java/lang/String" "java/lang/String" "value" "[B", .fieldLink "java/lang/String" 9 "java/lang/String" "value" "[B", .laysFinal "java/lang/String" "java/lang/String" "coder" "B", .fieldLink "java/lang/String" 15 "java/lang/String" "coder" "B"] ++ objW "java/lang/String" 1 ++ staticW "java/lang/String" 177 Cmp3.yN ++ staticW "java/lang/String" 47 CodL.yN
def tab : Cond := tabOf yN yB 6 none site
def P (a : Addr) (D : Cell) (fV fC : Field) (b : Addr) (A : Cell) (z : Int32) (o len : Nat) (args : Array Value) (s : State) : Prop := args = #[.ref a, .ref b, .int (Int32.ofNat o), .int (Int32.ofNat len), .null] ∧ Blank "java/lang/String" a D s ∧ Found "java/lang/String" "value" "[B" fV s ∧ Found "java/lang/String" "coder" "B" fC s ∧ Ch b A s ∧ StaticIs s "java/lang/String" "COMPACT_STRINGS" "Z" (.int z) ∧ ¬ z = 0 ∧ 0 < len ∧ o + len ≤ A.slots.size ∧ len ≤ 536870912 ∧ ∀ i, i < len → ¬ 255 < cv A (o + i)
def E (a : Addr) (D : Cell) (fV fC : Field) (A : Cell) (o len : Nat) (r : Option Value) (s u : State) : Prop := Got a D fV fC A o len r s u
/-- len > 0, no char of the range above 255: a Latin-1 String of their low bytes -/
theorem law (l : Launch) (a : Addr) (D : Cell) (fV fC : Field) (b : Addr) (A : Cell) (z : Int32) (o len : Nat) : Law l yN 5 4 2 35 yB 6 none site (P a D fV fC b A z o len) (E a D fV fC A o len) [⟨a, fC.slot⟩, ⟨a, fV.slot⟩] 1 len := by
  refine Law.of_walk (plainFor_of_name (by decide +kernel)) (by decide +kernel) (by decide +kernel) (by decide) (fun _ _ h => by rw [h.1]; rfl) (fun _ U U' hal hh h => ⟨h.1, h.2.1.mv hal hh, h.2.2.1.al hal, h.2.2.2.1.al hal, h.2.2.2.2.1.mv hal hh, h.2.2.2.2.2.1.there hal hh, h.2.2.2.2.2.2⟩) (fun r U U' V V' h1 hal h2 h => Got.mv r U U' V V' h1 hal h2 h) ?_
  intro p e s m args below meth c s₁ X0 hexec hbytes hml hret hlk hnm hown hh0 W hP
  obtain ⟨rfl, hB, f1, f2, hA, s1, hz, l0, l1, l2, hp⟩ := hP
  have a31 := hA.1.2.2.2
  have c1 : Steps p.tables e below (s₁.setTop (entryFrame m #[.ref a, .ref b, .int (Int32.ofNat o), .int (Int32.ofNat len), .null] 6)) (s₁.setTop (mkF m 0 #[.val (.ref a), .val (.ref b), .val (.int (Int32.ofNat o)), .val (.int (Int32.ofNat len)), .val .null, .unset] [])) := entry rfl
  have c2 : Steps p.tables e below (s₁.setTop (entryFrame m #[.ref a, .ref b, .int (Int32.ofNat o), .int (Int32.ofNat len), .null] 6)) (s₁.setTop (mkF m 1 #[.val (.ref a), .val (.ref b), .val (.int (Int32.ofNat o)), .val (.int (Int32.ofNat len)), .val .null, .unset] [.ref a])) := c1.trans (by
    refine XS.aloadN X0.here hexec rfl (hb hbytes d0) rfl rfl ?_
    exact Steps.refl _)
  obtain ⟨T3, X3, q3, st3⟩ := X0.oinit hexec hown (wks W (objW "java/lang/String" 1)) (g := (mkF m 1 #[.val (.ref a), .val (.ref b), .val (.int (Int32.ofNat o)), .val (.int (Int32.ofNat len)), .val .null, .unset] [.ref a])) rfl (by rw [hml]; rfl) (rest := []) rfl (hb hbytes d1) (W := 0) (by show 2 * 0 + 0 ≤ _; decide) (Nat.le_of_ble_eq_true rfl) (Nat.le_of_ble_eq_true rfl)
  have hh3 := q3.trans hh0
  have c4 : Steps p.tables e below (s₁.setTop (entryFrame m #[.ref a, .ref b, .int (Int32.ofNat o), .int (Int32.ofNat len), .null] 6)) (T3.setTop (mkF m 27 #[.val (.ref a), .val (.ref b), .val (.int (Int32.ofNat o)), .val (.int (Int32.ofNat len)), .val .null, .unset] [])) := (c2.trans (st3 _ (Steps.refl _))).trans (by
    refine XS.iloadN X3.here hexec rfl (hb hbytes d4) rfl ?_
    refine XS.ifYes X3.here hexec rfl (pc0 := 5) rfl (hb hbytes d5) rfl (i0_ne_t (nz32 (by omega) l0)) (by decide) rfl ?_
    exact Steps.refl _)
  obtain ⟨T5, X5, q5, st5⟩ := X3.sget hexec hown (wk W (.fieldLink "java/lang/String" 38 "java/lang/String" "COMPACT_STRINGS" "Z")) s1 (fun _ _ h => by rw [hh3]; exact h) (g := (mkF m 27 #[.val (.ref a), .val (.ref b), .val (.int (Int32.ofNat o)), .val (.int (Int32.ofNat len)), .val .null, .unset] [])) rfl (hb hbytes d27)
  have hh5 := q5.trans hh3
  have c6 : Steps p.tables e below (s₁.setTop (entryFrame m #[.ref a, .ref b, .int (Int32.ofNat o), .int (Int32.ofNat len), .null] 6)) (T5.setTop (mkF m 30 #[.val (.ref a), .val (.ref b), .val (.int (Int32.ofNat o)), .val (.int (Int32.ofNat len)), .val .null, .unset] [.int z])) := c4.trans (st5 _ (Steps.refl _))
  have c7 : Steps p.tables e below (s₁.setTop (entryFrame m #[.ref a, .ref b, .int (Int32.ofNat o), .int (Int32.ofNat len), .null] 6)) (T5.setTop (mkF m 36 #[.val (.ref a), .val (.ref b), .val (.int (Int32.ofNat o)), .val (.int (Int32.ofNat len)), .val .null, .unset] [.int (Int32.ofNat len), .int (Int32.ofNat o), .ref b])) := c6.trans (by
    refine XS.ifNo X5.here hexec rfl (hb hbytes d30) rfl (i0_eq_f hz) ?_
    refine XS.aloadN X5.here hexec rfl (hb hbytes d33) rfl rfl ?_
    refine XS.iloadN X5.here hexec rfl (hb hbytes d34) rfl ?_
    refine XS.iloadN X5.here hexec rfl (hb hbytes d35) rfl ?_
    exact Steps.refl _)
  obtain ⟨v8, T8, X8, E8, g8⟩ := X5.callS hexec (Cmp3.law l b A o len) hown (wks W (staticW "java/lang/String" 177 Cmp3.yN)) (wk W Cmp3.tab) (W := 0) (Nat.le_of_ble_eq_true rfl) (Nat.le_of_ble_eq_true rfl) (Nat.le_refl _) (by show 0 + len ≤ len; omega) (g := (mkF m 36 #[.val (.ref a), .val (.ref b), .val (.int (Int32.ofNat o)), .val (.int (Int32.ofNat len)), .val .null, .unset] [.int (Int32.ofNat len), .int (Int32.ofNat o), .ref b])) rfl (by rw [hml]; rfl) c7 (argsL := [.ref b, .int (Int32.ofNat o), .int (Int32.ofNat len)]) (rest := []) rfl rfl (by show 2 * 0 + 0 ≤ _; decide) (hb hbytes d36) (⟨rfl, hA.mv X5.warmed.alike hh5, l1, l2, hp⟩)
  obtain ⟨e8, z8⟩ := E8
  obtain ⟨rfl, N, n1, n2, n3, n4, n5, n6⟩ := NewArr.mv _ T5 s _ _ hh5.symm (Vm.Alike.refl _) rfl e8
  rw [hh5] at z8
  have hB1 := hB.keep X8.warmed.alike (n6 _ _ hB.1)
  have hne : s.heap.size ≠ a := (Nat.ne_of_lt (Array.getElem?_eq_some_iff.mp hB.1).1).symm
  have c9 : Steps p.tables e below (s₁.setTop (entryFrame m #[.ref a, .ref b, .int (Int32.ofNat o), .int (Int32.ofNat len), .null] 6)) (T8.setTop (mkF m 39 #[.val (.ref a), .val (.ref b), .val (.int (Int32.ofNat o)), .val (.int (Int32.ofNat len)), .val .null, .unset] [.ref s.heap.size])) := g8
  have c10 : Steps p.tables e below (s₁.setTop (entryFrame m #[.ref a, .ref b, .int (Int32.ofNat o), .int (Int32.ofNat len), .null] 6)) (T8.setTop (mkF m 45 #[.val (.ref a), .val (.ref b), .val (.int (Int32.ofNat o)), .val (.int (Int32.ofNat len)), .val .null, .val (.ref s.heap.size)] [.int (Int32.ofNat N.slots.size), .ref s.heap.size, .ref a])) := by
    have hc : Steps p.tables e below (s₁.setTop (entryFrame m #[.ref a, .ref b, .int (Int32.ofNat o), .int (Int32.ofNat len), .null] 6)) (T8.setTop (mkF m 45 #[.val (.ref a), .val (.ref b), .val (.int (Int32.ofNat o)), .val (.int (Int32.ofNat len)), .val .null, .val (.ref s.heap.size)] [.int (Int32.ofNat len), .ref s.heap.size, .ref a])) := c9.trans (by
      refine XS.astore X8.here hexec rfl (hb hbytes d39) rfl rfl rfl ?_
      refine XS.aloadN X8.here hexec rfl (hb hbytes d41) rfl rfl ?_
      refine XS.aload X8.here hexec rfl (hb hbytes d42) rfl rfl ?_
      refine XS.iloadN X8.here hexec rfl (hb hbytes d44) rfl ?_
      exact Steps.refl _)
    rw [n4]; exact hc
  obtain ⟨v11, T11, X11, E11, g11⟩ := X8.callS hexec (CodL.law l s.heap.size N) hown (wks W (staticW "java/lang/String" 47 CodL.yN)) (wk W CodL.tab) (W := 1) (Nat.le_of_ble_eq_true rfl) (Nat.le_of_ble_eq_true rfl) (Nat.le_refl _) (by show 0 + len + 0 ≤ len; omega) (g := (mkF m 45 #[.val (.ref a), .val (.ref b), .val (.int (Int32.ofNat o)), .val (.int (Int32.ofNat len)), .val .null, .val (.ref s.heap.size)] [.int (Int32.ofNat N.slots.size), .ref s.heap.size, .ref a])) rfl (by rw [hml]; rfl) c10 (argsL := [.ref s.heap.size, .int (Int32.ofNat N.slots.size)]) (rest := [.ref a]) rfl rfl (by show 2 * 0 + (1 + 0) ≤ _; decide) (hb hbytes d45) (⟨rfl, n1⟩)
  obtain ⟨rfl, q11⟩ := E11
  have hB11 := hB1.mv (X8.warmed.alike.symm.trans X11.warmed.alike) q11
  have c12 : Steps p.tables e below (s₁.setTop (entryFrame m #[.ref a, .ref b, .int (Int32.ofNat o), .int (Int32.ofNat len), .null] 6)) (T11.setTop (mkF m 48 #[.val (.ref a), .val (.ref b), .val (.int (Int32.ofNat o)), .val (.int (Int32.ofNat len)), .val .null, .val (.ref s.heap.size)] [.int 0, .ref a])) := g11
  obtain ⟨T13, X13, p13, bl13, sl13, st13⟩ := X11.finit hexec hown (wk W (.fieldLink "java/lang/String" 15 "java/lang/String" "coder" "B")) (Or.inr ⟨_, (wk W (.laysFinal "java/lang/String" "java/lang/String" "coder" "B"))⟩) (Or.inl ⟨rfl, hnm⟩) f2 (Or.inl rfl) hB11 (t := .byte) (by decide +kernel) rfl (g := (mkF m 48 #[.val (.ref a), .val (.ref b), .val (.int (Int32.ofNat o)), .val (.int (Int32.ofNat len)), .val .null, .val (.ref s.heap.size)] [.int 0, .ref a])) rfl (rest := []) rfl (hb hbytes d48)
  have c14 : Steps p.tables e below (s₁.setTop (entryFrame m #[.ref a, .ref b, .int (Int32.ofNat o), .int (Int32.ofNat len), .null] 6)) (T13.setTop (mkF m 54 #[.val (.ref a), .val (.ref b), .val (.int (Int32.ofNat o)), .val (.int (Int32.ofNat len)), .val .null, .val (.ref s.heap.size)] [.ref s.heap.size, .ref a])) := (c12.trans (st13 _ (Steps.refl _))).trans (by
    refine XS.aloadN X13.here hexec rfl (hb hbytes d51) rfl rfl ?_
    refine XS.aload X13.here hexec rfl (hb hbytes d52) rfl rfl ?_
    exact Steps.refl _)
  obtain ⟨T15, X15, p15, bl15, sl15, st15⟩ := X13.finit hexec hown (wk W (.fieldLink "java/lang/String" 9 "java/lang/String" "value" "[B")) (Or.inr ⟨_, (wk W (.laysFinal "java/lang/String" "java/lang/String" "value" "[B"))⟩) (Or.inl ⟨rfl, hnm⟩) f1 (Or.inl rfl) bl13 (t := (.array .byte)) (by decide +kernel) rfl (g := (mkF m 54 #[.val (.ref a), .val (.ref b), .val (.int (Int32.ofNat o)), .val (.int (Int32.ofNat len)), .val .null, .val (.ref s.heap.size)] [.ref s.heap.size, .ref a])) rfl (rest := []) rfl (hb hbytes d54)
  have c16 : Steps p.tables e below (s₁.setTop (entryFrame m #[.ref a, .ref b, .int (Int32.ofNat o), .int (Int32.ofNat len), .null] 6)) (T15.setTop (mkF m 57 #[.val (.ref a), .val (.ref b), .val (.int (Int32.ofNat o)), .val (.int (Int32.ofNat len)), .val .null, .val (.ref s.heap.size)] [])) := c14.trans (st15 _ (Steps.refl _))
  have ap := apart (Or.inr ⟨_, (wk W (.laysFinal "java/lang/String" "java/lang/String" "value" "[B"))⟩) (Or.inr ⟨_, (wk W (.laysFinal "java/lang/String" "java/lang/String" "coder" "B"))⟩) f1 f2 (t₁ := .array .byte) (t₂ := .byte) (by decide +kernel) (by decide +kernel) (by decide)
  have al := X8.warmed.alike.symm.trans X15.warmed.alike
  have n7 : T11.heap[s.heap.size]? = some N := by rw [q11]; exact n1.1
  exact ⟨T15, none, _, _, _, X15, by simp, rfl, by omega, (fun _ => rfl), ⟨rfl, _, N, bl15, ((Same.refl D _).set _ (by simp)).set _ (by simp), sl15, (Cell.slots_setSlot_ne _ ap).trans sl13, n1.keep al (p15.other hne (p13.other hne n7)), n2, by rw [al.findClass]; exact n3, n4, n5, fun y c h1 h2 => p15.other h1 (p13.other h1 (by rw [q11]; exact n6 y c h2)), by rw [p15.2.2, p13.2.2, q11]; exact z8⟩, fun fs hl => c16.trans (X15.returnOut hexec hret (hb hbytes d57) hl)⟩
end New4
namespace New1
def yN : MethodName := ⟨"java/lang/String", "<init>", "([C)V"⟩
abbrev yB : ByteArray := jdk_42_method_3_code
theorem d0 : decode yB 0 = .ok (.aload_n 0, 1) := by decide +kernel
theorem d1 : decode yB 1 = .ok (.aload_n 1, 1) := by decide +kernel
theorem d2 : decode yB 2 = .ok (.iconst 0, 1) := by decide +kernel
theorem d3 : decode yB 3 = .ok (.aload_n 1, 1) := by decide +kernel
theorem d4 : decode yB 4 = .ok (.arraylength, 1) := by decide +kernel
theorem d5 : decode yB 5 = .ok (.aconst_null, 1) := by decide +kernel
theorem d6 : decode yB 6 = .ok (.invokespecial 27, 3) := by decide +kernel
theorem d9 : decode yB 9 = .ok (.return_, 1) := by decide +kernel
def site : List Cond := [New4.tab] ++ initW "java/lang/String" 27 New4.yN
def tab : Cond := tabOf yN yB 2 none site
def P (a : Addr) (D : Cell) (fV fC : Field) (b : Addr) (A : Cell) (z : Int32) (args : Array Value) (s : State) : Prop := args = #[.ref a, .ref b] ∧ Blank "java/lang/String" a D s ∧ Found "java/lang/String" "value" "[B" fV s ∧ Found "java/lang/String" "coder" "B" fC s ∧ Ch b A s ∧ StaticIs s "java/lang/String" "COMPACT_STRINGS" "Z" (.int z) ∧ ¬ z = 0 ∧ 0 < A.slots.size ∧ A.slots.size ≤ 536870912 ∧ ∀ i, i < A.slots.size → ¬ 255 < cv A i
def E (a : Addr) (D : Cell) (fV fC : Field) (A : Cell) (r : Option Value) (s u : State) : Prop := Got a D fV fC A 0 A.slots.size r s u
/-- new String(chars), not empty, no char above 255: a Latin-1 String of their low bytes -/
theorem law (l : Launch) (a : Addr) (D : Cell) (fV fC : Field) (b : Addr) (A : Cell) (z : Int32) : Law l yN 2 1 3 52 yB 2 none site (P a D fV fC b A z) (E a D fV fC A) [⟨a, fC.slot⟩, ⟨a, fV.slot⟩] 1 A.slots.size := by
  refine Law.of_walk (plainFor_of_name (by decide +kernel)) (by decide +kernel) (by decide +kernel) (by decide) (fun _ _ h => by rw [h.1]; rfl) (fun _ U U' hal hh h => ⟨h.1, h.2.1.mv hal hh, h.2.2.1.al hal, h.2.2.2.1.al hal, h.2.2.2.2.1.mv hal hh, h.2.2.2.2.2.1.there hal hh, h.2.2.2.2.2.2⟩) (fun r U U' V V' h1 hal h2 h => Got.mv r U U' V V' h1 hal h2 h) ?_
  intro p e s m args below meth c s₁ X0 hexec hbytes hml hret hlk hnm hown hh0 W hP
  obtain ⟨rfl, hB, f1, f2, hA, s1, hz, l0, l2, hp⟩ := hP
  have c1 : Steps p.tables e below (s₁.setTop (entryFrame m #[.ref a, .ref b] 2)) (s₁.setTop (mkF m 0 #[.val (.ref a), .val (.ref b)] [])) := entry rfl
  have c2 : Steps p.tables e below (s₁.setTop (entryFrame m #[.ref a, .ref b] 2)) (s₁.setTop (mkF m 6 #[.val (.ref a), .val (.ref b)] [.null, .int (Int32.ofNat A.slots.size), .int 0, .ref b, .ref a])) := c1.trans (by
    refine XS.aloadN X0.here hexec rfl (hb hbytes d0) rfl rfl ?_
    refine XS.aloadN X0.here hexec rfl (hb hbytes d1) rfl rfl ?_
    refine iconstV X0.here hexec rfl 0 (hb hbytes d2) (by decide) ?_
    refine XS.aloadN X0.here hexec rfl (hb hbytes d3) rfl rfl ?_
    refine X0.alen hexec (hA.1.mv X0.warmed.alike hh0) rfl rfl (hb hbytes d4) ?_
    refine XS.aconstNull X0.here hexec rfl (hb hbytes d5) ?_
    exact Steps.refl _)
  obtain ⟨v3, T3, X3, E3, g3⟩ := X0.callN hexec (New4.law l a D fV fC b A z 0 A.slots.size) rfl hown (wks W (initW "java/lang/String" 27 New4.yN)) (W New4.tab (by simp only [site, List.mem_cons, List.mem_append, true_or, or_true])) (W := 0) (Nat.le_of_ble_eq_true rfl) (Nat.le_of_ble_eq_true rfl) (Nat.le_refl _) (by show 0 + A.slots.size ≤ A.slots.size; omega) (g := (mkF m 6 #[.val (.ref a), .val (.ref b)] [.null, .int (Int32.ofNat A.slots.size), .int (Int32.ofNat 0), .ref b, .ref a])) rfl (by rw [hml]; rfl) c2 (argsL := [.ref b, .int (Int32.ofNat 0), .int (Int32.ofNat A.slots.size), .null]) (rest := []) rfl rfl (by show 2 * 0 + 0 ≤ _; decide) (hb hbytes d6) (⟨rfl, hB.mv X0.warmed.alike hh0, f1.al X0.warmed.alike, f2.al X0.warmed.alike, hA.mv X0.warmed.alike hh0, s1.there X0.warmed.alike hh0, hz, l0, by omega, l2, fun i hi => by rw [Nat.zero_add]; exact hp i hi⟩)
  have e0 := Got.mv _ s₁ s _ _ hh0.symm (Vm.Alike.refl _) rfl E3
  obtain rfl := e0.1
  have c4 : Steps p.tables e below (s₁.setTop (entryFrame m #[.ref a, .ref b] 2)) (T3.setTop (mkF m 9 #[.val (.ref a), .val (.ref b)] [])) := g3
  exact ⟨T3, none, _, _, _, X3, by simp, rfl, by omega, (fun _ => rfl), e0, fun fs hl => c4.trans (X3.returnOut hexec hret (hb hbytes d9) hl)⟩
theorem pays {l : Launch} {R : Room} {p : Program} {e : Env} {below : List Frame} {s : State} {sargs : Array Value} {len W : Nat} (a : Addr) (D : Cell) (fV fC : Field) (b : Addr) (A : Cell) (z : Int32) (htab : tab.before sargs s = true) (hfr : 4 ≤ R.frames) (hlo : W + 65 ≤ R.locals) :
    Back l R p e below s sargs yN len W (fun A₁ a₁ => A₁.cells + 1 ≤ R.cells ∧ A₁.slots + A.slots.size ≤ R.slots ∧ P a D fV fC b A z a₁ A₁.U) (fun A₁ _ v₁ B₁ => E a D fV fC A v₁ A₁.U B₁.U ∧ B₁.locs = A₁.locs ++ [⟨a, fC.slot⟩, ⟨a, fV.slot⟩] ∧ B₁.cells = A₁.cells + 1 ∧ B₁.slots = A₁.slots + A.slots.size) :=
  (law l a D fV fC b A z).pays htab hfr (by omega)
end New1
end StrChars
namespace StrChars.Road
open Jvm Sem ClassFile Op Lib Jvm.Stand Jvm.Free Jvm.Free.XT
open Jvm.Lib.Cold (StaticIs)
abbrev ST : String := "java/lang/String"
/-- every table word that New1's law asks, flat -/
abbrev words : List Jvm.Cond := [.code New1.yN New1.yB 2 none, .initialized ST, .methodLink ST 27 New4.yN, .instanceMethod New4.yN,
  .code New4.yN New4.yB 6 none, .fieldLink ST 38 ST "COMPACT_STRINGS" "Z", .laysFinal ST ST "value" "[B", .fieldLink ST 9 ST "value" "[B", .laysFinal ST ST "coder" "B", .fieldLink ST 15 ST "coder" "B",
  .methodLink ST 1 Lib.objectInit, .instanceMethod Lib.objectInit, .code Lib.objectInit ⟨#[0xb1]⟩ 1 none, .methodLink ST 177 Cmp3.yN, .static Cmp3.yN, .methodLink ST 47 CodL.yN, .static CodL.yN,
  .code Cmp3.yN Cmp3.yB 6 (some (.array .byte)), .initialized U16, .arrayClass .byte, .methodLink U16 115 Cmp5.yN, .static Cmp5.yN, .code Cmp5.yN Cmp5.yB 7 (some .int), .code CodL.yN CodL.yB 2 (some .byte)]
theorem tab_of {a : Array Value} {s : State} (h : ∀ w ∈ words, w.before a s = true) : New1.tab.before a s = true := by
  have h5 : Cmp5.tab.before a s = true := unparts (wk h (.code Cmp5.yN Cmp5.yB 7 (some .int))) (wks h (.initialized Cmp5.yN.cls :: Cmp5.site))
  have hc : CodL.tab.before a s = true := unparts (wk h (.code CodL.yN CodL.yB 2 (some .byte))) (wks h (.initialized CodL.yN.cls :: CodL.site))
  have q5 : ∀ w ∈ Cmp5.tab :: words, w.before a s = true := fun w hw => (List.mem_cons.mp hw).elim (fun e => e ▸ h5) (h w)
  have h3 : Cmp3.tab.before a s = true := unparts (wk q5 (.code Cmp3.yN Cmp3.yB 6 (some (.array .byte)))) (wks q5 (.initialized Cmp3.yN.cls :: Cmp3.site))
  have q3 : ∀ w ∈ Cmp3.tab :: CodL.tab :: words, w.before a s = true := fun w hw => (List.mem_cons.mp hw).elim (fun e => e ▸ h3) fun hw => (List.mem_cons.mp hw).elim (fun e => e ▸ hc) (h w)
  have h4 : New4.tab.before a s = true := unparts (wk q3 (.code New4.yN New4.yB 6 none)) (wks q3 (.initialized New4.yN.cls :: New4.site))
  have q4 : ∀ w ∈ New4.tab :: words, w.before a s = true := fun w hw => (List.mem_cons.mp hw).elim (fun e => e ▸ h4) (h w)
  exact unparts (wk q4 (.code New1.yN New1.yB 2 none)) (wks q4 (.initialized New1.yN.cls :: New1.site))
/-- the words ride from the start Z to the walk's own state -/
theorem moved {Z s : State} {a0 args : Array Value} (hZ : Z.Warmed39 s.vm) (hw : ∀ d ∈ words, d.before a0 Z = true) : ∀ d ∈ words, d.before args s = true := fun d hd => by
  have q := hw d hd
  have t : ∀ d ∈ words, d = .arrayClass .byte ∨ (d.onTables && d.keepsFace) = true := by decide +kernel
  rcases t d hd with rfl | t
  · exact RoadKit.mvA hZ q
  · exact RoadKit.mv hZ q t
/-- WHAT COMES BACK, over the tables of the start Z: h the heap at the call, h' behind it -/
def Q (Z : State) (x : Addr) (A : Cell) (h : Heap) (v : Option Value) (h' : Heap) (L : List Loc) : Prop := v = none ∧ (∀ y ∈ L, y.base = x) ∧ RoadKit.Keep h h' [x] ∧ h'.size = h.size + 1 ∧ RoadKit.Exa Z h' x ST ∧ RoadKit.Fld Z h' x ST "value" "[B" (.ref h.size) ∧ RoadKit.Fld Z h' x ST "coder" "B" (.int 0) ∧
  (∃ V : Cell, RoadKit.Arr Z h' h.size V .byte ∧ V.vm = .none ∧ Z.vm.findClass "[B" = some V.cls ∧ V.slots.size = A.slots.size ∧ ∀ j, j < A.slots.size → V.slots[j]? = some (.int (lo8 (cv A j)))) ∧
  ∀ (O n d : String) (w : Value), RoadKit.Fld Z h x O n d w → RoadKit.slotOf Z O n d ≠ RoadKit.slotOf Z ST "value" "[B" → RoadKit.slotOf Z O n d ≠ RoadKit.slotOf Z ST "coder" "B" → RoadKit.Fld Z h' x O n d w
/-- **new String(chars) AT A CALL, IN THE ROAD'S FORM**: for specialBack behind newO: x the fresh String, b the char[] with the cell A -/
theorem back {p : Program} {l : Launch} {e : Env} {R : Room} {s : State} {args : Array Value} {below : List Frame} {len W : Nat} {Z : State} {a0 : Array Value} {h : Heap} (hZ : Z.Warmed39 s.vm) (hw : ∀ d ∈ words, d.before a0 Z = true) {kI : Nat} (wi : (Jvm.Cond.instantiable ST kI).before a0 Z = true)
    {x b : Addr} {A : Cell} {z : Int32} {v0 c0 : Value} (E : RoadKit.Exa Z h x ST) (V : RoadKit.Fld Z h x ST "value" "[B" v0) (C : RoadKit.Fld Z h x ST "coder" "B" c0) (K : RoadKit.Arr Z h b A .char) (hty : Typed .char A) (S : RoadKit.Sta Z h ST "COMPACT_STRINGS" "Z" (.int z)) (hz : ¬ z = 0)
    (l0 : 0 < A.slots.size) (l2 : A.slots.size ≤ 536870912) (hp : ∀ i, i < A.slots.size → ¬ 255 < cv A i) (hfr : 4 ≤ R.frames) (hlo : W + 65 ≤ R.locals) :
    Back l R p e below s args New1.yN len W (fun P a => a = #[.ref x, .ref b] ∧ P.U.heap = h ∧ P.cells + 1 ≤ R.cells ∧ P.slots + A.slots.size ≤ R.slots)
      (fun P _ v B => ∃ L, Q Z x A h v B.U.heap L ∧ B.locs = P.locs ++ L ∧ B.cells = P.cells + 1 ∧ B.slots = P.slots + A.slots.size) := by
  intro m meth c P g ig mk a X hg hsize hdg hW hn hp'
  obtain ⟨rfl, rfl, r1, r2⟩ := hp'
  have al : Z.vm.Alike P.U.vm := hZ.alike.trans X.warmed.alike
  obtain ⟨D, cfV, kV, iV, fV, hD, gV, stV, knV, obV, asV, slV⟩ := id V
  obtain ⟨D', cfC, kC, iC, fC, hD', gC, stC, -, -, asC, slC⟩ := id C
  cases hD.symm.trans hD'
  obtain ⟨D2, kD, e1, e2, e3, e4, e5⟩ := id E
  cases hD.symm.trans e1
  obtain ⟨c2, k2, i1, i2, i3, -⟩ := Cond.instantiable_spec wi
  cases e2.symm.trans i1
  cases e3.symm.trans i2
  obtain ⟨kU, u1, u2⟩ := al.2.2 _ _ e3
  have hB : Blank ST x D P.U := ⟨hD, ⟨knV, fun q hq => by rw [hq] at obV; cases obV⟩, by rw [al.findClass]; exact e2, kU, u1, by rw [u2]; exact i3, by rw [u2]; exact e5 i3⟩
  have F1 : Found ST "value" "[B" fV P.U := ⟨SBG.found_only al ⟨cfV, kV, iV, gV⟩, stV⟩
  have F2 : Found ST "coder" "B" fC P.U := ⟨SBG.found_only al ⟨cfC, kC, iC, gC⟩, stC⟩
  have hA : Ch b A P.U := ⟨⟨K.1, State.isArrayOf_alike al K.2.1, K.2.2, by omega⟩, hty⟩
  have hS : StaticIs P.U ST "COMPACT_STRINGS" "Z" (.int z) := by
    obtain ⟨cfS, iS, kS, fS, st, cS, t1, t2, t3, t4, t5, t6, t7⟩ := S
    exact StaticIs.there (s := { Z with heap := P.U.heap }) ⟨cfS, iS, kS, fS, st, cS, t1, t2, t3, t4, t5, (fun q => by rw [q] at t6; cases t6), t7⟩ al rfl
  obtain ⟨v, B, X', ⟨⟨hv, E', V', q1, q2, q3, q4, q5, q6, q7, q8, q9, q10, q11⟩, hl, hc, hs⟩, st⟩ := New1.pays x D fV fC b A z (tab_of (moved hZ hw)) hfr hlo m meth c P g ig mk _ X hg hsize hdg hW hn ⟨r1, r2, rfl, hB, F1, F2, hA, hS, hz, l0, l2, hp⟩
  have al' : Z.vm.Alike B.U.vm := hZ.alike.trans X'.warmed.alike
  have hsz : E'.slots.size = D.slots.size := by
    obtain ⟨-, -, -, kB, w1, w2, w3⟩ := q1
    obtain ⟨kB', y1, y2⟩ := al'.2.2 _ _ e3
    rw [q2.2.1] at w1
    cases w1.symm.trans y1
    rw [w3, e5 i3, y2]
  refine ⟨v, B, X', ⟨_, ⟨hv, ?_, ⟨by omega, fun y cy hy hn' => q10 y cy (by simpa using hn') hy, fun y cy hy => ?_⟩, q11, ⟨E', _, q1.1, by rw [q2.2.1]; exact e2, by rw [q2.2.1]; exact e3, by rw [q2.1]; exact obV, fun _ => by rw [hsz]; exact e5 i3⟩,
    ⟨E', cfV, kV, iV, fV, q1.1, gV, stV, by rw [q2.1]; exact knV, by rw [q2.1]; exact obV, by rw [q2.2.1]; exact asV, q3⟩, ⟨E', cfC, kC, iC, fC, q1.1, gC, stC, by rw [q2.1]; exact knV, by rw [q2.1]; exact obV, by rw [q2.2.1]; exact asC, q4⟩,
    ⟨V', ⟨q5.1, State.isArrayOf_alike al'.symm q5.2.1, q5.2.2.1⟩, q6, by rw [← al'.findClass]; exact q7, q8, fun j hj => by have := q9 j hj; rwa [Nat.zero_add] at this⟩, fun O n d w F n1 n2 => ?_⟩, hl, hc, hs⟩, st⟩
  · intro y hy
    simp only [List.mem_cons, List.not_mem_nil, or_false] at hy
    rcases hy with rfl | rfl <;> rfl
  · by_cases q : y = x
    · subst q
      cases hD.symm.trans hy
      exact ⟨E', q1.1, q2.2.1, q2.1, hsz⟩
    · exact ⟨cy, q10 y cy q hy, rfl, rfl, rfl⟩
  · obtain ⟨D3, cf, k, i, f, g1, g2, g3, g4, g5, g6, g7⟩ := F
    cases hD.symm.trans g1
    simp only [RoadKit.slotOf, g2, gV, gC, Option.map_some, Option.getD_some] at n1 n2
    exact ⟨E', cf, k, i, f, q1.1, g2, g3, by rw [q2.1]; exact g4, by rw [q2.1]; exact g5, by rw [q2.2.1]; exact g6, by rw [q2.2.2 f.slot (by simp [n1, n2])]; exact g7⟩
end StrChars.Road
namespace StrChars.Road
open Jvm Sem ClassFile Op Lib Jvm.Stand Jvm.Free Jvm.Free.XT
/-- WHAT COMES BACK, the byte[] as a list of values -/
def QA (Z : State) (x : Addr) (zn : Int32) (cs : List Int32) (h : Heap) (v : Option Value) (h' : Heap) (L : List Loc) : Prop := v = none ∧ (∀ y ∈ L, y.base = x) ∧ RoadKit.Keep h h' [x] ∧ h'.size = h.size + 1 ∧ RoadKit.Exa Z h' x ST ∧ RoadKit.Fld Z h' x ST "value" "[B" (.ref h.size) ∧ RoadKit.Fld Z h' x ST "coder" "B" (.int 0) ∧
  (∃ kb, Z.vm.findClass "[B" = some kb ∧ RoadKit.Arv Z h' h.size kb .byte zn (cs.map fun c => .int (lo8 c)) (.int 0)) ∧
  ∀ (O n d : String) (w : Value), RoadKit.Fld Z h x O n d w → RoadKit.slotOf Z O n d ≠ RoadKit.slotOf Z ST "value" "[B" → RoadKit.slotOf Z O n d ≠ RoadKit.slotOf Z ST "coder" "B" → RoadKit.Fld Z h' x O n d w
/-- **new String(chars) AT A CALL, THE ARRAYS AS LISTS**: the char[] at b holds cs, not empty, no char above 255 -/
theorem backArv {p : Program} {l : Launch} {e : Env} {R : Room} {s : State} {args : Array Value} {below : List Frame} {len W : Nat} {Z : State} {a0 : Array Value} {h : Heap} (hZ : Z.Warmed39 s.vm) (hw : ∀ d ∈ words, d.before a0 Z = true) {kI : Nat} (wi : (Jvm.Cond.instantiable ST kI).before a0 Z = true)
    {x b : Addr} {k : ClassId} {zn z : Int32} {cs : List Int32} {dv v0 c0 : Value} (E : RoadKit.Exa Z h x ST) (V : RoadKit.Fld Z h x ST "value" "[B" v0) (C : RoadKit.Fld Z h x ST "coder" "B" c0) (K : RoadKit.Arv Z h b k .char zn (cs.map Value.int) dv) (S : RoadKit.Sta Z h ST "COMPACT_STRINGS" "Z" (.int z)) (hz : ¬ z = 0)
    (hlen : zn.toNatClampNeg = cs.length) (h0 : 0 < cs.length) (hbig : cs.length ≤ 536870912) (hall : ∀ c ∈ cs, ¬ 255 < c) (hfr : 4 ≤ R.frames) (hlo : W + 65 ≤ R.locals) :
    Back l R p e below s args New1.yN len W (fun P a => a = #[.ref x, .ref b] ∧ P.U.heap = h ∧ P.cells + 1 ≤ R.cells ∧ P.slots + cs.length ≤ R.slots)
      (fun P _ v B => ∃ L, QA Z x zn cs h v B.U.heap L ∧ B.locs = P.locs ++ L ∧ B.cells = P.cells + 1 ∧ B.slots = P.slots + cs.length) := by
  obtain ⟨A, K1, K2, K3, K4, K5, K6⟩ := K
  have e : A.slots.size = cs.length := K3.trans hlen
  have hat : ∀ (i : Nat) (hi : i < cs.length), A.slots[i]? = some (.int cs[i]) := fun i hi => by rw [K5 i (by omega)]; simp [List.getD_eq_getElem?_getD, hi]
  have hcv : ∀ (i : Nat) (hi : i < cs.length), cv A i = cs[i] := fun i hi => by unfold cv; rw [hat i hi]
  have hty : Typed .char A := fun i v hv => by
    have hi : i < A.slots.size := (Array.getElem?_eq_some_iff.mp hv).1
    have q := K5 i hi
    rw [hv] at q
    rw [Option.some.inj q]
    exact K6 i hi
  refine Back.mono (back hZ hw wi E V C K1 hty S hz (by omega) (by omega) (fun i hi => by rw [hcv i (by omega)]; exact hall _ (List.getElem_mem _)) hfr hlo) (fun P a hp => ⟨hp.1, hp.2.1, hp.2.2.1, by rw [e]; exact hp.2.2.2⟩) (fun P a v B hp hq => ?_)
  obtain ⟨L, ⟨q1, q2, q3, q4, q5, q6, q7, ⟨V', v1, v2, v3, v4, v5⟩, q9⟩, hl, hc, hs⟩ := hq
  refine ⟨L, ⟨q1, q2, q3, q4, q5, q6, q7, ⟨V'.cls, v3, V', v1, rfl, by rw [v4, e, hlen], K4, fun i hi => ?_, fun i hi => ?_⟩, q9⟩, hl, hc, by rw [hs, e]⟩
  · have hi' : i < cs.length := by omega
    rw [v5 i (by omega), hcv i hi']; simp [List.getD_eq_getElem?_getD, hi']
  · have hi' : i < cs.length := by omega
    simp only [List.getD_eq_getElem?_getD, List.getElem?_map, List.getElem?_eq_getElem hi', Option.map_some, Option.getD_some]
    exact fits_lo8 _
end StrChars.Road
namespace StrChars.Road
open Jvm Sem ClassFile Op Lib Jvm.Stand Jvm.Free Jvm.Free.XT
/-- WHAT COMES BACK, in the writer's own shape -/
def QV (Z : State) (x : Addr) (N : Int32) (bs : List Int32) (h : Heap) (n0 : Nat) (v : Option Value) (h' : Heap) (L : List Loc) : Prop := v = none ∧ RoadKit.Fr n0 L ∧ RoadKit.Keep h h' [x] ∧ RoadKit.Exa Z h' x ST ∧ RoadKit.Fld Z h' x ST "coder" "B" (.int 0) ∧
  ∃ (t : Addr) (kb : ClassId), n0 ≤ t ∧ h.size ≤ t ∧ ¬ t = x ∧ RoadKit.Fld Z h' x ST "value" "[B" (.ref t) ∧ RoadKit.Arv Z h' t kb .byte N (bs.map Value.int) (.int 0)
/-- **new String(chars) AT A CALL, FOR THE WRITER**: a char[] of n known ints, each 0 to 255 -/
theorem backV {p : Program} {l : Launch} {e : Env} {R : Room} {s : State} {args : Array Value} {below : List Frame} {len W : Nat} {Z : State} {a0 : Array Value} {h : Heap} (hZ : Z.Warmed39 s.vm) (hw : ∀ d ∈ words, d.before a0 Z = true) {kI : Nat} (wi : (Jvm.Cond.instantiable ST kI).before a0 Z = true)
    {x b : Addr} {kC : ClassId} {cs bs : List Int32} {d v0 c0 : Value} {z N : Int32} {n n0 : Nat} (hx0 : n0 ≤ x) (hh0 : n0 ≤ h.size) (E : RoadKit.Exa Z h x ST) (V : RoadKit.Fld Z h x ST "value" "[B" v0) (C : RoadKit.Fld Z h x ST "coder" "B" c0) (K : RoadKit.Arv Z h b kC .char N (cs.map Value.int) d) (S : RoadKit.Sta Z h ST "COMPACT_STRINGS" "Z" (.int z)) (hz : ¬ z = 0)
    (hn : cs.length = n) (hN : N = Int32.ofNat n) (l0 : 0 < n) (l2 : n ≤ 4000) (hp : ∀ c ∈ cs, ¬ c < 0 ∧ ¬ (255 : Int32) < c) (hb : bs = cs.map (fun c => c.toInt8.toInt32)) (hfr : 4 ≤ R.frames) (hlo : W + 65 ≤ R.locals) :
    Back l R p e below s args (⟨"java/lang/String", "<init>", "([C)V"⟩ : MethodName) len W (fun P a => a = #[.ref x, .ref b] ∧ P.U.heap = h ∧ P.cells + 1 ≤ R.cells ∧ P.slots + n ≤ R.slots)
      (fun P _ v B => ∃ L, QV Z x N bs h n0 v B.U.heap L ∧ B.locs = P.locs ++ L ∧ B.cells = P.cells + 1 ∧ B.slots = P.slots + n) := by
  subst hn hN hb
  refine Back.mono (backArv hZ hw wi E V C K S hz (n32 (by omega)) l0 (by omega) (fun c hc => (hp c hc).2) hfr hlo) (fun P a hp => hp) (fun P a v B hp hq => ?_)
  obtain ⟨L, ⟨q1, q2, q3, q4, q5, q6, q7, ⟨kb, v1, v2⟩, q9⟩, hl, hc, hs⟩ := hq
  exact ⟨L, ⟨q1, fun y hy => by rw [q2 y hy]; exact hx0, q3, q5, q7, h.size, kb, hh0, Nat.le_refl _, Nat.ne_of_gt E.lt, q6, by rw [List.map_map]; exact v2⟩, hl, hc, hs⟩
end StrChars.Road
end Jvm.Pilot.@@N@@
namespace Jvm.Pilot.@@N@@
namespace GK
open Jvm Jvm.ClassFile Sem Op Lib Jvm.Free Jvm.Stand Jvm.LawKit Jvm.RoadKit Bundle
section Strs
variable {md : Md} {l : Launch} {Z : State} {n0 : Nat} {R : Room} {h h' : Heap} {sf : List Addr} {a0 : Array Value} {x b : Addr} {cs ds : List Int32}
abbrev ST : String := "java/lang/String"
def Lat (cs : List Int32) : Prop := ∀ c ∈ cs, ¬ c < 0 ∧ ¬ (255 : Int32) < c
/-- x is a Latin-1 String of these chars -/
def Str (Z : State) (h : Heap) (x : Addr) (cs : List Int32) : Prop := ∃ t : Addr, Exa Z h x ST ∧ Fld Z h x ST "coder" "B" (.int 0) ∧ Fld Z h x ST "value" "[B" (.ref t) ∧ Ary Z h t .byte ((cs.map fun c => c.toInt8.toInt32).map Value.int) ∧ Lat cs
theorem Str.ext (S : Str Z h x cs) (E : Ext h h') : Str Z h' x cs := by obtain ⟨t, s1, s2, s3, s4, s5⟩ := S; exact ⟨t, s1.ext E, s2.ext E, s3.ext E, s4.ext E, s5⟩
theorem Str.exa (S : Str Z h x cs) : Exa Z h x ST := by obtain ⟨t, s1, -⟩ := S; exact s1
theorem Str.lt (S : Str Z h x cs) : x < h.size := S.exa.lt
theorem Str.keepO {a : Addr} {C : String} {k : Nat} (S : Str Z h x cs) (E : Exa Z h a C) (hn : C ≠ ST) (wi : (Jvm.Cond.instantiable C k).before a0 Z = true) (K : Keep h h' [a]) : Str Z h' x cs := by
  obtain ⟨t, s1, s2, s3, s4, s5⟩ := S
  have n1 : x ≠ a := Ne.symm (ne_exa E s1 hn)
  have n2 : t ≠ a := by obtain ⟨c, A, -⟩ := s4; exact Ne.symm (ne_arr E wi A)
  exact ⟨t, s1.keep K, s2.keep K (ninS n1 nin0), s3.keep K (ninS n1 nin0), Ary.keep K s4 (ninS n2 nin0), s5⟩
theorem strNew {W : Nat} {v0 c0 : Value} {z : Int32} (hws : ∀ d ∈ StrChars.Road.words, d.before a0 Z = true) (wi : (Jvm.Cond.instantiable ST 4).before a0 Z = true) (hx0 : n0 ≤ x) (o : Old Z n0 h) (E : Exa Z h x ST) (V : Fld Z h x ST "value" "[B" v0) (C : Fld Z h x ST "coder" "B" c0) (K : Ary Z h b .char (cs.map Value.int))
    (S : Sta Z Z.heap ST "COMPACT_STRINGS" "Z" (.int z)) (hz : ¬ z = 0) (n : Nat) (hn : cs.length = n) (l0 : 0 < n) (l2 : n ≤ 4000) (hp : Lat cs) (hfr : 4 ≤ R.frames) (hlo : W + 65 ≤ R.locals) (hsf : x ∈ sf) :
    Call md l Z n0 R ⟨"java/lang/String", "<init>", "([C)V"⟩ 3 W #[.ref x, .ref b] h sf 1 n (fun v h' _ => v = none ∧ Keep h h' [x] ∧ Str Z h' x cs) := by
  subst hn
  obtain ⟨kC, K'⟩ := K.arv (.int 0)
  rw [List.length_map] at K'
  refine call_of_back [x] (QB := StrChars.Road.QV Z x (Int32.ofNat cs.length) (cs.map fun c => c.toInt8.toInt32) h n0) (fun p e below s sargs hZ => StrChars.Road.backV hZ hws wi hx0 (o.1 ▸ o.2.1) E V C K' (S.ext o.2) hz rfl rfl l0 l2 hp rfl hfr hlo) ?_ (sub1 hsf) (fun y hy => by cases List.mem_singleton.mp hy; exact hx0)
  rintro v h' L ⟨rfl, q2, q3, q4, q5, t, kb, -, -, -, q9, q10⟩
  refine ⟨q2, q3, rfl, q3, t, q4, q5, q9, Ary.ofArv q10 ?_ (by simp; omega), hp⟩
  rw [(clamp_of (ofNat_toInt (by omega))).2]; simp
theorem toInt_lt {x y : Int32} : x < y ↔ x.toInt < y.toInt := Int32.lt_iff_toInt_lt
theorem lat_iff {c : Int32} : (¬ c < 0 ∧ ¬ (255 : Int32) < c) ↔ (0 ≤ c.toInt ∧ c.toInt ≤ 255) := by
  rw [toInt_lt, toInt_lt]
  have e1 : (0 : Int32).toInt = 0 := rfl
  have e2 : (255 : Int32).toInt = 255 := rfl
  omega
theorem chr_id {c : Int32} (q : 0 ≤ c.toInt ∧ c.toInt ≤ 65535) : chr c = c := Int32.toInt_inj.mp (by have := c_i2c c; show (c.toUInt32.toUInt16.toUInt32.toInt32).toInt = c.toInt; omega)
theorem chr_rng (x : Int32) : 0 ≤ (chr x).toInt ∧ (chr x).toInt ≤ 65535 := by have := c_i2c x; show 0 ≤ (x.toUInt32.toUInt16.toUInt32.toInt32).toInt ∧ (x.toUInt32.toUInt16.toUInt32.toInt32).toInt ≤ 65535; omega
theorem and255 (x : Int32) : 0 ≤ (x &&& (255 : Int32)).toInt ∧ (x &&& (255 : Int32)).toInt ≤ 255 := c_and x 255 (by decide)
theorem chr255 (x : Int32) : ¬ chr (x &&& (255 : Int32)) < 0 ∧ ¬ (255 : Int32) < chr (x &&& (255 : Int32)) := by
  have q := and255 x
  rw [chr_id (by omega)]; exact lat_iff.mpr q
theorem nar_chr (c : Int32) : nar .char c = chr c := rfl
theorem nar_c {c : Int32} (q : ¬ c < 0 ∧ ¬ (255 : Int32) < c) : nar .char c = c := by
  have := lat_iff.mp q
  rw [nar_chr, chr_id (by omega)]
theorem i8_idem (x : Int32) : x.toInt8.toInt32.toInt8.toInt32 = x.toInt8.toInt32 := Int32.toInt_inj.mp (by have h1 := c_i2b x; have h2 := c_i2b (x.toInt8.toInt32); omega)
theorem latN : Lat [] := fun c hc => nomatch hc
theorem latC {c : Int32} {cs : List Int32} (q : ¬ c < 0 ∧ ¬ (255 : Int32) < c) (r : Lat cs) : Lat (c :: cs) := fun y hy => (List.mem_cons.mp hy).elim (fun u => u ▸ q) (r y)
theorem lat1 {c : Int32} (q : ¬ c < 0 ∧ ¬ (255 : Int32) < c) : Lat [c] := latC q latN
theorem lat2 {c d : Int32} (q : ¬ c < 0 ∧ ¬ (255 : Int32) < c) (r : ¬ d < 0 ∧ ¬ (255 : Int32) < d) : Lat [c, d] := latC q (lat1 r)
end Strs
end GK
end Jvm.Pilot.@@N@@
namespace Jvm.Pilot.@@N@@
open Jvm Jvm.ClassFile Sem Op Lib Jvm.Free Jvm.Stand Jvm.LawKit Jvm.RoadKit Bundle Jvm.Pilot.@@N@@.Jvm.D Jvm.Pilot.@@N@@.GK
abbrev HW (a0 : Array Value) (Z : State) : Prop := ∀ d ∈ tables_1, d.before a0 Z = true
theorem w0 {a0 : Array Value} {Z : State} (hw : HW a0 Z) : (Jvm.Cond.arrayClass Jvm.ClassFile.FieldType.char).before a0 Z = true := hw _ (List.mem_of_getElem? (i := 0) rfl)
theorem w1 {a0 : Array Value} {Z : State} (hw : HW a0 Z) : (Jvm.Cond.methodLink "com/example/sigfig/sigfig/NumeralHasPointPinLaw" (7 : Nat) ({ cls := "com/example/sigfig/sigfig/NumeralHasPointPinLaw", name := "digit", desc := "(JI)C" } : Jvm.MethodName)).before a0 Z = true := hw _ (List.mem_of_getElem? (i := 1) rfl)
theorem w2 {a0 : Array Value} {Z : State} (hw : HW a0 Z) : (Jvm.Cond.static ({ cls := "com/example/sigfig/sigfig/NumeralHasPointPinLaw", name := "digit", desc := "(JI)C" } : Jvm.MethodName)).before a0 Z = true := hw _ (List.mem_of_getElem? (i := 2) rfl)
theorem w3 {a0 : Array Value} {Z : State} (hw : HW a0 Z) : (Jvm.Cond.initialized "com/example/sigfig/sigfig/NumeralHasPointPinLaw").before a0 Z = true := hw _ (List.mem_of_getElem? (i := 3) rfl)
theorem w4 {a0 : Array Value} {Z : State} (hw : HW a0 Z) : (Jvm.Cond.code ({ cls := "com/example/sigfig/sigfig/NumeralHasPointPinLaw", name := "digit", desc := "(JI)C" } : Jvm.MethodName) method_3_code (3 : Nat) (Option.some Jvm.ClassFile.FieldType.char)).before a0 Z = true := hw _ (List.mem_of_getElem? (i := 4) rfl)
theorem w5 {a0 : Array Value} {Z : State} (hw : HW a0 Z) : (Jvm.Cond.constantLong "com/example/sigfig/sigfig/NumeralHasPointPinLaw" (33 : Nat) (15 : Int64)).before a0 Z = true := hw _ (List.mem_of_getElem? (i := 5) rfl)
theorem w6 {a0 : Array Value} {Z : State} (hw : HW a0 Z) : (Jvm.Cond.constantLong "com/example/sigfig/sigfig/NumeralHasPointPinLaw" (35 : Nat) (10 : Int64)).before a0 Z = true := hw _ (List.mem_of_getElem? (i := 6) rfl)
theorem w7 {a0 : Array Value} {Z : State} (hw : HW a0 Z) : (Jvm.Cond.methodLink "com/example/sigfig/sigfig/NumeralHasPointPinLaw" (13 : Nat) ({ cls := "com/example/sigfig/sigfig/NumeralHasPointPinLaw", name := "append", desc := "(J[CII)J" } : Jvm.MethodName)).before a0 Z = true := hw _ (List.mem_of_getElem? (i := 7) rfl)
theorem w8 {a0 : Array Value} {Z : State} (hw : HW a0 Z) : (Jvm.Cond.static ({ cls := "com/example/sigfig/sigfig/NumeralHasPointPinLaw", name := "append", desc := "(J[CII)J" } : Jvm.MethodName)).before a0 Z = true := hw _ (List.mem_of_getElem? (i := 8) rfl)
theorem w9 {a0 : Array Value} {Z : State} (hw : HW a0 Z) : (Jvm.Cond.code ({ cls := "com/example/sigfig/sigfig/NumeralHasPointPinLaw", name := "append", desc := "(J[CII)J" } : Jvm.MethodName) method_4_code (7 : Nat) (Option.some Jvm.ClassFile.FieldType.long)).before a0 Z = true := hw _ (List.mem_of_getElem? (i := 9) rfl)
theorem w10 {a0 : Array Value} {Z : State} (hw : HW a0 Z) : (Jvm.Cond.classLink "com/example/sigfig/sigfig/NumeralHasPointPinLaw" (17 : Nat) "com/example/sigfig/sigfig/Numeral").before a0 Z = true := hw _ (List.mem_of_getElem? (i := 10) rfl)
theorem w11 {a0 : Array Value} {Z : State} (hw : HW a0 Z) : (Jvm.Cond.instantiable "com/example/sigfig/sigfig/Numeral" (9 : Nat)).before a0 Z = true := hw _ (List.mem_of_getElem? (i := 11) rfl)
theorem w12 {a0 : Array Value} {Z : State} (hw : HW a0 Z) : (Jvm.Cond.initialized "com/example/sigfig/sigfig/Numeral").before a0 Z = true := hw _ (List.mem_of_getElem? (i := 12) rfl)
theorem w13 {a0 : Array Value} {Z : State} (hw : HW a0 Z) : (Jvm.Cond.methodLink "com/example/sigfig/sigfig/NumeralHasPointPinLaw" (19 : Nat) ({ cls := "com/example/sigfig/sigfig/Numeral", name := "<init>", desc := "()V" } : Jvm.MethodName)).before a0 Z = true := hw _ (List.mem_of_getElem? (i := 13) rfl)
theorem w14 {a0 : Array Value} {Z : State} (hw : HW a0 Z) : (Jvm.Cond.instanceMethod ({ cls := "com/example/sigfig/sigfig/Numeral", name := "<init>", desc := "()V" } : Jvm.MethodName)).before a0 Z = true := hw _ (List.mem_of_getElem? (i := 14) rfl)
theorem w15 {a0 : Array Value} {Z : State} (hw : HW a0 Z) : (Jvm.Cond.code ({ cls := "com/example/sigfig/sigfig/Numeral", name := "<init>", desc := "()V" } : Jvm.MethodName) prog_14_method_1_code (1 : Nat) (Option.none : Option Jvm.ClassFile.FieldType)).before a0 Z = true := hw _ (List.mem_of_getElem? (i := 15) rfl)
theorem w16 {a0 : Array Value} {Z : State} (hw : HW a0 Z) : (Jvm.Cond.methodLink "com/example/sigfig/sigfig/Numeral" (5 : Nat) ({ cls := "java/lang/Object", name := "<init>", desc := "()V" } : Jvm.MethodName)).before a0 Z = true := hw _ (List.mem_of_getElem? (i := 16) rfl)
theorem w17 {a0 : Array Value} {Z : State} (hw : HW a0 Z) : (Jvm.Cond.instanceMethod ({ cls := "java/lang/Object", name := "<init>", desc := "()V" } : Jvm.MethodName)).before a0 Z = true := hw _ (List.mem_of_getElem? (i := 17) rfl)
theorem w18 {a0 : Array Value} {Z : State} (hw : HW a0 Z) : (Jvm.Cond.code ({ cls := "java/lang/Object", name := "<init>", desc := "()V" } : Jvm.MethodName) object_method_1_code (1 : Nat) (Option.none : Option Jvm.ClassFile.FieldType)).before a0 Z = true := hw _ (List.mem_of_getElem? (i := 18) rfl)
theorem w19 {a0 : Array Value} {Z : State} (hw : HW a0 Z) : (Jvm.Cond.classLink "com/example/sigfig/sigfig/NumeralHasPointPinLaw" (20 : Nat) "java/lang/String").before a0 Z = true := hw _ (List.mem_of_getElem? (i := 19) rfl)
theorem w20 {a0 : Array Value} {Z : State} (hw : HW a0 Z) : (Jvm.Cond.instantiable "java/lang/String" (4 : Nat)).before a0 Z = true := hw _ (List.mem_of_getElem? (i := 20) rfl)
theorem w21 {a0 : Array Value} {Z : State} (hw : HW a0 Z) : (Jvm.Cond.initialized "java/lang/String").before a0 Z = true := hw _ (List.mem_of_getElem? (i := 21) rfl)
theorem w22 {a0 : Array Value} {Z : State} (hw : HW a0 Z) : (Jvm.Cond.methodLink "com/example/sigfig/sigfig/NumeralHasPointPinLaw" (22 : Nat) ({ cls := "java/lang/String", name := "<init>", desc := "([C)V" } : Jvm.MethodName)).before a0 Z = true := hw _ (List.mem_of_getElem? (i := 22) rfl)
theorem w23 {a0 : Array Value} {Z : State} (hw : HW a0 Z) : (Jvm.Cond.instanceMethod ({ cls := "java/lang/String", name := "<init>", desc := "([C)V" } : Jvm.MethodName)).before a0 Z = true := hw _ (List.mem_of_getElem? (i := 23) rfl)
theorem w24 {a0 : Array Value} {Z : State} (hw : HW a0 Z) : (Jvm.Cond.code ({ cls := "java/lang/String", name := "<init>", desc := "([C)V" } : Jvm.MethodName) jdk_42_method_3_code (2 : Nat) (Option.none : Option Jvm.ClassFile.FieldType)).before a0 Z = true := hw _ (List.mem_of_getElem? (i := 24) rfl)
theorem w43 {a0 : Array Value} {Z : State} (hw : HW a0 Z) : (Jvm.Cond.laysFinal "java/lang/String" "java/lang/String" "coder" "B").before a0 Z = true := hw _ (List.mem_of_getElem? (i := 43) rfl)
theorem w45 {a0 : Array Value} {Z : State} (hw : HW a0 Z) : (Jvm.Cond.laysFinal "java/lang/String" "java/lang/String" "value" "[B").before a0 Z = true := hw _ (List.mem_of_getElem? (i := 45) rfl)
theorem w46 {a0 : Array Value} {Z : State} (hw : HW a0 Z) : (Jvm.Cond.methodLink "com/example/sigfig/sigfig/NumeralHasPointPinLaw" (25 : Nat) ({ cls := "com/example/sigfig/sigfig/Numeral", name := "set", desc := "(ZLjava/lang/String;IIIIJZJ)V" } : Jvm.MethodName)).before a0 Z = true := hw _ (List.mem_of_getElem? (i := 46) rfl)
theorem w47 {a0 : Array Value} {Z : State} (hw : HW a0 Z) : (Jvm.Cond.declares ({ cls := "com/example/sigfig/sigfig/Numeral", name := "set", desc := "(ZLjava/lang/String;IIIIJZJ)V" } : Jvm.MethodName)).before a0 Z = true := hw _ (List.mem_of_getElem? (i := 47) rfl)
theorem w48 {a0 : Array Value} {Z : State} (hw : HW a0 Z) : (Jvm.Cond.instanceMethod ({ cls := "com/example/sigfig/sigfig/Numeral", name := "set", desc := "(ZLjava/lang/String;IIIIJZJ)V" } : Jvm.MethodName)).before a0 Z = true := hw _ (List.mem_of_getElem? (i := 48) rfl)
theorem w49 {a0 : Array Value} {Z : State} (hw : HW a0 Z) : (Jvm.Cond.selects "com/example/sigfig/sigfig/Numeral" ({ cls := "com/example/sigfig/sigfig/Numeral", name := "set", desc := "(ZLjava/lang/String;IIIIJZJ)V" } : Jvm.MethodName) ({ cls := "com/example/sigfig/sigfig/Numeral", name := "set", desc := "(ZLjava/lang/String;IIIIJZJ)V" } : Jvm.MethodName)).before a0 Z = true := hw _ (List.mem_of_getElem? (i := 49) rfl)
theorem w50 {a0 : Array Value} {Z : State} (hw : HW a0 Z) : (Jvm.Cond.code ({ cls := "com/example/sigfig/sigfig/Numeral", name := "set", desc := "(ZLjava/lang/String;IIIIJZJ)V" } : Jvm.MethodName) prog_14_method_2_code (12 : Nat) (Option.none : Option Jvm.ClassFile.FieldType)).before a0 Z = true := hw _ (List.mem_of_getElem? (i := 50) rfl)
theorem w51 {a0 : Array Value} {Z : State} (hw : HW a0 Z) : (Jvm.Cond.fieldLink "com/example/sigfig/sigfig/Numeral" (11 : Nat) "com/example/sigfig/sigfig/Numeral" "negative" "Z").before a0 Z = true := hw _ (List.mem_of_getElem? (i := 51) rfl)
theorem w52 {a0 : Array Value} {Z : State} (hw : HW a0 Z) : (Jvm.Cond.lays "com/example/sigfig/sigfig/Numeral" "com/example/sigfig/sigfig/Numeral" "negative" "Z").before a0 Z = true := hw _ (List.mem_of_getElem? (i := 52) rfl)
theorem w53 {a0 : Array Value} {Z : State} (hw : HW a0 Z) : (Jvm.Cond.fieldLink "com/example/sigfig/sigfig/Numeral" (15 : Nat) "com/example/sigfig/sigfig/Numeral" "text" "Ljava/lang/String;").before a0 Z = true := hw _ (List.mem_of_getElem? (i := 53) rfl)
theorem w54 {a0 : Array Value} {Z : State} (hw : HW a0 Z) : (Jvm.Cond.lays "com/example/sigfig/sigfig/Numeral" "com/example/sigfig/sigfig/Numeral" "text" "Ljava/lang/String;").before a0 Z = true := hw _ (List.mem_of_getElem? (i := 54) rfl)
theorem w55 {a0 : Array Value} {Z : State} (hw : HW a0 Z) : (Jvm.Cond.fieldLink "com/example/sigfig/sigfig/Numeral" (19 : Nat) "com/example/sigfig/sigfig/Numeral" "integerStart" "I").before a0 Z = true := hw _ (List.mem_of_getElem? (i := 55) rfl)
theorem w56 {a0 : Array Value} {Z : State} (hw : HW a0 Z) : (Jvm.Cond.lays "com/example/sigfig/sigfig/Numeral" "com/example/sigfig/sigfig/Numeral" "integerStart" "I").before a0 Z = true := hw _ (List.mem_of_getElem? (i := 56) rfl)
theorem w57 {a0 : Array Value} {Z : State} (hw : HW a0 Z) : (Jvm.Cond.fieldLink "com/example/sigfig/sigfig/Numeral" (23 : Nat) "com/example/sigfig/sigfig/Numeral" "integerEnd" "I").before a0 Z = true := hw _ (List.mem_of_getElem? (i := 57) rfl)
theorem w58 {a0 : Array Value} {Z : State} (hw : HW a0 Z) : (Jvm.Cond.lays "com/example/sigfig/sigfig/Numeral" "com/example/sigfig/sigfig/Numeral" "integerEnd" "I").before a0 Z = true := hw _ (List.mem_of_getElem? (i := 58) rfl)
theorem w59 {a0 : Array Value} {Z : State} (hw : HW a0 Z) : (Jvm.Cond.fieldLink "com/example/sigfig/sigfig/Numeral" (26 : Nat) "com/example/sigfig/sigfig/Numeral" "fractionStart" "I").before a0 Z = true := hw _ (List.mem_of_getElem? (i := 59) rfl)
theorem w60 {a0 : Array Value} {Z : State} (hw : HW a0 Z) : (Jvm.Cond.lays "com/example/sigfig/sigfig/Numeral" "com/example/sigfig/sigfig/Numeral" "fractionStart" "I").before a0 Z = true := hw _ (List.mem_of_getElem? (i := 60) rfl)
theorem w61 {a0 : Array Value} {Z : State} (hw : HW a0 Z) : (Jvm.Cond.fieldLink "com/example/sigfig/sigfig/Numeral" (29 : Nat) "com/example/sigfig/sigfig/Numeral" "fractionEnd" "I").before a0 Z = true := hw _ (List.mem_of_getElem? (i := 61) rfl)
theorem w62 {a0 : Array Value} {Z : State} (hw : HW a0 Z) : (Jvm.Cond.lays "com/example/sigfig/sigfig/Numeral" "com/example/sigfig/sigfig/Numeral" "fractionEnd" "I").before a0 Z = true := hw _ (List.mem_of_getElem? (i := 62) rfl)
theorem w63 {a0 : Array Value} {Z : State} (hw : HW a0 Z) : (Jvm.Cond.fieldLink "com/example/sigfig/sigfig/Numeral" (32 : Nat) "com/example/sigfig/sigfig/Numeral" "unscaled" "J").before a0 Z = true := hw _ (List.mem_of_getElem? (i := 63) rfl)
theorem w64 {a0 : Array Value} {Z : State} (hw : HW a0 Z) : (Jvm.Cond.lays "com/example/sigfig/sigfig/Numeral" "com/example/sigfig/sigfig/Numeral" "unscaled" "J").before a0 Z = true := hw _ (List.mem_of_getElem? (i := 64) rfl)
theorem w65 {a0 : Array Value} {Z : State} (hw : HW a0 Z) : (Jvm.Cond.fieldLink "com/example/sigfig/sigfig/Numeral" (36 : Nat) "com/example/sigfig/sigfig/Numeral" "hasExponent" "Z").before a0 Z = true := hw _ (List.mem_of_getElem? (i := 65) rfl)
theorem w66 {a0 : Array Value} {Z : State} (hw : HW a0 Z) : (Jvm.Cond.lays "com/example/sigfig/sigfig/Numeral" "com/example/sigfig/sigfig/Numeral" "hasExponent" "Z").before a0 Z = true := hw _ (List.mem_of_getElem? (i := 66) rfl)
theorem w67 {a0 : Array Value} {Z : State} (hw : HW a0 Z) : (Jvm.Cond.fieldLink "com/example/sigfig/sigfig/Numeral" (39 : Nat) "com/example/sigfig/sigfig/Numeral" "exponent" "J").before a0 Z = true := hw _ (List.mem_of_getElem? (i := 67) rfl)
theorem w68 {a0 : Array Value} {Z : State} (hw : HW a0 Z) : (Jvm.Cond.lays "com/example/sigfig/sigfig/Numeral" "com/example/sigfig/sigfig/Numeral" "exponent" "J").before a0 Z = true := hw _ (List.mem_of_getElem? (i := 68) rfl)
theorem w69 {a0 : Array Value} {Z : State} (hw : HW a0 Z) : (Jvm.Cond.methodLink "com/example/sigfig/sigfig/NumeralHasPointPinLaw" (29 : Nat) ({ cls := "com/example/sigfig/sigfig/Numeral", name := "hasPoint", desc := "()Z" } : Jvm.MethodName)).before a0 Z = true := hw _ (List.mem_of_getElem? (i := 69) rfl)
theorem w70 {a0 : Array Value} {Z : State} (hw : HW a0 Z) : (Jvm.Cond.declares ({ cls := "com/example/sigfig/sigfig/Numeral", name := "hasPoint", desc := "()Z" } : Jvm.MethodName)).before a0 Z = true := hw _ (List.mem_of_getElem? (i := 70) rfl)
theorem w71 {a0 : Array Value} {Z : State} (hw : HW a0 Z) : (Jvm.Cond.instanceMethod ({ cls := "com/example/sigfig/sigfig/Numeral", name := "hasPoint", desc := "()Z" } : Jvm.MethodName)).before a0 Z = true := hw _ (List.mem_of_getElem? (i := 71) rfl)
theorem w72 {a0 : Array Value} {Z : State} (hw : HW a0 Z) : (Jvm.Cond.selects "com/example/sigfig/sigfig/Numeral" ({ cls := "com/example/sigfig/sigfig/Numeral", name := "hasPoint", desc := "()Z" } : Jvm.MethodName) ({ cls := "com/example/sigfig/sigfig/Numeral", name := "hasPoint", desc := "()Z" } : Jvm.MethodName)).before a0 Z = true := hw _ (List.mem_of_getElem? (i := 72) rfl)
theorem w73 {a0 : Array Value} {Z : State} (hw : HW a0 Z) : (Jvm.Cond.code ({ cls := "com/example/sigfig/sigfig/Numeral", name := "hasPoint", desc := "()Z" } : Jvm.MethodName) prog_14_method_6_code (1 : Nat) (Option.some Jvm.ClassFile.FieldType.boolean)).before a0 Z = true := hw _ (List.mem_of_getElem? (i := 73) rfl)
theorem d1_0 : decode method_3_code 0 = .ok (.bipush 48, 2) := by decide +kernel
theorem d1_2 : decode method_3_code 2 = .ok (.lload_n 0, 1) := by decide +kernel
theorem d1_3 : decode method_3_code 3 = .ok (.iconst 4, 1) := by decide +kernel
theorem d1_4 : decode method_3_code 4 = .ok (.iload_n 2, 1) := by decide +kernel
theorem d1_5 : decode method_3_code 5 = .ok (.imul, 1) := by decide +kernel
theorem d1_6 : decode method_3_code 6 = .ok (.lushr, 1) := by decide +kernel
theorem d1_7 : decode method_3_code 7 = .ok (.ldc2_w 33, 3) := by decide +kernel
theorem d1_10 : decode method_3_code 10 = .ok (.land, 1) := by decide +kernel
theorem d1_11 : decode method_3_code 11 = .ok (.ldc2_w 35, 3) := by decide +kernel
theorem d1_14 : decode method_3_code 14 = .ok (.lrem, 1) := by decide +kernel
theorem d1_15 : decode method_3_code 15 = .ok (.l2i, 1) := by decide +kernel
theorem d1_16 : decode method_3_code 16 = .ok (.iadd, 1) := by decide +kernel
theorem d1_17 : decode method_3_code 17 = .ok (.i2c, 1) := by decide +kernel
theorem d1_18 : decode method_3_code 18 = .ok (.ireturn, 1) := by decide +kernel
theorem d2_0 : decode method_4_code 0 = .ok (.lload_n 0, 1) := by decide +kernel
theorem d2_1 : decode method_4_code 1 = .ok (.lstore 5, 2) := by decide +kernel
theorem d2_3 : decode method_4_code 3 = .ok (.iload_n 3, 1) := by decide +kernel
theorem d2_4 : decode method_4_code 4 = .ok (.iload 4, 2) := by decide +kernel
theorem d2_6 : decode method_4_code 6 = .ok (.if_icmp .ge 19, 3) := by decide +kernel
theorem d2_9 : decode method_4_code 9 = .ok (.lload 5, 2) := by decide +kernel
theorem d2_11 : decode method_4_code 11 = .ok (.ldc2_w 35, 3) := by decide +kernel
theorem d2_14 : decode method_4_code 14 = .ok (.lmul, 1) := by decide +kernel
theorem d2_15 : decode method_4_code 15 = .ok (.aload_n 2, 1) := by decide +kernel
theorem d2_16 : decode method_4_code 16 = .ok (.iload_n 3, 1) := by decide +kernel
theorem d2_17 : decode method_4_code 17 = .ok (.caload, 1) := by decide +kernel
theorem d2_18 : decode method_4_code 18 = .ok (.bipush 48, 2) := by decide +kernel
theorem d2_20 : decode method_4_code 20 = .ok (.isub, 1) := by decide +kernel
theorem d2_21 : decode method_4_code 21 = .ok (.i2l, 1) := by decide +kernel
theorem d2_22 : decode method_4_code 22 = .ok (.ladd, 1) := by decide +kernel
theorem d2_23 : decode method_4_code 23 = .ok (.lstore 5, 2) := by decide +kernel
theorem d2_25 : decode method_4_code 25 = .ok (.iload_n 3, 1) := by decide +kernel
theorem d2_26 : decode method_4_code 26 = .ok (.iconst 1, 1) := by decide +kernel
theorem d2_27 : decode method_4_code 27 = .ok (.iadd, 1) := by decide +kernel
theorem d2_28 : decode method_4_code 28 = .ok (.iload 4, 2) := by decide +kernel
theorem d2_30 : decode method_4_code 30 = .ok (.if_icmp .ge 21, 3) := by decide +kernel
theorem d2_33 : decode method_4_code 33 = .ok (.lload 5, 2) := by decide +kernel
theorem d2_35 : decode method_4_code 35 = .ok (.ldc2_w 35, 3) := by decide +kernel
theorem d2_38 : decode method_4_code 38 = .ok (.lmul, 1) := by decide +kernel
theorem d2_39 : decode method_4_code 39 = .ok (.aload_n 2, 1) := by decide +kernel
theorem d2_40 : decode method_4_code 40 = .ok (.iload_n 3, 1) := by decide +kernel
theorem d2_41 : decode method_4_code 41 = .ok (.iconst 1, 1) := by decide +kernel
theorem d2_42 : decode method_4_code 42 = .ok (.iadd, 1) := by decide +kernel
theorem d2_43 : decode method_4_code 43 = .ok (.caload, 1) := by decide +kernel
theorem d2_44 : decode method_4_code 44 = .ok (.bipush 48, 2) := by decide +kernel
theorem d2_46 : decode method_4_code 46 = .ok (.isub, 1) := by decide +kernel
theorem d2_47 : decode method_4_code 47 = .ok (.i2l, 1) := by decide +kernel
theorem d2_48 : decode method_4_code 48 = .ok (.ladd, 1) := by decide +kernel
theorem d2_49 : decode method_4_code 49 = .ok (.lstore 5, 2) := by decide +kernel
theorem d2_51 : decode method_4_code 51 = .ok (.iload_n 3, 1) := by decide +kernel
theorem d2_52 : decode method_4_code 52 = .ok (.iconst 2, 1) := by decide +kernel
theorem d2_53 : decode method_4_code 53 = .ok (.iadd, 1) := by decide +kernel
theorem d2_54 : decode method_4_code 54 = .ok (.iload 4, 2) := by decide +kernel
theorem d2_56 : decode method_4_code 56 = .ok (.if_icmp .ge 21, 3) := by decide +kernel
theorem d2_59 : decode method_4_code 59 = .ok (.lload 5, 2) := by decide +kernel
theorem d2_61 : decode method_4_code 61 = .ok (.ldc2_w 35, 3) := by decide +kernel
theorem d2_64 : decode method_4_code 64 = .ok (.lmul, 1) := by decide +kernel
theorem d2_65 : decode method_4_code 65 = .ok (.aload_n 2, 1) := by decide +kernel
theorem d2_66 : decode method_4_code 66 = .ok (.iload_n 3, 1) := by decide +kernel
theorem d2_67 : decode method_4_code 67 = .ok (.iconst 2, 1) := by decide +kernel
theorem d2_68 : decode method_4_code 68 = .ok (.iadd, 1) := by decide +kernel
theorem d2_69 : decode method_4_code 69 = .ok (.caload, 1) := by decide +kernel
theorem d2_70 : decode method_4_code 70 = .ok (.bipush 48, 2) := by decide +kernel
theorem d2_72 : decode method_4_code 72 = .ok (.isub, 1) := by decide +kernel
theorem d2_73 : decode method_4_code 73 = .ok (.i2l, 1) := by decide +kernel
theorem d2_74 : decode method_4_code 74 = .ok (.ladd, 1) := by decide +kernel
theorem d2_75 : decode method_4_code 75 = .ok (.lstore 5, 2) := by decide +kernel
theorem d2_77 : decode method_4_code 77 = .ok (.lload 5, 2) := by decide +kernel
theorem d2_79 : decode method_4_code 79 = .ok (.lreturn, 1) := by decide +kernel
theorem d3_0 : decode prog_14_method_1_code 0 = .ok (.aload_n 0, 1) := by decide +kernel
theorem d3_1 : decode prog_14_method_1_code 1 = .ok (.invokespecial 5, 3) := by decide +kernel
theorem d3_4 : decode prog_14_method_1_code 4 = .ok (.return_, 1) := by decide +kernel
theorem d10_0 : decode prog_14_method_2_code 0 = .ok (.aload_n 0, 1) := by decide +kernel
theorem d10_1 : decode prog_14_method_2_code 1 = .ok (.iload_n 1, 1) := by decide +kernel
theorem d10_2 : decode prog_14_method_2_code 2 = .ok (.putfield 11, 3) := by decide +kernel
theorem d10_5 : decode prog_14_method_2_code 5 = .ok (.aload_n 0, 1) := by decide +kernel
theorem d10_6 : decode prog_14_method_2_code 6 = .ok (.aload_n 2, 1) := by decide +kernel
theorem d10_7 : decode prog_14_method_2_code 7 = .ok (.putfield 15, 3) := by decide +kernel
theorem d10_10 : decode prog_14_method_2_code 10 = .ok (.aload_n 0, 1) := by decide +kernel
theorem d10_11 : decode prog_14_method_2_code 11 = .ok (.iload_n 3, 1) := by decide +kernel
theorem d10_12 : decode prog_14_method_2_code 12 = .ok (.putfield 19, 3) := by decide +kernel
theorem d10_15 : decode prog_14_method_2_code 15 = .ok (.aload_n 0, 1) := by decide +kernel
theorem d10_16 : decode prog_14_method_2_code 16 = .ok (.iload 4, 2) := by decide +kernel
theorem d10_18 : decode prog_14_method_2_code 18 = .ok (.putfield 23, 3) := by decide +kernel
theorem d10_21 : decode prog_14_method_2_code 21 = .ok (.aload_n 0, 1) := by decide +kernel
theorem d10_22 : decode prog_14_method_2_code 22 = .ok (.iload 5, 2) := by decide +kernel
theorem d10_24 : decode prog_14_method_2_code 24 = .ok (.putfield 26, 3) := by decide +kernel
theorem d10_27 : decode prog_14_method_2_code 27 = .ok (.aload_n 0, 1) := by decide +kernel
theorem d10_28 : decode prog_14_method_2_code 28 = .ok (.iload 6, 2) := by decide +kernel
theorem d10_30 : decode prog_14_method_2_code 30 = .ok (.putfield 29, 3) := by decide +kernel
theorem d10_33 : decode prog_14_method_2_code 33 = .ok (.aload_n 0, 1) := by decide +kernel
theorem d10_34 : decode prog_14_method_2_code 34 = .ok (.lload 7, 2) := by decide +kernel
theorem d10_36 : decode prog_14_method_2_code 36 = .ok (.putfield 32, 3) := by decide +kernel
theorem d10_39 : decode prog_14_method_2_code 39 = .ok (.aload_n 0, 1) := by decide +kernel
theorem d10_40 : decode prog_14_method_2_code 40 = .ok (.iload 9, 2) := by decide +kernel
theorem d10_42 : decode prog_14_method_2_code 42 = .ok (.putfield 36, 3) := by decide +kernel
theorem d10_45 : decode prog_14_method_2_code 45 = .ok (.aload_n 0, 1) := by decide +kernel
theorem d10_46 : decode prog_14_method_2_code 46 = .ok (.lload 10, 2) := by decide +kernel
theorem d10_48 : decode prog_14_method_2_code 48 = .ok (.putfield 39, 3) := by decide +kernel
theorem d10_51 : decode prog_14_method_2_code 51 = .ok (.return_, 1) := by decide +kernel
theorem d11_0 : decode prog_14_method_6_code 0 = .ok (.aload_n 0, 1) := by decide +kernel
theorem d11_1 : decode prog_14_method_6_code 1 = .ok (.getfield 26, 3) := by decide +kernel
theorem d11_4 : decode prog_14_method_6_code 4 = .ok (.aload_n 0, 1) := by decide +kernel
theorem d11_5 : decode prog_14_method_6_code 5 = .ok (.getfield 23, 3) := by decide +kernel
theorem d11_8 : decode prog_14_method_6_code 8 = .ok (.if_icmp .le 7, 3) := by decide +kernel
theorem d11_11 : decode prog_14_method_6_code 11 = .ok (.iconst 1, 1) := by decide +kernel
theorem d11_12 : decode prog_14_method_6_code 12 = .ok (.goto 4, 3) := by decide +kernel
theorem d11_15 : decode prog_14_method_6_code 15 = .ok (.iconst 0, 1) := by decide +kernel
theorem d11_16 : decode prog_14_method_6_code 16 = .ok (.ireturn, 1) := by decide +kernel
theorem pd_0 : parseMethodDescriptor "(JI)C" = some ⟨[.long, .int], (some .char)⟩ := by decide +kernel
theorem pd_1 : parseMethodDescriptor "(J[CII)J" = some ⟨[.long, (.array .char), .int, .int], (some .long)⟩ := by decide +kernel
theorem pd_2 : parseMethodDescriptor "()V" = some ⟨[], none⟩ := by decide +kernel
theorem pd_3 : parseMethodDescriptor "([C)V" = some ⟨[(.array .char)], none⟩ := by decide +kernel
theorem pd_4 : parseMethodDescriptor "(ZLjava/lang/String;IIIIJZJ)V" = some ⟨[.boolean, (.object "java/lang/String"), .int, .int, .int, .int, .long, .boolean, .long], none⟩ := by decide +kernel
theorem pd_5 : parseMethodDescriptor "()Z" = some ⟨[], (some .boolean)⟩ := by decide +kernel
theorem pn_0 : plainName "com/example/sigfig/sigfig/NumeralHasPointPinLaw" = true := by first | (simp [plainName, overriddenIn]; done) | decide +kernel
theorem pn_1 : plainName "com/example/sigfig/sigfig/Numeral" = true := by first | (simp [plainName, overriddenIn]; done) | decide +kernel
theorem hws {a0 : Array Value} {Z : State} (hw : HW a0 Z) : ∀ d ∈ StrChars.Road.words, d.before a0 Z = true := fun d hd => hw d ((by decide +kernel : ∀ d ∈ StrChars.Road.words, d ∈ tables_1) d hd)
theorem add_eq {x y : Int32} (h0 : 0 ≤ x.toInt + y.toInt) (h1 : x.toInt + y.toInt ≤ 1000) : (x + y).toInt = x.toInt + y.toInt := by
  have h2 := c_iadd x y
  have h3 := rng32 (x + y)
  omega
theorem add_small {x : Int32} (h0 : 0 ≤ x.toInt) (h1 : x.toInt ≤ 13) : (x + (1 : Int32)).toInt = x.toInt + 1 ∧ (x + (2 : Int32)).toInt = x.toInt + 2 := by
  have e1 : (1 : Int32).toInt = 1 := rfl
  have e2 : (2 : Int32).toInt = 2 := rfl
  exact ⟨(add_eq (by omega) (by omega)).trans (by omega), (add_eq (by omega) (by omega)).trans (by omega)⟩
theorem nat_idx {j : Int32} (h : 0 ≤ j.toInt) : j.toInt = (j.toInt.toNat : Int) := by omega
theorem at13 {cs : List Int32} (hl : cs.length = 13) {j : Int32} (h0 : 0 ≤ j.toInt) (h1 : j.toInt < 13) : ∃ c, (cs.map Value.int)[j.toInt.toNat]? = some (.int c) := by
  have hi : j.toInt.toNat < cs.length := by omega
  exact ⟨cs[j.toInt.toNat], by rw [List.getElem?_map, List.getElem?_eq_getElem hi]; rfl⟩
theorem lat_at {cs : List Int32} {i : Nat} {c : Int32} (q : Lat cs) (h : (cs.map Value.int)[i]? = some (.int c)) : ¬ c < 0 ∧ ¬ (255 : Int32) < c := by
  rw [List.getElem?_map] at h
  obtain ⟨y, h1, h2⟩ := Option.map_eq_some_iff.mp h
  cases h2
  exact q _ (List.mem_of_getElem? h1)
theorem lat_set {cs : List Int32} {i : Nat} {c : Int32} (q : Lat cs) (r : ¬ c < 0 ∧ ¬ (255 : Int32) < c) : Lat (cs.set i c) := fun y hy => (List.mem_or_eq_of_mem_set hy).elim (q y) (fun e => e ▸ r)
theorem ary_set {Z : State} {h : Heap} {b : Addr} {cs : List Int32} {i : Nat} {c : Int32} (A : Ary Z h b .char ((cs.map Value.int).set i (.int c))) : Ary Z h b .char ((cs.set i c).map Value.int) := by rw [List.map_set]; exact A
theorem dig_lat (x : Int64) : ¬ nar .char (chr ((48 : Int32) + (x - (x / (10 : Int64)) * (10 : Int64)).toInt32)) < 0 ∧ ¬ (255 : Int32) < nar .char (chr ((48 : Int32) + (x - (x / (10 : Int64)) * (10 : Int64)).toInt32)) := by
  have h0 := c_lrem x 10 10 (by decide)
  have h1 := c_l2i (x - (x / (10 : Int64)) * (10 : Int64))
  have h2 := rng32 (x - (x / (10 : Int64)) * (10 : Int64)).toInt32
  have h3 : (x - (x / (10 : Int64)) * (10 : Int64)).toInt32.toInt = (x - (x / (10 : Int64)) * (10 : Int64)).toInt := by rcases Int.lt_or_le x.toInt 0 with q | q <;> omega
  have e : (48 : Int32).toInt = 48 := rfl
  have h4 : ((48 : Int32) + (x - (x / (10 : Int64)) * (10 : Int64)).toInt32).toInt = 48 + (x - (x / (10 : Int64)) * (10 : Int64)).toInt32.toInt := (add_eq (by rcases Int.lt_or_le x.toInt 0 with q | q <;> omega) (by rcases Int.lt_or_le x.toInt 0 with q | q <;> omega)).trans (by omega)
  have h5 : 0 ≤ ((48 : Int32) + (x - (x / (10 : Int64)) * (10 : Int64)).toInt32).toInt ∧ ((48 : Int32) + (x - (x / (10 : Int64)) * (10 : Int64)).toInt32).toInt ≤ 255 := by rcases Int.lt_or_le x.toInt 0 with q | q <;> omega
  rw [nar_chr, chr_id (c := (48 : Int32) + (x - (x / (10 : Int64)) * (10 : Int64)).toInt32) (by omega), chr_id (by omega)]
  exact lat_iff.mpr h5
theorem d9_lat {c : Int32} (q : ¬ c < 0 ∧ ¬ (255 : Int32) < c) : ¬ nar .char (chr ((49 : Int32) + ((c - (48 : Int32)) % (9 : Int32)))) < 0 ∧ ¬ (255 : Int32) < nar .char (chr ((49 : Int32) + ((c - (48 : Int32)) % (9 : Int32)))) := by
  have q' := lat_iff.mp q
  have e : (48 : Int32).toInt = 48 := rfl
  have e2 : (49 : Int32).toInt = 49 := rfl
  have h1 := c_isub c 48
  have h2 := rng32 (c - (48 : Int32))
  have h3 := c_irem (c - (48 : Int32)) 9 9 (by decide)
  have h4 : 0 ≤ (49 : Int32).toInt + ((c - (48 : Int32)) % (9 : Int32)).toInt ∧ (49 : Int32).toInt + ((c - (48 : Int32)) % (9 : Int32)).toInt ≤ 255 := by rcases Int.lt_or_le (c - (48 : Int32)).toInt 0 with r | r <;> omega
  have h5 := add_eq h4.1 (by omega)
  rw [nar_chr, chr_id (c := (49 : Int32) + ((c - (48 : Int32)) % (9 : Int32))) (by omega), chr_id (by omega)]
  exact lat_iff.mpr (by omega)
theorem pt0 {pt ie : Int32} (h : pt = 0) : ie.toInt = ie.toInt + pt.toInt := by subst h; show ie.toInt = ie.toInt + 0; omega
theorem pt1 {pt ie : Int32} (b : pt = 0 ∨ pt = 1) (h : ¬ pt = 0) (h0 : 0 ≤ ie.toInt) (h1 : ie.toInt ≤ 100) : (ie + (1 : Int32)).toInt = ie.toInt + pt.toInt := by
  rcases b with rfl | rfl
  · exact absurd rfl h
  · exact add_eq (by show 0 ≤ ie.toInt + 1; omega) (by show ie.toInt + 1 ≤ 1000; omega)
theorem fin3 {pt fs ie r : Int32} (b : pt = 0 ∨ pt = 1) (h : fs.toInt = ie.toInt + pt.toInt) (r1 : ie < fs → r = 1) (r0 : ¬ ie < fs → r = 0) : r = pt := by
  rcases b with rfl | rfl
  · exact r0 (fun q => by have := toInt_lt.mp q; have e : (0 : Int32).toInt = 0 := rfl; omega)
  · exact r1 (toInt_lt.mpr (by have e : (1 : Int32).toInt = 1 := rfl; omega))
abbrev G_digit (md : Md) (l : Launch) (Z : State) (n0 : Nat) (sd : Int64) (kk : Int32) (h0 : Heap) := Go md l Z n0 ({ frames := 0, cells := 0, slots := 0, locals := 0 } : Room) method_3_code 3 (some .char) "com/example/sigfig/sigfig/NumeralHasPointPinLaw" "digit" (fun v h' _ => h0 = h' ∧ ∃ r : Int32, v = some (.int r) ∧ ¬ r < 0 ∧ ¬ (255 : Int32) < r)
theorem ef_digit (m : MethodId) (sd : Int64) (kk : Int32) : entryFrame m #[(.long sd), (.int kk)] 3 = mkF m 0 #[.val (.long sd), .second, .val (.int kk)] [] := by first | (simp [entryFrame, mkF, argsToLocals, Value.category]; done) | rfl
set_option maxRecDepth 65536 in
set_option maxHeartbeats 40000000 in
theorem c_digit {md : Md} {l : Launch} {Z : State} {n0 : Nat} {a0 : Array Value} (hw : HW a0 Z) (sd : Int64) (kk : Int32) {h0 : Heap}  : G_digit md l Z n0 sd kk h0 0 0 [] h0 0 #[.val (.long sd), .second, .val (.int kk)] [] := by
  refine Go.bipush 2 (48 : Int32) d1_0 rfl rfl ?_
  refine Go.lloadN 3 d1_2 rfl rfl ?_
  refine Go.iconst 4 (4 : Int32) d1_3 rfl rfl ?_
  refine Go.iloadN 5 d1_4 rfl rfl ?_
  refine Go.imul 6 d1_5 rfl ?_
  refine Go.lushr 7 d1_6 rfl ?_
  refine Go.ldc2J 10 d1_7 rfl (w5 hw) ?_
  refine Go.land 11 d1_10 rfl ?_
  refine Go.ldc2J 14 d1_11 rfl (w6 hw) ?_
  refine Go.lrem 15 d1_14 rfl (by decide) ?_
  refine Go.l2i 16 d1_15 rfl ?_
  refine Go.iadd 17 d1_16 rfl ?_
  refine Go.i2c 18 d1_17 rfl ?_
  exact Go.retN (nar .char (chr ((48 : Int32) + ((((ushrL sd ((4 : Int32) * kk)) &&& (15 : Int64)) - (((ushrL sd ((4 : Int32) * kk)) &&& (15 : Int64)) / (10 : Int64)) * (10 : Int64))).toInt32))) d1_18 rfl (t := .char) (by simp) rfl (sf' := []) (⟨rfl, _, rfl, dig_lat _⟩) (fun _ q => nomatch q) (Nat.le_of_ble_eq_true rfl) (Nat.le_of_ble_eq_true rfl)
abbrev G_append (md : Md) (l : Launch) (Z : State) (n0 : Nat) (x : Int64) (b : Addr) (fr to : Int32) (cs : List Int32) (h0 : Heap) := Go md l Z n0 ({ frames := 0, cells := 0, slots := 0, locals := 0 } : Room) method_4_code 7 (some .long) "com/example/sigfig/sigfig/NumeralHasPointPinLaw" "append" (fun v h' _ => h0 = h' ∧ ∃ y : Int64, v = some (.long y))
theorem ef_append (m : MethodId) (x : Int64) (b : Addr) (fr to : Int32) (cs : List Int32) : entryFrame m #[(.long x), (.ref b), (.int fr), (.int to)] 7 = mkF m 0 #[.val (.long x), .second, .val (.ref b), .val (.int fr), .val (.int to), .unset, .unset] [] := by first | (simp [entryFrame, mkF, argsToLocals, Value.category]; done) | rfl
set_option maxRecDepth 65536 in
set_option maxHeartbeats 40000000 in
theorem c_append {md : Md} {l : Launch} {Z : State} {n0 : Nat} {a0 : Array Value} (hw : HW a0 Z) (x : Int64) (b : Addr) (fr to : Int32) (cs : List Int32) {h0 : Heap} (A : Ary Z h0 b .char (cs.map Value.int)) (hl : cs.length = 13) (f0 : 0 ≤ fr.toInt) (f1 : fr.toInt ≤ 13) (t1 : to.toInt ≤ 13) : G_append md l Z n0 x b fr to cs h0 0 0 [] h0 0 #[.val (.long x), .second, .val (.ref b), .val (.int fr), .val (.int to), .unset, .unset] [] := by
  refine Go.lloadN 1 d2_0 rfl rfl ?_
  refine Go.lstore 3 #[.val (.long x), .second, .val (.ref b), .val (.int fr), .val (.int to), .val (.long x), .second] d2_1 rfl rfl ?_
  refine Go.iloadN 4 d2_3 rfl rfl ?_
  refine Go.iload 6 d2_4 rfl rfl ?_
  have cut25 : ∀ (y1 : Int64), G_append md l Z n0 x b fr to cs h0 0 0 [] h0 25 #[.val (.long x), .second, .val (.ref b), .val (.int fr), .val (.int to), .val (.long y1), .second] [] := by
    intro y1
    refine Go.iloadN 26 d2_25 rfl rfl ?_
    refine Go.iconst 27 (1 : Int32) d2_26 rfl rfl ?_
    refine Go.iadd 28 d2_27 rfl ?_
    refine Go.iload 30 d2_28 rfl rfl ?_
    have cut51 : ∀ (y2 : Int64), G_append md l Z n0 x b fr to cs h0 0 0 [] h0 51 #[.val (.long x), .second, .val (.ref b), .val (.int fr), .val (.int to), .val (.long y2), .second] [] := by
      intro y2
      refine Go.iloadN 52 d2_51 rfl rfl ?_
      refine Go.iconst 53 (2 : Int32) d2_52 rfl rfl ?_
      refine Go.iadd 54 d2_53 rfl ?_
      refine Go.iload 56 d2_54 rfl rfl ?_
      have cut77 : ∀ (y3 : Int64), G_append md l Z n0 x b fr to cs h0 0 0 [] h0 77 #[.val (.long x), .second, .val (.ref b), .val (.int fr), .val (.int to), .val (.long y3), .second] [] := by
        intro y3
        refine Go.lload 79 d2_77 rfl rfl ?_
        exact Go.retJ d2_79 rfl (sf' := []) (⟨rfl, _, rfl⟩) (fun _ q => nomatch q) (Nat.le_of_ble_eq_true rfl) (Nat.le_of_ble_eq_true rfl)
      by_cases hc56 : (fr + (2 : Int32)) < to
      · skip
        refine Go.icmpN 59 d2_56 rfl (tlt hc56).2.1 ?_
        refine Go.lload 61 d2_59 rfl rfl ?_
        refine Go.ldc2J 64 d2_61 rfl (w6 hw) ?_
        refine Go.lmul 65 d2_64 rfl ?_
        refine Go.aloadN 66 d2_65 rfl rfl rfl ?_
        refine Go.iloadN 67 d2_66 rfl rfl ?_
        refine Go.iconst 68 (2 : Int32) d2_67 rfl rfl ?_
        refine Go.iadd 69 d2_68 rfl ?_
        obtain ⟨c_1, hv_2⟩ := at13 hl (j := (fr + (2 : Int32))) (by have q := toInt_lt.mp hc56; have e := add_small f0 f1; omega) (by have q := toInt_lt.mp hc56; have e := add_small f0 f1; omega)
        refine Go.caload _ 70 d2_69 rfl A (nat_idx (by have e := add_small f0 f1; omega)) hv_2 ?_
        refine Go.bipush 72 (48 : Int32) d2_70 rfl rfl ?_
        refine Go.isub 73 d2_72 rfl ?_
        refine Go.i2l 74 d2_73 rfl ?_
        refine Go.ladd 75 d2_74 rfl ?_
        refine Go.lstore 77 #[.val (.long x), .second, .val (.ref b), .val (.int fr), .val (.int to), .val (.long ((y2 * (10 : Int64)) + ((c_1 - (48 : Int32))).toInt64)), .second] d2_75 rfl rfl ?_
        exact cut77 _
      · skip
        refine Go.icmpY 77 d2_56 (by decide) (by decide) (flt hc56).2.1 ?_
        exact cut77 _
    by_cases hc30 : (fr + (1 : Int32)) < to
    · skip
      refine Go.icmpN 33 d2_30 rfl (tlt hc30).2.1 ?_
      refine Go.lload 35 d2_33 rfl rfl ?_
      refine Go.ldc2J 38 d2_35 rfl (w6 hw) ?_
      refine Go.lmul 39 d2_38 rfl ?_
      refine Go.aloadN 40 d2_39 rfl rfl rfl ?_
      refine Go.iloadN 41 d2_40 rfl rfl ?_
      refine Go.iconst 42 (1 : Int32) d2_41 rfl rfl ?_
      refine Go.iadd 43 d2_42 rfl ?_
      obtain ⟨c_3, hv_4⟩ := at13 hl (j := (fr + (1 : Int32))) (by have q := toInt_lt.mp hc30; have e := add_small f0 f1; omega) (by have q := toInt_lt.mp hc30; have e := add_small f0 f1; omega)
      refine Go.caload _ 44 d2_43 rfl A (nat_idx (by have e := add_small f0 f1; omega)) hv_4 ?_
      refine Go.bipush 46 (48 : Int32) d2_44 rfl rfl ?_
      refine Go.isub 47 d2_46 rfl ?_
      refine Go.i2l 48 d2_47 rfl ?_
      refine Go.ladd 49 d2_48 rfl ?_
      refine Go.lstore 51 #[.val (.long x), .second, .val (.ref b), .val (.int fr), .val (.int to), .val (.long ((y1 * (10 : Int64)) + ((c_3 - (48 : Int32))).toInt64)), .second] d2_49 rfl rfl ?_
      exact cut51 _
    · skip
      refine Go.icmpY 51 d2_30 (by decide) (by decide) (flt hc30).2.1 ?_
      exact cut51 _
  by_cases hc6 : fr < to
  · skip
    refine Go.icmpN 9 d2_6 rfl (tlt hc6).2.1 ?_
    refine Go.lload 11 d2_9 rfl rfl ?_
    refine Go.ldc2J 14 d2_11 rfl (w6 hw) ?_
    refine Go.lmul 15 d2_14 rfl ?_
    refine Go.aloadN 16 d2_15 rfl rfl rfl ?_
    refine Go.iloadN 17 d2_16 rfl rfl ?_
    obtain ⟨c_5, hv_6⟩ := at13 hl (j := fr) (by have q := toInt_lt.mp hc6; have e := add_small f0 f1; omega) (by have q := toInt_lt.mp hc6; have e := add_small f0 f1; omega)
    refine Go.caload _ 18 d2_17 rfl A (nat_idx (by have e := add_small f0 f1; omega)) hv_6 ?_
    refine Go.bipush 20 (48 : Int32) d2_18 rfl rfl ?_
    refine Go.isub 21 d2_20 rfl ?_
    refine Go.i2l 22 d2_21 rfl ?_
    refine Go.ladd 23 d2_22 rfl ?_
    refine Go.lstore 25 #[.val (.long x), .second, .val (.ref b), .val (.int fr), .val (.int to), .val (.long ((x * (10 : Int64)) + ((c_5 - (48 : Int32))).toInt64)), .second] d2_23 rfl rfl ?_
    exact cut25 _
  · skip
    refine Go.icmpY 25 d2_6 (by decide) (by decide) (flt hc6).2.1 ?_
    exact cut25 _
abbrev G_init (md : Md) (l : Launch) (Z : State) (n0 : Nat) (a : Addr) (h0 : Heap) := Go md l Z n0 ({ frames := 1, cells := 0, slots := 0, locals := 12 } : Room) prog_14_method_1_code 1 none "com/example/sigfig/sigfig/Numeral" "<init>" (fun v h' _ => v = none ∧ h0 = h')
theorem ef_init (m : MethodId) (a : Addr) : entryFrame m #[(.ref a)] 1 = mkF m 0 #[.val (.ref a)] [] := by first | (simp [entryFrame, mkF, argsToLocals, Value.category]; done) | rfl
set_option maxRecDepth 65536 in
set_option maxHeartbeats 40000000 in
theorem c_init {md : Md} {l : Launch} {Z : State} {n0 : Nat} {a0 : Array Value} (hw : HW a0 Z) (a : Addr) {h0 : Heap}  : G_init md l Z n0 a h0 0 0 [a] h0 0 #[.val (.ref a)] [] := by
  refine Go.aloadN 1 d3_0 rfl rfl rfl ?_
  refine Go.initO (W := 0) 4 d3_1 rfl (w16 hw) (w17 hw) (w18 hw) rfl (by decide) (Nat.le_of_ble_eq_true rfl) (by decide) ?_
  exact Go.ret0 d3_4 rfl (sf' := []) (⟨rfl, rfl⟩) (fun _ q => nomatch q) (Nat.le_of_ble_eq_true rfl) (Nat.le_of_ble_eq_true rfl)
abbrev G_set (md : Md) (l : Launch) (Z : State) (n0 : Nat) (a : Addr) (p1 : Int32) (b : Addr) (p3 p4 p5 p6 : Int32) (q7 : Int64) (p9 : Int32) (q10 : Int64) (h0 : Heap) := Go md l Z n0 ({ frames := 0, cells := 0, slots := 0, locals := 0 } : Room) prog_14_method_2_code 12 none "com/example/sigfig/sigfig/Numeral" "set" (fun v h' _ => v = none ∧ Keep h0 h' [a] ∧ Exa Z h' a "com/example/sigfig/sigfig/Numeral" ∧ Fld Z h' a "com/example/sigfig/sigfig/Numeral" "integerEnd" "I" (.int p4) ∧ Fld Z h' a "com/example/sigfig/sigfig/Numeral" "fractionStart" "I" (.int p5))
theorem ef_set (m : MethodId) (a : Addr) (p1 : Int32) (b : Addr) (p3 p4 p5 p6 : Int32) (q7 : Int64) (p9 : Int32) (q10 : Int64) : entryFrame m #[(.ref a), (.int p1), (.ref b), (.int p3), (.int p4), (.int p5), (.int p6), (.long q7), (.int p9), (.long q10)] 12 = mkF m 0 #[.val (.ref a), .val (.int p1), .val (.ref b), .val (.int p3), .val (.int p4), .val (.int p5), .val (.int p6), .val (.long q7), .second, .val (.int p9), .val (.long q10), .second] [] := by first | (simp [entryFrame, mkF, argsToLocals, Value.category]; done) | rfl
set_option maxRecDepth 65536 in
set_option maxHeartbeats 40000000 in
theorem c_set {md : Md} {l : Launch} {Z : State} {n0 : Nat} {a0 : Array Value} (hw : HW a0 Z) (a : Addr) (p1 : Int32) (b : Addr) (p3 p4 p5 p6 : Int32) (q7 : Int64) (p9 : Int32) (q10 : Int64) {h0 : Heap} (E : Exa Z h0 a "com/example/sigfig/sigfig/Numeral") (n0a : n0 ≤ a) {u : Value} (F : Fld Z h0 a "com/example/sigfig/sigfig/Numeral" "negative" "Z" u) : G_set md l Z n0 a p1 b p3 p4 p5 p6 q7 p9 q10 h0 0 0 [a] h0 0 #[.val (.ref a), .val (.int p1), .val (.ref b), .val (.int p3), .val (.int p4), .val (.int p5), .val (.int p6), .val (.long q7), .second, .val (.int p9), .val (.long q10), .second] [] := by
  refine Go.aloadN 1 d10_0 rfl rfl rfl ?_
  refine Go.iloadN 2 d10_1 rfl rfl ?_
  refine Go.putF 5 (.int (nar .boolean p1)) d10_2 rfl (w51 hw) Via.refl F E (Or.inl (w52 hw)) (w11 hw) (ty := .boolean) (by decide) rfl (fits_nar_bool _) (List.mem_of_getElem? (i := 0) rfl) n0a (fun h_1 W_2 => ?_)
  refine Go.aloadN 6 d10_5 rfl rfl rfl ?_
  refine Go.aloadN 7 d10_6 rfl rfl rfl ?_
  have f_3 := (E.wr W_2)
  obtain ⟨o_4, fo_5⟩ := Fld.any (F.same W_2) f_3 (w11 hw) (Or.inl (w54 hw))
  refine Go.putF 10 (.ref b) d10_7 rfl (w53 hw) Via.refl fo_5 f_3 (Or.inl (w54 hw)) (w11 hw) (ty := (.object "java/lang/String")) (by decide) rfl rfl (List.mem_of_getElem? (i := 0) rfl) n0a (fun h_6 W_7 => ?_)
  refine Go.aloadN 11 d10_10 rfl rfl rfl ?_
  refine Go.iloadN 12 d10_11 rfl rfl ?_
  have f_8 := (f_3.wr W_7)
  obtain ⟨o_9, fo_10⟩ := Fld.any (fo_5.same W_7) f_8 (w11 hw) (Or.inl (w56 hw))
  refine Go.putF 15 (.int p3) d10_12 rfl (w55 hw) Via.refl fo_10 f_8 (Or.inl (w56 hw)) (w11 hw) (ty := .int) (by decide) rfl rfl (List.mem_of_getElem? (i := 0) rfl) n0a (fun h_11 W_12 => ?_)
  refine Go.aloadN 16 d10_15 rfl rfl rfl ?_
  refine Go.iload 18 d10_16 rfl rfl ?_
  have f_13 := (f_8.wr W_12)
  obtain ⟨o_14, fo_15⟩ := Fld.any (fo_10.same W_12) f_13 (w11 hw) (Or.inl (w58 hw))
  refine Go.putF 21 (.int p4) d10_18 rfl (w57 hw) Via.refl fo_15 f_13 (Or.inl (w58 hw)) (w11 hw) (ty := .int) (by decide) rfl rfl (List.mem_of_getElem? (i := 0) rfl) n0a (fun h_16 W_17 => ?_)
  refine Go.aloadN 22 d10_21 rfl rfl rfl ?_
  refine Go.iload 24 d10_22 rfl rfl ?_
  have f_18 := (f_13.wr W_17)
  obtain ⟨o_19, fo_20⟩ := Fld.any (fo_15.same W_17) f_18 (w11 hw) (Or.inl (w60 hw))
  refine Go.putF 27 (.int p5) d10_24 rfl (w59 hw) Via.refl fo_20 f_18 (Or.inl (w60 hw)) (w11 hw) (ty := .int) (by decide) rfl rfl (List.mem_of_getElem? (i := 0) rfl) n0a (fun h_21 W_22 => ?_)
  refine Go.aloadN 28 d10_27 rfl rfl rfl ?_
  refine Go.iload 30 d10_28 rfl rfl ?_
  have f_23 := (f_18.wr W_22)
  obtain ⟨o_24, fo_25⟩ := Fld.any (fo_20.same W_22) f_23 (w11 hw) (Or.inl (w62 hw))
  refine Go.putF 33 (.int p6) d10_30 rfl (w61 hw) Via.refl fo_25 f_23 (Or.inl (w62 hw)) (w11 hw) (ty := .int) (by decide) rfl rfl (List.mem_of_getElem? (i := 0) rfl) n0a (fun h_26 W_27 => ?_)
  refine Go.aloadN 34 d10_33 rfl rfl rfl ?_
  refine Go.lload 36 d10_34 rfl rfl ?_
  have f_28 := (f_23.wr W_27)
  obtain ⟨o_29, fo_30⟩ := Fld.any (fo_25.same W_27) f_28 (w11 hw) (Or.inl (w64 hw))
  refine Go.putF 39 (.long q7) d10_36 rfl (w63 hw) Via.refl fo_30 f_28 (Or.inl (w64 hw)) (w11 hw) (ty := .long) (by decide) rfl rfl (List.mem_of_getElem? (i := 0) rfl) n0a (fun h_31 W_32 => ?_)
  refine Go.aloadN 40 d10_39 rfl rfl rfl ?_
  refine Go.iload 42 d10_40 rfl rfl ?_
  have f_33 := (f_28.wr W_32)
  obtain ⟨o_34, fo_35⟩ := Fld.any (fo_30.same W_32) f_33 (w11 hw) (Or.inl (w66 hw))
  refine Go.putF 45 (.int (nar .boolean p9)) d10_42 rfl (w65 hw) Via.refl fo_35 f_33 (Or.inl (w66 hw)) (w11 hw) (ty := .boolean) (by decide) rfl (fits_nar_bool _) (List.mem_of_getElem? (i := 0) rfl) n0a (fun h_36 W_37 => ?_)
  refine Go.aloadN 46 d10_45 rfl rfl rfl ?_
  refine Go.lload 48 d10_46 rfl rfl ?_
  have f_38 := (f_33.wr W_37)
  obtain ⟨o_39, fo_40⟩ := Fld.any (fo_35.same W_37) f_38 (w11 hw) (Or.inl (w68 hw))
  refine Go.putF 51 (.long q10) d10_48 rfl (w67 hw) Via.refl fo_40 f_38 (Or.inl (w68 hw)) (w11 hw) (ty := .long) (by decide) rfl rfl (List.mem_of_getElem? (i := 0) rfl) n0a (fun h_41 W_42 => ?_)
  have f_43 := (f_38.wr W_42)
  have f_44 := ((((((fo_15.same W_17).other W_22 (Or.inr (slot_ne (Or.inl (w58 hw)) (Or.inl (w60 hw)) (by decide) (t := .int) (t' := .int) (by decide) (by decide)))).other W_27 (Or.inr (slot_ne (Or.inl (w58 hw)) (Or.inl (w62 hw)) (by decide) (t := .int) (t' := .int) (by decide) (by decide)))).other W_32 (Or.inr (slot_ne (Or.inl (w58 hw)) (Or.inl (w64 hw)) (by decide) (t := .int) (t' := .long) (by decide) (by decide)))).other W_37 (Or.inr (slot_ne (Or.inl (w58 hw)) (Or.inl (w66 hw)) (by decide) (t := .int) (t' := .boolean) (by decide) (by decide)))).other W_42 (Or.inr (slot_ne (Or.inl (w58 hw)) (Or.inl (w68 hw)) (by decide) (t := .int) (t' := .long) (by decide) (by decide))))
  have f_45 := (((((fo_20.same W_22).other W_27 (Or.inr (slot_ne (Or.inl (w60 hw)) (Or.inl (w62 hw)) (by decide) (t := .int) (t' := .int) (by decide) (by decide)))).other W_32 (Or.inr (slot_ne (Or.inl (w60 hw)) (Or.inl (w64 hw)) (by decide) (t := .int) (t' := .long) (by decide) (by decide)))).other W_37 (Or.inr (slot_ne (Or.inl (w60 hw)) (Or.inl (w66 hw)) (by decide) (t := .int) (t' := .boolean) (by decide) (by decide)))).other W_42 (Or.inr (slot_ne (Or.inl (w60 hw)) (Or.inl (w68 hw)) (by decide) (t := .int) (t' := .long) (by decide) (by decide))))
  exact Go.ret0 d10_51 rfl (sf' := []) (⟨rfl, ((((((((((Keep.refl h0 [a]).wr W_2 (Or.inl (List.mem_of_getElem? (i := 0) rfl))).wr W_7 (Or.inl (List.mem_of_getElem? (i := 0) rfl))).wr W_12 (Or.inl (List.mem_of_getElem? (i := 0) rfl))).wr W_17 (Or.inl (List.mem_of_getElem? (i := 0) rfl))).wr W_22 (Or.inl (List.mem_of_getElem? (i := 0) rfl))).wr W_27 (Or.inl (List.mem_of_getElem? (i := 0) rfl))).wr W_32 (Or.inl (List.mem_of_getElem? (i := 0) rfl))).wr W_37 (Or.inl (List.mem_of_getElem? (i := 0) rfl))).wr W_42 (Or.inl (List.mem_of_getElem? (i := 0) rfl))), f_43, f_44, f_45⟩) (fun _ q => nomatch q) (Nat.le_of_ble_eq_true rfl) (Nat.le_of_ble_eq_true rfl)
abbrev G_haspt (md : Md) (l : Launch) (Z : State) (n0 : Nat) (a : Addr) (fs ie : Int32) (h0 : Heap) := Go md l Z n0 ({ frames := 0, cells := 0, slots := 0, locals := 0 } : Room) prog_14_method_6_code 1 (some .boolean) "com/example/sigfig/sigfig/Numeral" "hasPoint" (fun v h' _ => h0 = h' ∧ ∃ r : Int32, v = some (.int r) ∧ (ie < fs → r = 1) ∧ (¬ ie < fs → r = 0))
theorem ef_haspt (m : MethodId) (a : Addr) (fs ie : Int32) : entryFrame m #[(.ref a)] 1 = mkF m 0 #[.val (.ref a)] [] := by first | (simp [entryFrame, mkF, argsToLocals, Value.category]; done) | rfl
set_option maxRecDepth 65536 in
set_option maxHeartbeats 40000000 in
theorem c_haspt {md : Md} {l : Launch} {Z : State} {n0 : Nat} {a0 : Array Value} (hw : HW a0 Z) (a : Addr) (fs ie : Int32) {h0 : Heap} (F1 : Fld Z h0 a "com/example/sigfig/sigfig/Numeral" "fractionStart" "I" (.int fs)) (F2 : Fld Z h0 a "com/example/sigfig/sigfig/Numeral" "integerEnd" "I" (.int ie)) : G_haspt md l Z n0 a fs ie h0 0 0 [] h0 0 #[.val (.ref a)] [] := by
  refine Go.aloadN 1 d11_0 rfl rfl rfl ?_
  refine Go.getF 4 d11_1 rfl (w59 hw) Via.refl F1 ?_
  refine Go.aloadN 5 d11_4 rfl rfl rfl ?_
  refine Go.getF 8 d11_5 rfl (w57 hw) Via.refl F2 ?_
  by_cases hc8 : ie < fs
  · skip
    refine Go.icmpN 11 d11_8 rfl (tlt hc8).2.2.2 ?_
    refine Go.iconst 12 (1 : Int32) d11_11 rfl rfl ?_
    refine Go.goto 16 d11_12 (by decide) (by decide) ?_
    exact Go.retN (1 : Int32) d11_16 rfl (t := .boolean) (by simp) rfl (sf' := []) (⟨rfl, _, rfl, fun _ => rfl, fun q => absurd hc8 q⟩) (fun _ q => nomatch q) (Nat.le_of_ble_eq_true rfl) (Nat.le_of_ble_eq_true rfl)
  · skip
    refine Go.icmpY 15 d11_8 (by decide) (by decide) (flt hc8).2.2.2 ?_
    refine Go.iconst 16 (0 : Int32) d11_15 rfl rfl ?_
    exact Go.retN (0 : Int32) d11_16 rfl (t := .boolean) (by simp) rfl (sf' := []) (⟨rfl, _, rfl, fun q => absurd q hc8, fun _ => rfl⟩) (fun _ q => nomatch q) (Nat.le_of_ble_eq_true rfl) (Nat.le_of_ble_eq_true rfl)
abbrev G_law (l : Launch) (Z : State) (n0 : Nat) := Go none l Z n0 room_1 code maxLocals ret "com/example/sigfig/sigfig/NumeralHasPointPinLaw" "law" (fun v _ _ => v = some (.int 1))
theorem ef_law (m : MethodId) (p0 : Int32) (q1 : Int64) (q3 : Int64) : entryFrame m #[(.int p0), (.long q1), (.long q3)] maxLocals = mkF m 0 #[.val (.int p0), .val (.long q1), .second, .val (.long q3), .second, .unset, .unset, .unset, .unset, .unset, .unset, .unset, .unset, .unset, .unset, .unset, .unset, .unset, .unset, .unset] [] := by first | (simp [entryFrame, mkF, argsToLocals, Value.category, maxLocals]; done) | rfl
set_option maxRecDepth 65536 in
set_option maxHeartbeats 40000000 in
theorem law_go {l : Launch} {Z : State} {n0 : Nat} {a0 : Array Value} (hw : HW a0 Z) (p0 : Int32) (q1 : Int64) (q3 : Int64) (zc : Int32) (SC : Sta Z Z.heap "java/lang/String" "COMPACT_STRINGS" "Z" (.int zc)) (hz : ¬ zc = 0) {h0 : Heap} : G_law l Z n0 0 0 [] h0 0 #[.val (.int p0), .val (.long q1), .second, .val (.long q3), .second, .unset, .unset, .unset, .unset, .unset, .unset, .unset, .unset, .unset, .unset, .unset, .unset, .unset, .unset, .unset] [] := by
  refine Go.iloadN 1 at_0 rfl rfl ?_
  refine Go.iconst 2 (3 : Int32) at_1 rfl rfl ?_
  refine Go.iand 3 at_2 rfl ?_
  refine Go.istore 5 #[.val (.int p0), .val (.long q1), .second, .val (.long q3), .second, .val (.int (p0 &&& (3 : Int32))), .unset, .unset, .unset, .unset, .unset, .unset, .unset, .unset, .unset, .unset, .unset, .unset, .unset, .unset] at_3 rfl rfl ?_
  refine Go.iloadN 6 at_5 rfl rfl ?_
  refine Go.iconst 7 (2 : Int32) at_6 rfl rfl ?_
  refine Go.iushr 8 at_7 rfl ?_
  refine Go.iconst 9 (1 : Int32) at_8 rfl rfl ?_
  refine Go.iand 10 at_9 rfl ?_
  refine Go.istore 12 #[.val (.int p0), .val (.long q1), .second, .val (.long q3), .second, .val (.int (p0 &&& (3 : Int32))), .val (.int ((ushr p0 (2 : Int32)) &&& (1 : Int32))), .unset, .unset, .unset, .unset, .unset, .unset, .unset, .unset, .unset, .unset, .unset, .unset, .unset] at_10 rfl rfl ?_
  refine Go.iloadN 13 at_12 rfl rfl ?_
  refine Go.iconst 14 (3 : Int32) at_13 rfl rfl ?_
  refine Go.iushr 15 at_14 rfl ?_
  refine Go.iconst 16 (3 : Int32) at_15 rfl rfl ?_
  refine Go.iand 17 at_16 rfl ?_
  refine Go.istore 19 #[.val (.int p0), .val (.long q1), .second, .val (.long q3), .second, .val (.int (p0 &&& (3 : Int32))), .val (.int ((ushr p0 (2 : Int32)) &&& (1 : Int32))), .val (.int ((ushr p0 (3 : Int32)) &&& (3 : Int32))), .unset, .unset, .unset, .unset, .unset, .unset, .unset, .unset, .unset, .unset, .unset, .unset] at_17 rfl rfl ?_
  obtain ⟨o, e_o⟩ : ∃ y_ : Int32, y_ = (p0 &&& (3 : Int32)) := ⟨_, rfl⟩
  have b_o : 0 ≤ o.toInt ∧ o.toInt ≤ 3 := by rw [e_o]; exact c_and _ 3 (by decide)
  rw [← e_o]
  show G_law l Z n0 0 0 [] h0 19 #[.val (.int p0), .val (.long q1), .second, .val (.long q3), .second, .val (.int o), .val (.int ((ushr p0 (2 : Int32)) &&& (1 : Int32))), .val (.int ((ushr p0 (3 : Int32)) &&& (3 : Int32))), .unset, .unset, .unset, .unset, .unset, .unset, .unset, .unset, .unset, .unset, .unset, .unset] []
  obtain ⟨z, e_z⟩ : ∃ y_ : Int32, y_ = ((ushr p0 (2 : Int32)) &&& (1 : Int32)) := ⟨_, rfl⟩
  have b_z : 0 ≤ z.toInt ∧ z.toInt ≤ 1 := by rw [e_z]; exact c_and _ 1 (by decide)
  rw [← e_z]
  show G_law l Z n0 0 0 [] h0 19 #[.val (.int p0), .val (.long q1), .second, .val (.long q3), .second, .val (.int o), .val (.int z), .val (.int ((ushr p0 (3 : Int32)) &&& (3 : Int32))), .unset, .unset, .unset, .unset, .unset, .unset, .unset, .unset, .unset, .unset, .unset, .unset] []
  obtain ⟨n, e_n⟩ : ∃ y_ : Int32, y_ = ((ushr p0 (3 : Int32)) &&& (3 : Int32)) := ⟨_, rfl⟩
  have b_n : 0 ≤ n.toInt ∧ n.toInt ≤ 3 := by rw [e_n]; exact c_and _ 3 (by decide)
  rw [← e_n]
  show G_law l Z n0 0 0 [] h0 19 #[.val (.int p0), .val (.long q1), .second, .val (.long q3), .second, .val (.int o), .val (.int z), .val (.int n), .unset, .unset, .unset, .unset, .unset, .unset, .unset, .unset, .unset, .unset, .unset, .unset] []
  refine Go.iloadN 20 at_19 rfl rfl ?_
  refine Go.iconst 21 (5 : Int32) at_20 rfl rfl ?_
  refine Go.iushr 22 at_21 rfl ?_
  refine Go.iconst 23 (1 : Int32) at_22 rfl rfl ?_
  refine Go.iand 24 at_23 rfl ?_
  have cut32 : ∀ (pt : Int32) (b_pt : pt = 0 ∨ pt = 1), G_law l Z n0 0 0 [] h0 32 #[.val (.int p0), .val (.long q1), .second, .val (.long q3), .second, .val (.int o), .val (.int z), .val (.int n), .unset, .unset, .unset, .unset, .unset, .unset, .unset, .unset, .unset, .unset, .unset, .unset] [(.int pt)] := by
    intro pt b_pt
    refine Go.istore 34 #[.val (.int p0), .val (.long q1), .second, .val (.long q3), .second, .val (.int o), .val (.int z), .val (.int n), .val (.int pt), .unset, .unset, .unset, .unset, .unset, .unset, .unset, .unset, .unset, .unset, .unset] at_32 rfl rfl ?_
    refine Go.iload 36 at_34 rfl rfl ?_
    have cut49 : ∀ (f : Int32) (b_f : 0 ≤ f.toInt ∧ f.toInt ≤ 3), G_law l Z n0 0 0 [] h0 49 #[.val (.int p0), .val (.long q1), .second, .val (.long q3), .second, .val (.int o), .val (.int z), .val (.int n), .val (.int pt), .unset, .unset, .unset, .unset, .unset, .unset, .unset, .unset, .unset, .unset, .unset] [(.int f)] := by
      intro f b_f
      refine Go.istore 51 #[.val (.int p0), .val (.long q1), .second, .val (.long q3), .second, .val (.int o), .val (.int z), .val (.int n), .val (.int pt), .val (.int f), .unset, .unset, .unset, .unset, .unset, .unset, .unset, .unset, .unset, .unset] at_49 rfl rfl ?_
      refine Go.iloadN 52 at_51 rfl rfl ?_
      refine Go.bipush 54 (8 : Int32) at_52 rfl rfl ?_
      refine Go.iushr 55 at_54 rfl ?_
      refine Go.iconst 56 (1 : Int32) at_55 rfl rfl ?_
      refine Go.iand 57 at_56 rfl ?_
      have cut65 : ∀ (ng : Int32), G_law l Z n0 0 0 [] h0 65 #[.val (.int p0), .val (.long q1), .second, .val (.long q3), .second, .val (.int o), .val (.int z), .val (.int n), .val (.int pt), .val (.int f), .unset, .unset, .unset, .unset, .unset, .unset, .unset, .unset, .unset, .unset] [(.int ng)] := by
        intro ng
        refine Go.istore 67 #[.val (.int p0), .val (.long q1), .second, .val (.long q3), .second, .val (.int o), .val (.int z), .val (.int n), .val (.int pt), .val (.int f), .val (.int ng), .unset, .unset, .unset, .unset, .unset, .unset, .unset, .unset, .unset] at_65 rfl rfl ?_
        refine Go.iloadN 68 at_67 rfl rfl ?_
        refine Go.bipush 70 (9 : Int32) at_68 rfl rfl ?_
        refine Go.iushr 71 at_70 rfl ?_
        refine Go.iconst 72 (1 : Int32) at_71 rfl rfl ?_
        refine Go.iand 73 at_72 rfl ?_
        have cut81 : ∀ (hx : Int32), G_law l Z n0 0 0 [] h0 81 #[.val (.int p0), .val (.long q1), .second, .val (.long q3), .second, .val (.int o), .val (.int z), .val (.int n), .val (.int pt), .val (.int f), .val (.int ng), .unset, .unset, .unset, .unset, .unset, .unset, .unset, .unset, .unset] [(.int hx)] := by
          intro hx
          refine Go.istore 83 #[.val (.int p0), .val (.long q1), .second, .val (.long q3), .second, .val (.int o), .val (.int z), .val (.int n), .val (.int pt), .val (.int f), .val (.int ng), .val (.int hx), .unset, .unset, .unset, .unset, .unset, .unset, .unset, .unset] at_81 rfl rfl ?_
          refine Go.iload 85 at_83 rfl rfl ?_
          have cut101 : ∀ (y : Int32) (b_y : 0 ≤ y.toInt ∧ y.toInt ≤ 1), G_law l Z n0 0 0 [] h0 101 #[.val (.int p0), .val (.long q1), .second, .val (.long q3), .second, .val (.int o), .val (.int y), .val (.int n), .val (.int pt), .val (.int f), .val (.int ng), .val (.int hx), .unset, .unset, .unset, .unset, .unset, .unset, .unset, .unset] [] := by
            intro y b_y
            refine Go.iload 103 at_101 rfl rfl ?_
            refine Go.iload 105 at_103 rfl rfl ?_
            refine Go.iadd 106 at_105 rfl ?_
            refine Go.istore 108 #[.val (.int p0), .val (.long q1), .second, .val (.long q3), .second, .val (.int o), .val (.int y), .val (.int n), .val (.int pt), .val (.int f), .val (.int ng), .val (.int hx), .val (.int (o + y)), .unset, .unset, .unset, .unset, .unset, .unset, .unset] at_106 rfl rfl ?_
            refine Go.iload 110 at_108 rfl rfl ?_
            refine Go.iload 112 at_110 rfl rfl ?_
            refine Go.iadd 113 at_112 rfl ?_
            refine Go.istore 115 #[.val (.int p0), .val (.long q1), .second, .val (.long q3), .second, .val (.int o), .val (.int y), .val (.int n), .val (.int pt), .val (.int f), .val (.int ng), .val (.int hx), .val (.int (o + y)), .val (.int ((o + y) + n)), .unset, .unset, .unset, .unset, .unset, .unset] at_113 rfl rfl ?_
            obtain ⟨is, e_is⟩ : ∃ y_ : Int32, y_ = (o + y) := ⟨_, rfl⟩
            have b_is : is.toInt = o.toInt + y.toInt := by rw [e_is]; exact add_eq (by omega) (by omega)
            rw [← e_is]
            show G_law l Z n0 0 0 [] h0 115 #[.val (.int p0), .val (.long q1), .second, .val (.long q3), .second, .val (.int o), .val (.int y), .val (.int n), .val (.int pt), .val (.int f), .val (.int ng), .val (.int hx), .val (.int is), .val (.int (is + n)), .unset, .unset, .unset, .unset, .unset, .unset] []
            obtain ⟨ie, e_ie⟩ : ∃ y_ : Int32, y_ = (is + n) := ⟨_, rfl⟩
            have b_ie : ie.toInt = is.toInt + n.toInt := by rw [e_ie]; exact add_eq (by omega) (by omega)
            rw [← e_ie]
            show G_law l Z n0 0 0 [] h0 115 #[.val (.int p0), .val (.long q1), .second, .val (.long q3), .second, .val (.int o), .val (.int y), .val (.int n), .val (.int pt), .val (.int f), .val (.int ng), .val (.int hx), .val (.int is), .val (.int ie), .unset, .unset, .unset, .unset, .unset, .unset] []
            refine Go.iload 117 at_115 rfl rfl ?_
            have cut129 : ∀ (fs : Int32) (b_fs : fs.toInt = ie.toInt + pt.toInt), G_law l Z n0 0 0 [] h0 129 #[.val (.int p0), .val (.long q1), .second, .val (.long q3), .second, .val (.int o), .val (.int y), .val (.int n), .val (.int pt), .val (.int f), .val (.int ng), .val (.int hx), .val (.int is), .val (.int ie), .unset, .unset, .unset, .unset, .unset, .unset] [(.int fs)] := by
              intro fs b_fs
              refine Go.istore 131 #[.val (.int p0), .val (.long q1), .second, .val (.long q3), .second, .val (.int o), .val (.int y), .val (.int n), .val (.int pt), .val (.int f), .val (.int ng), .val (.int hx), .val (.int is), .val (.int ie), .val (.int fs), .unset, .unset, .unset, .unset, .unset] at_129 rfl rfl ?_
              refine Go.iload 133 at_131 rfl rfl ?_
              refine Go.iload 135 at_133 rfl rfl ?_
              refine Go.iadd 136 at_135 rfl ?_
              refine Go.istore 138 #[.val (.int p0), .val (.long q1), .second, .val (.long q3), .second, .val (.int o), .val (.int y), .val (.int n), .val (.int pt), .val (.int f), .val (.int ng), .val (.int hx), .val (.int is), .val (.int ie), .val (.int fs), .val (.int (fs + f)), .unset, .unset, .unset, .unset] at_136 rfl rfl ?_
              have hpt : 0 ≤ pt.toInt ∧ pt.toInt ≤ 1 := by rcases b_pt with rfl | rfl <;> decide
              obtain ⟨fe, e_fe⟩ : ∃ y_ : Int32, y_ = (fs + f) := ⟨_, rfl⟩
              have b_fe : fe.toInt = fs.toInt + f.toInt := by rw [e_fe]; exact add_eq (by omega) (by omega)
              rw [← e_fe]
              show G_law l Z n0 0 0 [] h0 138 #[.val (.int p0), .val (.long q1), .second, .val (.long q3), .second, .val (.int o), .val (.int y), .val (.int n), .val (.int pt), .val (.int f), .val (.int ng), .val (.int hx), .val (.int is), .val (.int ie), .val (.int fs), .val (.int fe), .unset, .unset, .unset, .unset] []
              refine Go.bipush 140 (13 : Int32) at_138 rfl rfl ?_
              refine Go.newA 13 142 at_140 rfl rfl (w0 hw) (by decide) 13 (Nat.le_refl _) (by decide) (Nat.le_of_ble_eq_true rfl) (Nat.le_of_ble_eq_true rfl) (fun h_1 x_2 g_3 q_4 E_5 lt_6 A_7 => ?_)
              have A_8 : Ary Z h_1 x_2 .char [(.int (0 : Int32)), (.int (0 : Int32)), (.int (0 : Int32)), (.int (0 : Int32)), (.int (0 : Int32)), (.int (0 : Int32)), (.int (0 : Int32)), (.int (0 : Int32)), (.int (0 : Int32)), (.int (0 : Int32)), (.int (0 : Int32)), (.int (0 : Int32)), (.int (0 : Int32))] := A_7
              show G_law l Z n0 1 13 [x_2] h_1 142 #[.val (.int p0), .val (.long q1), .second, .val (.long q3), .second, .val (.int o), .val (.int y), .val (.int n), .val (.int pt), .val (.int f), .val (.int ng), .val (.int hx), .val (.int is), .val (.int ie), .val (.int fs), .val (.int fe), .unset, .unset, .unset, .unset] [(.ref x_2)]
              refine Go.astore 144 #[.val (.int p0), .val (.long q1), .second, .val (.long q3), .second, .val (.int o), .val (.int y), .val (.int n), .val (.int pt), .val (.int f), .val (.int ng), .val (.int hx), .val (.int is), .val (.int ie), .val (.int fs), .val (.int fe), .val (.ref x_2), .unset, .unset, .unset] at_142 rfl rfl rfl ?_
              refine Go.aload 146 at_144 rfl rfl rfl ?_
              refine Go.iconst 147 (0 : Int32) at_146 rfl rfl ?_
              refine Go.lloadN 148 at_147 rfl rfl ?_
              refine Go.iconst 149 (0 : Int32) at_148 rfl rfl ?_
              refine Go.callS (S := [(.int (0 : Int32)), (.ref x_2)]) 152 [(.long q1), (.int (0 : Int32))] at_149 rfl rfl (w1 hw) (w2 hw) (w3 hw) (w4 hw) (by decide) (call_of_go (R := _) (len := 3) (W := 2) pn_0 (fun m => ef_digit m q1 (0 : Int32)) (c_digit hw q1 (0 : Int32) ) (w4 hw) (w3 hw) (by decide) (by decide)) (lenOf pd_0 rfl) (Nat.le_of_ble_eq_true rfl) rfl (Nat.le_of_ble_eq_true rfl) (Nat.le_of_ble_eq_true rfl) (fun _ q => nomatch q) (fun v h_10 sf_11 hq => ?_)
              obtain ⟨rfl, r_9, rfl, b_r_9⟩ := hq
              refine Go.more (sf' := [x_2]) ?_ (Nat.le_refl _) (Nat.le_refl _) (fun _ q => List.mem_append_right _ q)
              show G_law l Z n0 1 13 [x_2] h_1 152 #[.val (.int p0), .val (.long q1), .second, .val (.long q3), .second, .val (.int o), .val (.int y), .val (.int n), .val (.int pt), .val (.int f), .val (.int ng), .val (.int hx), .val (.int is), .val (.int ie), .val (.int fs), .val (.int fe), .val (.ref x_2), .unset, .unset, .unset] [(.int r_9), (.int (0 : Int32)), (.ref x_2)]
              refine Go.castore 0 153 at_152 rfl A_8 (by decide) (Nat.le_of_ble_eq_true rfl) (List.mem_of_getElem? (i := 0) rfl) q_4 (fun h_12 W_13 A_14 => ?_)
              have A_15 : Ary Z h_12 x_2 .char [(.int r_9), (.int (0 : Int32)), (.int (0 : Int32)), (.int (0 : Int32)), (.int (0 : Int32)), (.int (0 : Int32)), (.int (0 : Int32)), (.int (0 : Int32)), (.int (0 : Int32)), (.int (0 : Int32)), (.int (0 : Int32)), (.int (0 : Int32)), (.int (0 : Int32))] := by have := A_14; rw [nar_c b_r_9] at this; exact this
              refine Go.aload 155 at_153 rfl rfl rfl ?_
              refine Go.iconst 156 (1 : Int32) at_155 rfl rfl ?_
              refine Go.lloadN 157 at_156 rfl rfl ?_
              refine Go.iconst 158 (1 : Int32) at_157 rfl rfl ?_
              refine Go.callS (S := [(.int (1 : Int32)), (.ref x_2)]) 161 [(.long q1), (.int (1 : Int32))] at_158 rfl rfl (w1 hw) (w2 hw) (w3 hw) (w4 hw) (by decide) (call_of_go (R := _) (len := 3) (W := 2) pn_0 (fun m => ef_digit m q1 (1 : Int32)) (c_digit hw q1 (1 : Int32) ) (w4 hw) (w3 hw) (by decide) (by decide)) (lenOf pd_0 rfl) (Nat.le_of_ble_eq_true rfl) rfl (Nat.le_of_ble_eq_true rfl) (Nat.le_of_ble_eq_true rfl) (fun _ q => nomatch q) (fun v h_17 sf_18 hq => ?_)
              obtain ⟨rfl, r_16, rfl, b_r_16⟩ := hq
              refine Go.more (sf' := [x_2]) ?_ (Nat.le_refl _) (Nat.le_refl _) (fun _ q => List.mem_append_right _ q)
              show G_law l Z n0 1 13 [x_2] h_12 161 #[.val (.int p0), .val (.long q1), .second, .val (.long q3), .second, .val (.int o), .val (.int y), .val (.int n), .val (.int pt), .val (.int f), .val (.int ng), .val (.int hx), .val (.int is), .val (.int ie), .val (.int fs), .val (.int fe), .val (.ref x_2), .unset, .unset, .unset] [(.int r_16), (.int (1 : Int32)), (.ref x_2)]
              refine Go.castore 1 162 at_161 rfl A_15 (by decide) (Nat.le_of_ble_eq_true rfl) (List.mem_of_getElem? (i := 0) rfl) q_4 (fun h_19 W_20 A_21 => ?_)
              have A_22 : Ary Z h_19 x_2 .char [(.int r_9), (.int r_16), (.int (0 : Int32)), (.int (0 : Int32)), (.int (0 : Int32)), (.int (0 : Int32)), (.int (0 : Int32)), (.int (0 : Int32)), (.int (0 : Int32)), (.int (0 : Int32)), (.int (0 : Int32)), (.int (0 : Int32)), (.int (0 : Int32))] := by have := A_21; rw [nar_c b_r_16] at this; exact this
              refine Go.aload 164 at_162 rfl rfl rfl ?_
              refine Go.iconst 165 (2 : Int32) at_164 rfl rfl ?_
              refine Go.lloadN 166 at_165 rfl rfl ?_
              refine Go.iconst 167 (2 : Int32) at_166 rfl rfl ?_
              refine Go.callS (S := [(.int (2 : Int32)), (.ref x_2)]) 170 [(.long q1), (.int (2 : Int32))] at_167 rfl rfl (w1 hw) (w2 hw) (w3 hw) (w4 hw) (by decide) (call_of_go (R := _) (len := 3) (W := 2) pn_0 (fun m => ef_digit m q1 (2 : Int32)) (c_digit hw q1 (2 : Int32) ) (w4 hw) (w3 hw) (by decide) (by decide)) (lenOf pd_0 rfl) (Nat.le_of_ble_eq_true rfl) rfl (Nat.le_of_ble_eq_true rfl) (Nat.le_of_ble_eq_true rfl) (fun _ q => nomatch q) (fun v h_24 sf_25 hq => ?_)
              obtain ⟨rfl, r_23, rfl, b_r_23⟩ := hq
              refine Go.more (sf' := [x_2]) ?_ (Nat.le_refl _) (Nat.le_refl _) (fun _ q => List.mem_append_right _ q)
              show G_law l Z n0 1 13 [x_2] h_19 170 #[.val (.int p0), .val (.long q1), .second, .val (.long q3), .second, .val (.int o), .val (.int y), .val (.int n), .val (.int pt), .val (.int f), .val (.int ng), .val (.int hx), .val (.int is), .val (.int ie), .val (.int fs), .val (.int fe), .val (.ref x_2), .unset, .unset, .unset] [(.int r_23), (.int (2 : Int32)), (.ref x_2)]
              refine Go.castore 2 171 at_170 rfl A_22 (by decide) (Nat.le_of_ble_eq_true rfl) (List.mem_of_getElem? (i := 0) rfl) q_4 (fun h_26 W_27 A_28 => ?_)
              have A_29 : Ary Z h_26 x_2 .char [(.int r_9), (.int r_16), (.int r_23), (.int (0 : Int32)), (.int (0 : Int32)), (.int (0 : Int32)), (.int (0 : Int32)), (.int (0 : Int32)), (.int (0 : Int32)), (.int (0 : Int32)), (.int (0 : Int32)), (.int (0 : Int32)), (.int (0 : Int32))] := by have := A_28; rw [nar_c b_r_23] at this; exact this
              refine Go.aload 173 at_171 rfl rfl rfl ?_
              refine Go.iconst 174 (3 : Int32) at_173 rfl rfl ?_
              refine Go.lloadN 175 at_174 rfl rfl ?_
              refine Go.iconst 176 (3 : Int32) at_175 rfl rfl ?_
              refine Go.callS (S := [(.int (3 : Int32)), (.ref x_2)]) 179 [(.long q1), (.int (3 : Int32))] at_176 rfl rfl (w1 hw) (w2 hw) (w3 hw) (w4 hw) (by decide) (call_of_go (R := _) (len := 3) (W := 2) pn_0 (fun m => ef_digit m q1 (3 : Int32)) (c_digit hw q1 (3 : Int32) ) (w4 hw) (w3 hw) (by decide) (by decide)) (lenOf pd_0 rfl) (Nat.le_of_ble_eq_true rfl) rfl (Nat.le_of_ble_eq_true rfl) (Nat.le_of_ble_eq_true rfl) (fun _ q => nomatch q) (fun v h_31 sf_32 hq => ?_)
              obtain ⟨rfl, r_30, rfl, b_r_30⟩ := hq
              refine Go.more (sf' := [x_2]) ?_ (Nat.le_refl _) (Nat.le_refl _) (fun _ q => List.mem_append_right _ q)
              show G_law l Z n0 1 13 [x_2] h_26 179 #[.val (.int p0), .val (.long q1), .second, .val (.long q3), .second, .val (.int o), .val (.int y), .val (.int n), .val (.int pt), .val (.int f), .val (.int ng), .val (.int hx), .val (.int is), .val (.int ie), .val (.int fs), .val (.int fe), .val (.ref x_2), .unset, .unset, .unset] [(.int r_30), (.int (3 : Int32)), (.ref x_2)]
              refine Go.castore 3 180 at_179 rfl A_29 (by decide) (Nat.le_of_ble_eq_true rfl) (List.mem_of_getElem? (i := 0) rfl) q_4 (fun h_33 W_34 A_35 => ?_)
              have A_36 : Ary Z h_33 x_2 .char [(.int r_9), (.int r_16), (.int r_23), (.int r_30), (.int (0 : Int32)), (.int (0 : Int32)), (.int (0 : Int32)), (.int (0 : Int32)), (.int (0 : Int32)), (.int (0 : Int32)), (.int (0 : Int32)), (.int (0 : Int32)), (.int (0 : Int32))] := by have := A_35; rw [nar_c b_r_30] at this; exact this
              refine Go.aload 182 at_180 rfl rfl rfl ?_
              refine Go.iconst 183 (4 : Int32) at_182 rfl rfl ?_
              refine Go.lloadN 184 at_183 rfl rfl ?_
              refine Go.iconst 185 (4 : Int32) at_184 rfl rfl ?_
              refine Go.callS (S := [(.int (4 : Int32)), (.ref x_2)]) 188 [(.long q1), (.int (4 : Int32))] at_185 rfl rfl (w1 hw) (w2 hw) (w3 hw) (w4 hw) (by decide) (call_of_go (R := _) (len := 3) (W := 2) pn_0 (fun m => ef_digit m q1 (4 : Int32)) (c_digit hw q1 (4 : Int32) ) (w4 hw) (w3 hw) (by decide) (by decide)) (lenOf pd_0 rfl) (Nat.le_of_ble_eq_true rfl) rfl (Nat.le_of_ble_eq_true rfl) (Nat.le_of_ble_eq_true rfl) (fun _ q => nomatch q) (fun v h_38 sf_39 hq => ?_)
              obtain ⟨rfl, r_37, rfl, b_r_37⟩ := hq
              refine Go.more (sf' := [x_2]) ?_ (Nat.le_refl _) (Nat.le_refl _) (fun _ q => List.mem_append_right _ q)
              show G_law l Z n0 1 13 [x_2] h_33 188 #[.val (.int p0), .val (.long q1), .second, .val (.long q3), .second, .val (.int o), .val (.int y), .val (.int n), .val (.int pt), .val (.int f), .val (.int ng), .val (.int hx), .val (.int is), .val (.int ie), .val (.int fs), .val (.int fe), .val (.ref x_2), .unset, .unset, .unset] [(.int r_37), (.int (4 : Int32)), (.ref x_2)]
              refine Go.castore 4 189 at_188 rfl A_36 (by decide) (Nat.le_of_ble_eq_true rfl) (List.mem_of_getElem? (i := 0) rfl) q_4 (fun h_40 W_41 A_42 => ?_)
              have A_43 : Ary Z h_40 x_2 .char [(.int r_9), (.int r_16), (.int r_23), (.int r_30), (.int r_37), (.int (0 : Int32)), (.int (0 : Int32)), (.int (0 : Int32)), (.int (0 : Int32)), (.int (0 : Int32)), (.int (0 : Int32)), (.int (0 : Int32)), (.int (0 : Int32))] := by have := A_42; rw [nar_c b_r_37] at this; exact this
              refine Go.aload 191 at_189 rfl rfl rfl ?_
              refine Go.iconst 192 (5 : Int32) at_191 rfl rfl ?_
              refine Go.lloadN 193 at_192 rfl rfl ?_
              refine Go.iconst 194 (5 : Int32) at_193 rfl rfl ?_
              refine Go.callS (S := [(.int (5 : Int32)), (.ref x_2)]) 197 [(.long q1), (.int (5 : Int32))] at_194 rfl rfl (w1 hw) (w2 hw) (w3 hw) (w4 hw) (by decide) (call_of_go (R := _) (len := 3) (W := 2) pn_0 (fun m => ef_digit m q1 (5 : Int32)) (c_digit hw q1 (5 : Int32) ) (w4 hw) (w3 hw) (by decide) (by decide)) (lenOf pd_0 rfl) (Nat.le_of_ble_eq_true rfl) rfl (Nat.le_of_ble_eq_true rfl) (Nat.le_of_ble_eq_true rfl) (fun _ q => nomatch q) (fun v h_45 sf_46 hq => ?_)
              obtain ⟨rfl, r_44, rfl, b_r_44⟩ := hq
              refine Go.more (sf' := [x_2]) ?_ (Nat.le_refl _) (Nat.le_refl _) (fun _ q => List.mem_append_right _ q)
              show G_law l Z n0 1 13 [x_2] h_40 197 #[.val (.int p0), .val (.long q1), .second, .val (.long q3), .second, .val (.int o), .val (.int y), .val (.int n), .val (.int pt), .val (.int f), .val (.int ng), .val (.int hx), .val (.int is), .val (.int ie), .val (.int fs), .val (.int fe), .val (.ref x_2), .unset, .unset, .unset] [(.int r_44), (.int (5 : Int32)), (.ref x_2)]
              refine Go.castore 5 198 at_197 rfl A_43 (by decide) (Nat.le_of_ble_eq_true rfl) (List.mem_of_getElem? (i := 0) rfl) q_4 (fun h_47 W_48 A_49 => ?_)
              have A_50 : Ary Z h_47 x_2 .char [(.int r_9), (.int r_16), (.int r_23), (.int r_30), (.int r_37), (.int r_44), (.int (0 : Int32)), (.int (0 : Int32)), (.int (0 : Int32)), (.int (0 : Int32)), (.int (0 : Int32)), (.int (0 : Int32)), (.int (0 : Int32))] := by have := A_49; rw [nar_c b_r_44] at this; exact this
              refine Go.aload 200 at_198 rfl rfl rfl ?_
              refine Go.bipush 202 (6 : Int32) at_200 rfl rfl ?_
              refine Go.lloadN 203 at_202 rfl rfl ?_
              refine Go.bipush 205 (6 : Int32) at_203 rfl rfl ?_
              refine Go.callS (S := [(.int (6 : Int32)), (.ref x_2)]) 208 [(.long q1), (.int (6 : Int32))] at_205 rfl rfl (w1 hw) (w2 hw) (w3 hw) (w4 hw) (by decide) (call_of_go (R := _) (len := 3) (W := 2) pn_0 (fun m => ef_digit m q1 (6 : Int32)) (c_digit hw q1 (6 : Int32) ) (w4 hw) (w3 hw) (by decide) (by decide)) (lenOf pd_0 rfl) (Nat.le_of_ble_eq_true rfl) rfl (Nat.le_of_ble_eq_true rfl) (Nat.le_of_ble_eq_true rfl) (fun _ q => nomatch q) (fun v h_52 sf_53 hq => ?_)
              obtain ⟨rfl, r_51, rfl, b_r_51⟩ := hq
              refine Go.more (sf' := [x_2]) ?_ (Nat.le_refl _) (Nat.le_refl _) (fun _ q => List.mem_append_right _ q)
              show G_law l Z n0 1 13 [x_2] h_47 208 #[.val (.int p0), .val (.long q1), .second, .val (.long q3), .second, .val (.int o), .val (.int y), .val (.int n), .val (.int pt), .val (.int f), .val (.int ng), .val (.int hx), .val (.int is), .val (.int ie), .val (.int fs), .val (.int fe), .val (.ref x_2), .unset, .unset, .unset] [(.int r_51), (.int (6 : Int32)), (.ref x_2)]
              refine Go.castore 6 209 at_208 rfl A_50 (by decide) (Nat.le_of_ble_eq_true rfl) (List.mem_of_getElem? (i := 0) rfl) q_4 (fun h_54 W_55 A_56 => ?_)
              have A_57 : Ary Z h_54 x_2 .char [(.int r_9), (.int r_16), (.int r_23), (.int r_30), (.int r_37), (.int r_44), (.int r_51), (.int (0 : Int32)), (.int (0 : Int32)), (.int (0 : Int32)), (.int (0 : Int32)), (.int (0 : Int32)), (.int (0 : Int32))] := by have := A_56; rw [nar_c b_r_51] at this; exact this
              refine Go.aload 211 at_209 rfl rfl rfl ?_
              refine Go.bipush 213 (7 : Int32) at_211 rfl rfl ?_
              refine Go.lloadN 214 at_213 rfl rfl ?_
              refine Go.bipush 216 (7 : Int32) at_214 rfl rfl ?_
              refine Go.callS (S := [(.int (7 : Int32)), (.ref x_2)]) 219 [(.long q1), (.int (7 : Int32))] at_216 rfl rfl (w1 hw) (w2 hw) (w3 hw) (w4 hw) (by decide) (call_of_go (R := _) (len := 3) (W := 2) pn_0 (fun m => ef_digit m q1 (7 : Int32)) (c_digit hw q1 (7 : Int32) ) (w4 hw) (w3 hw) (by decide) (by decide)) (lenOf pd_0 rfl) (Nat.le_of_ble_eq_true rfl) rfl (Nat.le_of_ble_eq_true rfl) (Nat.le_of_ble_eq_true rfl) (fun _ q => nomatch q) (fun v h_59 sf_60 hq => ?_)
              obtain ⟨rfl, r_58, rfl, b_r_58⟩ := hq
              refine Go.more (sf' := [x_2]) ?_ (Nat.le_refl _) (Nat.le_refl _) (fun _ q => List.mem_append_right _ q)
              show G_law l Z n0 1 13 [x_2] h_54 219 #[.val (.int p0), .val (.long q1), .second, .val (.long q3), .second, .val (.int o), .val (.int y), .val (.int n), .val (.int pt), .val (.int f), .val (.int ng), .val (.int hx), .val (.int is), .val (.int ie), .val (.int fs), .val (.int fe), .val (.ref x_2), .unset, .unset, .unset] [(.int r_58), (.int (7 : Int32)), (.ref x_2)]
              refine Go.castore 7 220 at_219 rfl A_57 (by decide) (Nat.le_of_ble_eq_true rfl) (List.mem_of_getElem? (i := 0) rfl) q_4 (fun h_61 W_62 A_63 => ?_)
              have A_64 : Ary Z h_61 x_2 .char [(.int r_9), (.int r_16), (.int r_23), (.int r_30), (.int r_37), (.int r_44), (.int r_51), (.int r_58), (.int (0 : Int32)), (.int (0 : Int32)), (.int (0 : Int32)), (.int (0 : Int32)), (.int (0 : Int32))] := by have := A_63; rw [nar_c b_r_58] at this; exact this
              refine Go.aload 222 at_220 rfl rfl rfl ?_
              refine Go.bipush 224 (8 : Int32) at_222 rfl rfl ?_
              refine Go.lloadN 225 at_224 rfl rfl ?_
              refine Go.bipush 227 (8 : Int32) at_225 rfl rfl ?_
              refine Go.callS (S := [(.int (8 : Int32)), (.ref x_2)]) 230 [(.long q1), (.int (8 : Int32))] at_227 rfl rfl (w1 hw) (w2 hw) (w3 hw) (w4 hw) (by decide) (call_of_go (R := _) (len := 3) (W := 2) pn_0 (fun m => ef_digit m q1 (8 : Int32)) (c_digit hw q1 (8 : Int32) ) (w4 hw) (w3 hw) (by decide) (by decide)) (lenOf pd_0 rfl) (Nat.le_of_ble_eq_true rfl) rfl (Nat.le_of_ble_eq_true rfl) (Nat.le_of_ble_eq_true rfl) (fun _ q => nomatch q) (fun v h_66 sf_67 hq => ?_)
              obtain ⟨rfl, r_65, rfl, b_r_65⟩ := hq
              refine Go.more (sf' := [x_2]) ?_ (Nat.le_refl _) (Nat.le_refl _) (fun _ q => List.mem_append_right _ q)
              show G_law l Z n0 1 13 [x_2] h_61 230 #[.val (.int p0), .val (.long q1), .second, .val (.long q3), .second, .val (.int o), .val (.int y), .val (.int n), .val (.int pt), .val (.int f), .val (.int ng), .val (.int hx), .val (.int is), .val (.int ie), .val (.int fs), .val (.int fe), .val (.ref x_2), .unset, .unset, .unset] [(.int r_65), (.int (8 : Int32)), (.ref x_2)]
              refine Go.castore 8 231 at_230 rfl A_64 (by decide) (Nat.le_of_ble_eq_true rfl) (List.mem_of_getElem? (i := 0) rfl) q_4 (fun h_68 W_69 A_70 => ?_)
              have A_71 : Ary Z h_68 x_2 .char [(.int r_9), (.int r_16), (.int r_23), (.int r_30), (.int r_37), (.int r_44), (.int r_51), (.int r_58), (.int r_65), (.int (0 : Int32)), (.int (0 : Int32)), (.int (0 : Int32)), (.int (0 : Int32))] := by have := A_70; rw [nar_c b_r_65] at this; exact this
              refine Go.aload 233 at_231 rfl rfl rfl ?_
              refine Go.bipush 235 (9 : Int32) at_233 rfl rfl ?_
              refine Go.lloadN 236 at_235 rfl rfl ?_
              refine Go.bipush 238 (9 : Int32) at_236 rfl rfl ?_
              refine Go.callS (S := [(.int (9 : Int32)), (.ref x_2)]) 241 [(.long q1), (.int (9 : Int32))] at_238 rfl rfl (w1 hw) (w2 hw) (w3 hw) (w4 hw) (by decide) (call_of_go (R := _) (len := 3) (W := 2) pn_0 (fun m => ef_digit m q1 (9 : Int32)) (c_digit hw q1 (9 : Int32) ) (w4 hw) (w3 hw) (by decide) (by decide)) (lenOf pd_0 rfl) (Nat.le_of_ble_eq_true rfl) rfl (Nat.le_of_ble_eq_true rfl) (Nat.le_of_ble_eq_true rfl) (fun _ q => nomatch q) (fun v h_73 sf_74 hq => ?_)
              obtain ⟨rfl, r_72, rfl, b_r_72⟩ := hq
              refine Go.more (sf' := [x_2]) ?_ (Nat.le_refl _) (Nat.le_refl _) (fun _ q => List.mem_append_right _ q)
              show G_law l Z n0 1 13 [x_2] h_68 241 #[.val (.int p0), .val (.long q1), .second, .val (.long q3), .second, .val (.int o), .val (.int y), .val (.int n), .val (.int pt), .val (.int f), .val (.int ng), .val (.int hx), .val (.int is), .val (.int ie), .val (.int fs), .val (.int fe), .val (.ref x_2), .unset, .unset, .unset] [(.int r_72), (.int (9 : Int32)), (.ref x_2)]
              refine Go.castore 9 242 at_241 rfl A_71 (by decide) (Nat.le_of_ble_eq_true rfl) (List.mem_of_getElem? (i := 0) rfl) q_4 (fun h_75 W_76 A_77 => ?_)
              have A_78 : Ary Z h_75 x_2 .char [(.int r_9), (.int r_16), (.int r_23), (.int r_30), (.int r_37), (.int r_44), (.int r_51), (.int r_58), (.int r_65), (.int r_72), (.int (0 : Int32)), (.int (0 : Int32)), (.int (0 : Int32))] := by have := A_77; rw [nar_c b_r_72] at this; exact this
              refine Go.aload 244 at_242 rfl rfl rfl ?_
              refine Go.bipush 246 (10 : Int32) at_244 rfl rfl ?_
              refine Go.lloadN 247 at_246 rfl rfl ?_
              refine Go.bipush 249 (10 : Int32) at_247 rfl rfl ?_
              refine Go.callS (S := [(.int (10 : Int32)), (.ref x_2)]) 252 [(.long q1), (.int (10 : Int32))] at_249 rfl rfl (w1 hw) (w2 hw) (w3 hw) (w4 hw) (by decide) (call_of_go (R := _) (len := 3) (W := 2) pn_0 (fun m => ef_digit m q1 (10 : Int32)) (c_digit hw q1 (10 : Int32) ) (w4 hw) (w3 hw) (by decide) (by decide)) (lenOf pd_0 rfl) (Nat.le_of_ble_eq_true rfl) rfl (Nat.le_of_ble_eq_true rfl) (Nat.le_of_ble_eq_true rfl) (fun _ q => nomatch q) (fun v h_80 sf_81 hq => ?_)
              obtain ⟨rfl, r_79, rfl, b_r_79⟩ := hq
              refine Go.more (sf' := [x_2]) ?_ (Nat.le_refl _) (Nat.le_refl _) (fun _ q => List.mem_append_right _ q)
              show G_law l Z n0 1 13 [x_2] h_75 252 #[.val (.int p0), .val (.long q1), .second, .val (.long q3), .second, .val (.int o), .val (.int y), .val (.int n), .val (.int pt), .val (.int f), .val (.int ng), .val (.int hx), .val (.int is), .val (.int ie), .val (.int fs), .val (.int fe), .val (.ref x_2), .unset, .unset, .unset] [(.int r_79), (.int (10 : Int32)), (.ref x_2)]
              refine Go.castore 10 253 at_252 rfl A_78 (by decide) (Nat.le_of_ble_eq_true rfl) (List.mem_of_getElem? (i := 0) rfl) q_4 (fun h_82 W_83 A_84 => ?_)
              have A_85 : Ary Z h_82 x_2 .char [(.int r_9), (.int r_16), (.int r_23), (.int r_30), (.int r_37), (.int r_44), (.int r_51), (.int r_58), (.int r_65), (.int r_72), (.int r_79), (.int (0 : Int32)), (.int (0 : Int32))] := by have := A_84; rw [nar_c b_r_79] at this; exact this
              refine Go.aload 255 at_253 rfl rfl rfl ?_
              refine Go.bipush 257 (11 : Int32) at_255 rfl rfl ?_
              refine Go.lloadN 258 at_257 rfl rfl ?_
              refine Go.bipush 260 (11 : Int32) at_258 rfl rfl ?_
              refine Go.callS (S := [(.int (11 : Int32)), (.ref x_2)]) 263 [(.long q1), (.int (11 : Int32))] at_260 rfl rfl (w1 hw) (w2 hw) (w3 hw) (w4 hw) (by decide) (call_of_go (R := _) (len := 3) (W := 2) pn_0 (fun m => ef_digit m q1 (11 : Int32)) (c_digit hw q1 (11 : Int32) ) (w4 hw) (w3 hw) (by decide) (by decide)) (lenOf pd_0 rfl) (Nat.le_of_ble_eq_true rfl) rfl (Nat.le_of_ble_eq_true rfl) (Nat.le_of_ble_eq_true rfl) (fun _ q => nomatch q) (fun v h_87 sf_88 hq => ?_)
              obtain ⟨rfl, r_86, rfl, b_r_86⟩ := hq
              refine Go.more (sf' := [x_2]) ?_ (Nat.le_refl _) (Nat.le_refl _) (fun _ q => List.mem_append_right _ q)
              show G_law l Z n0 1 13 [x_2] h_82 263 #[.val (.int p0), .val (.long q1), .second, .val (.long q3), .second, .val (.int o), .val (.int y), .val (.int n), .val (.int pt), .val (.int f), .val (.int ng), .val (.int hx), .val (.int is), .val (.int ie), .val (.int fs), .val (.int fe), .val (.ref x_2), .unset, .unset, .unset] [(.int r_86), (.int (11 : Int32)), (.ref x_2)]
              refine Go.castore 11 264 at_263 rfl A_85 (by decide) (Nat.le_of_ble_eq_true rfl) (List.mem_of_getElem? (i := 0) rfl) q_4 (fun h_89 W_90 A_91 => ?_)
              have A_92 : Ary Z h_89 x_2 .char [(.int r_9), (.int r_16), (.int r_23), (.int r_30), (.int r_37), (.int r_44), (.int r_51), (.int r_58), (.int r_65), (.int r_72), (.int r_79), (.int r_86), (.int (0 : Int32))] := by have := A_91; rw [nar_c b_r_86] at this; exact this
              refine Go.aload 266 at_264 rfl rfl rfl ?_
              refine Go.bipush 268 (12 : Int32) at_266 rfl rfl ?_
              refine Go.lloadN 269 at_268 rfl rfl ?_
              refine Go.bipush 271 (12 : Int32) at_269 rfl rfl ?_
              refine Go.callS (S := [(.int (12 : Int32)), (.ref x_2)]) 274 [(.long q1), (.int (12 : Int32))] at_271 rfl rfl (w1 hw) (w2 hw) (w3 hw) (w4 hw) (by decide) (call_of_go (R := _) (len := 3) (W := 2) pn_0 (fun m => ef_digit m q1 (12 : Int32)) (c_digit hw q1 (12 : Int32) ) (w4 hw) (w3 hw) (by decide) (by decide)) (lenOf pd_0 rfl) (Nat.le_of_ble_eq_true rfl) rfl (Nat.le_of_ble_eq_true rfl) (Nat.le_of_ble_eq_true rfl) (fun _ q => nomatch q) (fun v h_94 sf_95 hq => ?_)
              obtain ⟨rfl, r_93, rfl, b_r_93⟩ := hq
              refine Go.more (sf' := [x_2]) ?_ (Nat.le_refl _) (Nat.le_refl _) (fun _ q => List.mem_append_right _ q)
              show G_law l Z n0 1 13 [x_2] h_89 274 #[.val (.int p0), .val (.long q1), .second, .val (.long q3), .second, .val (.int o), .val (.int y), .val (.int n), .val (.int pt), .val (.int f), .val (.int ng), .val (.int hx), .val (.int is), .val (.int ie), .val (.int fs), .val (.int fe), .val (.ref x_2), .unset, .unset, .unset] [(.int r_93), (.int (12 : Int32)), (.ref x_2)]
              refine Go.castore 12 275 at_274 rfl A_92 (by decide) (Nat.le_of_ble_eq_true rfl) (List.mem_of_getElem? (i := 0) rfl) q_4 (fun h_96 W_97 A_98 => ?_)
              have A_99 : Ary Z h_96 x_2 .char [(.int r_9), (.int r_16), (.int r_23), (.int r_30), (.int r_37), (.int r_44), (.int r_51), (.int r_58), (.int r_65), (.int r_72), (.int r_79), (.int r_86), (.int r_93)] := by have := A_98; rw [nar_c b_r_93] at this; exact this
              obtain ⟨cs0, e_cs0⟩ : ∃ cs_ : List Int32, cs_ = [r_9, r_16, r_23, r_30, r_37, r_44, r_51, r_58, r_65, r_72, r_79, r_86, r_93] := ⟨_, rfl⟩
              have hl0 : cs0.length = 13 := by rw [e_cs0]; rfl
              have hL0 : Lat cs0 := by rw [e_cs0]; exact (latC b_r_9 (latC b_r_16 (latC b_r_23 (latC b_r_30 (latC b_r_37 (latC b_r_44 (latC b_r_51 (latC b_r_58 (latC b_r_65 (latC b_r_72 (latC b_r_79 (latC b_r_86 (latC b_r_93 latN)))))))))))))
              have A0c : Ary Z h_96 x_2 .char (cs0.map Value.int) := by rw [e_cs0]; exact A_99
              refine Go.iload 277 at_275 rfl rfl ?_
              refine Go.iconst 278 (1 : Int32) at_277 rfl rfl ?_
              have cut288 : ∀ (h1 : Heap) (cs1 : List Int32) (hl1 : cs1.length = 13) (hL1 : Lat cs1) (A1 : Ary Z h1 x_2 .char (cs1.map Value.int)), G_law l Z n0 1 13 [x_2] h1 288 #[.val (.int p0), .val (.long q1), .second, .val (.long q3), .second, .val (.int o), .val (.int y), .val (.int n), .val (.int pt), .val (.int f), .val (.int ng), .val (.int hx), .val (.int is), .val (.int ie), .val (.int fs), .val (.int fe), .val (.ref x_2), .unset, .unset, .unset] [] := by
                intro h1 cs1 hl1 hL1 A1
                refine Go.iload 290 at_288 rfl rfl ?_
                have cut313 : ∀ (h2 : Heap) (cs2 : List Int32) (hl2 : cs2.length = 13) (hL2 : Lat cs2) (A2 : Ary Z h2 x_2 .char (cs2.map Value.int)), G_law l Z n0 1 13 [x_2] h2 313 #[.val (.int p0), .val (.long q1), .second, .val (.long q3), .second, .val (.int o), .val (.int y), .val (.int n), .val (.int pt), .val (.int f), .val (.int ng), .val (.int hx), .val (.int is), .val (.int ie), .val (.int fs), .val (.int fe), .val (.ref x_2), .unset, .unset, .unset] [] := by
                  intro h2 cs2 hl2 hL2 A2
                  refine Go.iload 315 at_313 rfl rfl ?_
                  have cut325 : ∀ (h3 : Heap) (cs3 : List Int32) (hl3 : cs3.length = 13) (hL3 : Lat cs3) (A3 : Ary Z h3 x_2 .char (cs3.map Value.int)), G_law l Z n0 1 13 [x_2] h3 325 #[.val (.int p0), .val (.long q1), .second, .val (.long q3), .second, .val (.int o), .val (.int y), .val (.int n), .val (.int pt), .val (.int f), .val (.int ng), .val (.int hx), .val (.int is), .val (.int ie), .val (.int fs), .val (.int fe), .val (.ref x_2), .unset, .unset, .unset] [] := by
                    intro h3 cs3 hl3 hL3 A3
                    refine Go.iload 327 at_325 rfl rfl ?_
                    have cut337 : ∀ (h4 : Heap) (cs4 : List Int32) (hl4 : cs4.length = 13) (hL4 : Lat cs4) (A4 : Ary Z h4 x_2 .char (cs4.map Value.int)), G_law l Z n0 1 13 [x_2] h4 337 #[.val (.int p0), .val (.long q1), .second, .val (.long q3), .second, .val (.int o), .val (.int y), .val (.int n), .val (.int pt), .val (.int f), .val (.int ng), .val (.int hx), .val (.int is), .val (.int ie), .val (.int fs), .val (.int fe), .val (.ref x_2), .unset, .unset, .unset] [] := by
                      intro h4 cs4 hl4 hL4 A4
                      refine Go.lconst 338 (0 : Int64) at_337 rfl rfl ?_
                      refine Go.aload 340 at_338 rfl rfl rfl ?_
                      refine Go.iload 342 at_340 rfl rfl ?_
                      refine Go.iload 344 at_342 rfl rfl ?_
                      refine Go.callS (S := []) 347 [(.long (0 : Int64)), (.ref x_2), (.int is), (.int ie)] at_344 rfl rfl (w7 hw) (w8 hw) (w3 hw) (w9 hw) (by decide) (call_of_go (R := _) (len := 3) (W := 0) pn_0 (fun m => ef_append m (0 : Int64) x_2 is ie cs4) (c_append hw (0 : Int64) x_2 is ie cs4 A4 hl4 (by omega) (by omega) (by omega)) (w9 hw) (w3 hw) (by decide) (by decide)) (lenOf pd_1 rfl) (Nat.le_of_ble_eq_true rfl) rfl (Nat.le_of_ble_eq_true rfl) (Nat.le_of_ble_eq_true rfl) (fun _ q => nomatch q) (fun v h_101 sf_102 hq => ?_)
                      obtain ⟨rfl, y_100, rfl⟩ := hq
                      refine Go.more (sf' := [x_2]) ?_ (Nat.le_refl _) (Nat.le_refl _) (fun _ q => List.mem_append_right _ q)
                      show G_law l Z n0 1 13 [x_2] h4 347 #[.val (.int p0), .val (.long q1), .second, .val (.long q3), .second, .val (.int o), .val (.int y), .val (.int n), .val (.int pt), .val (.int f), .val (.int ng), .val (.int hx), .val (.int is), .val (.int ie), .val (.int fs), .val (.int fe), .val (.ref x_2), .unset, .unset, .unset] [(.long y_100)]
                      refine Go.aload 349 at_347 rfl rfl rfl ?_
                      refine Go.iload 351 at_349 rfl rfl ?_
                      refine Go.iload 353 at_351 rfl rfl ?_
                      refine Go.callS (S := []) 356 [(.long y_100), (.ref x_2), (.int fs), (.int fe)] at_353 rfl rfl (w7 hw) (w8 hw) (w3 hw) (w9 hw) (by decide) (call_of_go (R := _) (len := 3) (W := 0) pn_0 (fun m => ef_append m y_100 x_2 fs fe cs4) (c_append hw y_100 x_2 fs fe cs4 A4 hl4 (by omega) (by omega) (by omega)) (w9 hw) (w3 hw) (by decide) (by decide)) (lenOf pd_1 rfl) (Nat.le_of_ble_eq_true rfl) rfl (Nat.le_of_ble_eq_true rfl) (Nat.le_of_ble_eq_true rfl) (fun _ q => nomatch q) (fun v h_104 sf_105 hq => ?_)
                      obtain ⟨rfl, y_103, rfl⟩ := hq
                      refine Go.more (sf' := [x_2]) ?_ (Nat.le_refl _) (Nat.le_refl _) (fun _ q => List.mem_append_right _ q)
                      show G_law l Z n0 1 13 [x_2] h4 356 #[.val (.int p0), .val (.long q1), .second, .val (.long q3), .second, .val (.int o), .val (.int y), .val (.int n), .val (.int pt), .val (.int f), .val (.int ng), .val (.int hx), .val (.int is), .val (.int ie), .val (.int fs), .val (.int fe), .val (.ref x_2), .unset, .unset, .unset] [(.long y_103)]
                      refine Go.lstore 358 #[.val (.int p0), .val (.long q1), .second, .val (.long q3), .second, .val (.int o), .val (.int y), .val (.int n), .val (.int pt), .val (.int f), .val (.int ng), .val (.int hx), .val (.int is), .val (.int ie), .val (.int fs), .val (.int fe), .val (.ref x_2), .val (.long y_103), .second, .unset] at_356 rfl rfl ?_
                      refine Go.new 361 at_358 rfl (w10 hw) (w11 hw) (w12 hw) (Nat.le_of_ble_eq_true rfl) (Nat.le_of_ble_eq_true rfl) (fun h_106 x_107 g_108 q_109 E_110 lt_111 A_112 D_113 => ?_)
                      show G_law l Z n0 2 22 [x_107, x_2] h_106 361 #[.val (.int p0), .val (.long q1), .second, .val (.long q3), .second, .val (.int o), .val (.int y), .val (.int n), .val (.int pt), .val (.int f), .val (.int ng), .val (.int hx), .val (.int is), .val (.int ie), .val (.int fs), .val (.int fe), .val (.ref x_2), .val (.long y_103), .second, .unset] [(.ref x_107)]
                      refine Go.dup 362 at_361 rfl rfl ?_
                      refine Go.callC (S := [(.ref x_107)]) (a := x_107) 365 [] at_362 rfl rfl rfl (w13 hw) (w14 hw) (w15 hw) (by decide) (call_of_go (R := _) (len := 3) (W := 1) pn_1 (fun m => ef_init m x_107) (c_init hw x_107 ) (w15 hw) (w12 hw) (by decide) (by decide)) (lenOf pd_2 rfl) (Nat.le_of_ble_eq_true rfl) rfl (Nat.le_of_ble_eq_true rfl) (Nat.le_of_ble_eq_true rfl) (sub1 (List.mem_of_getElem? (i := 0) rfl)) (fun v h_114 sf_115 hq => ?_)
                      obtain ⟨rfl, rfl⟩ := hq
                      refine Go.more (sf' := [x_107, x_2]) ?_ (Nat.le_refl _) (Nat.le_refl _) (fun _ q => List.mem_append_right _ q)
                      show G_law l Z n0 2 22 [x_107, x_2] h_106 365 #[.val (.int p0), .val (.long q1), .second, .val (.long q3), .second, .val (.int o), .val (.int y), .val (.int n), .val (.int pt), .val (.int f), .val (.int ng), .val (.int hx), .val (.int is), .val (.int ie), .val (.int fs), .val (.int fe), .val (.ref x_2), .val (.long y_103), .second, .unset] [(.ref x_107)]
                      refine Go.astore 367 #[.val (.int p0), .val (.long q1), .second, .val (.long q3), .second, .val (.int o), .val (.int y), .val (.int n), .val (.int pt), .val (.int f), .val (.int ng), .val (.int hx), .val (.int is), .val (.int ie), .val (.int fs), .val (.int fe), .val (.ref x_2), .val (.long y_103), .second, .val (.ref x_107)] at_365 rfl rfl rfl ?_
                      refine Go.aload 369 at_367 rfl rfl rfl ?_
                      refine Go.iload 371 at_369 rfl rfl ?_
                      refine Go.new 374 at_371 rfl (w19 hw) (w20 hw) (w21 hw) (Nat.le_of_ble_eq_true rfl) (Nat.le_of_ble_eq_true rfl) (fun h_116 x_117 g_118 q_119 E_120 lt_121 A_122 D_123 => ?_)
                      show G_law l Z n0 3 26 [x_117, x_107, x_2] h_116 374 #[.val (.int p0), .val (.long q1), .second, .val (.long q3), .second, .val (.int o), .val (.int y), .val (.int n), .val (.int pt), .val (.int f), .val (.int ng), .val (.int hx), .val (.int is), .val (.int ie), .val (.int fs), .val (.int fe), .val (.ref x_2), .val (.long y_103), .second, .val (.ref x_107)] [(.ref x_117), (.int ng), (.ref x_107)]
                      refine Go.dup 375 at_374 rfl rfl ?_
                      refine Go.aload 377 at_375 rfl rfl rfl ?_
                      have X_124 : Ext h4 h_116 := extT E_110 E_120
                      refine Go.old fun o_125 _ => ?_
                      refine Go.callC (S := [(.ref x_117), (.int ng), (.ref x_107)]) (a := x_117) 380 [(.ref x_2)] at_377 rfl rfl rfl (w22 hw) (w23 hw) (w24 hw) (by decide) (strNew (W := 3) (cs := cs4) (hws hw) (w20 hw) q_119 o_125 A_122 (D_123 (Or.inr (w45 hw)) (ty := (.array .byte)) (by decide)) (D_123 (Or.inr (w43 hw)) (ty := .byte) (by decide)) (A4.ext X_124) SC hz 13 hl4 (by decide) (by decide) hL4 (by decide) (by decide) (List.mem_of_getElem? (i := 0) rfl)) (lenOf pd_3 rfl) (Nat.le_of_ble_eq_true rfl) rfl (Nat.le_of_ble_eq_true rfl) (Nat.le_of_ble_eq_true rfl) (fun _ q => q) (fun v h_126 sf_127 hq => ?_)
                      obtain ⟨rfl, K_128, S_129⟩ := hq
                      refine Go.more (sf' := [x_117, x_107, x_2]) ?_ (Nat.le_refl _) (Nat.le_refl _) (fun _ q => List.mem_append_right _ q)
                      show G_law l Z n0 4 39 [x_117, x_107, x_2] h_126 380 #[.val (.int p0), .val (.long q1), .second, .val (.long q3), .second, .val (.int o), .val (.int y), .val (.int n), .val (.int pt), .val (.int f), .val (.int ng), .val (.int hx), .val (.int is), .val (.int ie), .val (.int fs), .val (.int fe), .val (.ref x_2), .val (.long y_103), .second, .val (.ref x_107)] [(.ref x_117), (.int ng), (.ref x_107)]
                      refine Go.iload 382 at_380 rfl rfl ?_
                      refine Go.iload 384 at_382 rfl rfl ?_
                      refine Go.iload 386 at_384 rfl rfl ?_
                      refine Go.iload 388 at_386 rfl rfl ?_
                      refine Go.lload 390 at_388 rfl rfl ?_
                      refine Go.iload 392 at_390 rfl rfl ?_
                      refine Go.iload 394 at_392 rfl rfl ?_
                      have cut402 : ∀ (ex : Int64), G_law l Z n0 4 39 [x_117, x_107, x_2] h_126 402 #[.val (.int p0), .val (.long q1), .second, .val (.long q3), .second, .val (.int o), .val (.int y), .val (.int n), .val (.int pt), .val (.int f), .val (.int ng), .val (.int hx), .val (.int is), .val (.int ie), .val (.int fs), .val (.int fe), .val (.ref x_2), .val (.long y_103), .second, .val (.ref x_107)] [(.long ex), (.int hx), (.long y_103), (.int fe), (.int fs), (.int ie), (.int is), (.ref x_117), (.int ng), (.ref x_107)] := by
                        intro ex
                        have X_135 : Ext h_106 h_126 := extK E_120 K_128 (allS (Nat.le_of_eq g_118) all0)
                        have f_136 := A_112.ext X_135
                        have f_137 := (D_113 (Or.inl (w52 hw)) (ty := .boolean) (by decide)).ext X_135
                        refine Go.callV (S := []) (a := x_107) 405 [(.int ng), (.ref x_117), (.int is), (.int ie), (.int fs), (.int fe), (.long y_103), (.int hx), (.long ex)] at_402 rfl rfl (w46 hw) (w47 hw) (w49 hw) (w48 hw) (fun _ q => notFace_of_selects (args := #[]) (mvT q (w49 hw))) (by decide) f_136 (call_of_go (R := _) (len := 3) (W := 0) pn_1 (fun m => ef_set m x_107 ng x_117 is ie fs fe y_103 hx ex) (c_set hw x_107 ng x_117 is ie fs fe y_103 hx ex f_136 q_109 f_137) (w50 hw) (w12 hw) (by decide) (by decide)) (lenOf pd_4 rfl) (Nat.le_of_ble_eq_true rfl) rfl (Nat.le_of_ble_eq_true rfl) (Nat.le_of_ble_eq_true rfl) (sub1 (List.mem_of_getElem? (i := 1) rfl)) (fun v h_130 sf_138 hq => ?_)
                        obtain ⟨rfl, K_131, A_132, f_133, f_134⟩ := hq
                        refine Go.more (sf' := [x_117, x_107, x_2]) ?_ (Nat.le_refl _) (Nat.le_refl _) (fun _ q => List.mem_append_right _ q)
                        show G_law l Z n0 4 39 [x_117, x_107, x_2] h_130 405 #[.val (.int p0), .val (.long q1), .second, .val (.long q3), .second, .val (.int o), .val (.int y), .val (.int n), .val (.int pt), .val (.int f), .val (.int ng), .val (.int hx), .val (.int is), .val (.int ie), .val (.int fs), .val (.int fe), .val (.ref x_2), .val (.long y_103), .second, .val (.ref x_107)] []
                        refine Go.aload 407 at_405 rfl rfl rfl ?_
                        refine Go.callV (S := []) (a := x_107) 410 [] at_407 rfl rfl (w69 hw) (w70 hw) (w72 hw) (w71 hw) (fun _ q => notFace_of_selects (args := #[]) (mvT q (w72 hw))) (by decide) A_132 (call_of_go (R := _) (len := 3) (W := 0) pn_1 (fun m => ef_haspt m x_107 fs ie) (c_haspt hw x_107 fs ie f_134 f_133) (w73 hw) (w12 hw) (by decide) (by decide)) (lenOf pd_5 rfl) (Nat.le_of_ble_eq_true rfl) rfl (Nat.le_of_ble_eq_true rfl) (Nat.le_of_ble_eq_true rfl) (fun _ q => nomatch q) (fun v h_139 sf_140 hq => ?_)
                        obtain ⟨rfl, r, rfl, r1, r0⟩ := hq
                        refine Go.more (sf' := [x_117, x_107, x_2]) ?_ (Nat.le_refl _) (Nat.le_refl _) (fun _ q => List.mem_append_right _ q)
                        show G_law l Z n0 4 39 [x_117, x_107, x_2] h_130 410 #[.val (.int p0), .val (.long q1), .second, .val (.long q3), .second, .val (.int o), .val (.int y), .val (.int n), .val (.int pt), .val (.int f), .val (.int ng), .val (.int hx), .val (.int is), .val (.int ie), .val (.int fs), .val (.int fe), .val (.ref x_2), .val (.long y_103), .second, .val (.ref x_107)] [(.int r)]
                        refine Go.iload 412 at_410 rfl rfl ?_
                        refine Go.icmpN 415 at_412 rfl (teq (fin3 b_pt b_fs r1 r0)).2 ?_
                        refine Go.iconst 416 (1 : Int32) at_415 rfl rfl ?_
                        refine Go.goto 420 at_416 (by decide) (by decide) ?_
                        exact Go.retN (1 : Int32) at_420 rfl (t := .boolean) (by simp) rfl (sf' := []) (rfl) (fun _ q => nomatch q) (Nat.le_of_ble_eq_true rfl) (Nat.le_of_ble_eq_true rfl)
                      by_cases hc394 : hx = (0 : Int32)
                      · skip
                        refine Go.ifY 401 at_394 (by decide) (by decide) (teq hc394).1 ?_
                        refine Go.lconst 402 (0 : Int64) at_401 rfl rfl ?_
                        exact cut402 _
                      · skip
                        refine Go.ifN 397 at_394 rfl (feq hc394).1 ?_
                        refine Go.lloadN 398 at_397 rfl rfl ?_
                        refine Go.goto 402 at_398 (by decide) (by decide) ?_
                        exact cut402 _
                    by_cases hc327 : hx = (0 : Int32)
                    · skip
                      refine Go.ifY 337 at_327 (by decide) (by decide) (teq hc327).1 ?_
                      exact cut337 h3 cs3 hl3 hL3 A3
                    · skip
                      refine Go.ifN 330 at_327 rfl (feq hc327).1 ?_
                      refine Go.aload 332 at_330 rfl rfl rfl ?_
                      refine Go.iload 334 at_332 rfl rfl ?_
                      refine Go.bipush 336 (69 : Int32) at_334 rfl rfl ?_
                      refine Go.castore (fe.toInt.toNat) 337 at_336 rfl A3 (nat_idx (by omega)) (by rw [List.length_map, hl3]; omega) (List.mem_of_getElem? (i := 0) rfl) q_4 (fun h_141 W_142 A_143 => ?_)
                      exact cut337 h_141 (cs3.set (fe.toInt.toNat) (69 : Int32)) (by rw [List.length_set]; exact hl3) (lat_set hL3 (by decide)) (ary_set A_143)
                  by_cases hc315 : pt = (0 : Int32)
                  · skip
                    refine Go.ifY 325 at_315 (by decide) (by decide) (teq hc315).1 ?_
                    exact cut325 h2 cs2 hl2 hL2 A2
                  · skip
                    refine Go.ifN 318 at_315 rfl (feq hc315).1 ?_
                    refine Go.aload 320 at_318 rfl rfl rfl ?_
                    refine Go.iload 322 at_320 rfl rfl ?_
                    refine Go.bipush 324 (46 : Int32) at_322 rfl rfl ?_
                    refine Go.castore (ie.toInt.toNat) 325 at_324 rfl A2 (nat_idx (by omega)) (by rw [List.length_map, hl2]; omega) (List.mem_of_getElem? (i := 0) rfl) q_4 (fun h_144 W_145 A_146 => ?_)
                    exact cut325 h_144 (cs2.set (ie.toInt.toNat) (46 : Int32)) (by rw [List.length_set]; exact hl2) (lat_set hL2 (by decide)) (ary_set A_146)
                by_cases hc290 : (0 : Int32) < n
                · skip
                  refine Go.ifN 293 at_290 rfl (tlt hc290).2.2.2 ?_
                  refine Go.aload 295 at_293 rfl rfl rfl ?_
                  refine Go.iload 297 at_295 rfl rfl ?_
                  refine Go.bipush 299 (49 : Int32) at_297 rfl rfl ?_
                  refine Go.aload 301 at_299 rfl rfl rfl ?_
                  refine Go.iload 303 at_301 rfl rfl ?_
                  obtain ⟨c_147, hv_148⟩ := at13 hl1 (j := is) (by omega) (by omega)
                  have b_c_147 := lat_at hL1 hv_148
                  refine Go.caload _ 304 at_303 rfl A1 (nat_idx (by omega)) hv_148 ?_
                  refine Go.bipush 306 (48 : Int32) at_304 rfl rfl ?_
                  refine Go.isub 307 at_306 rfl ?_
                  refine Go.bipush 309 (9 : Int32) at_307 rfl rfl ?_
                  refine Go.irem 310 at_309 rfl (by decide) ?_
                  refine Go.iadd 311 at_310 rfl ?_
                  refine Go.i2c 312 at_311 rfl ?_
                  refine Go.castore (is.toInt.toNat) 313 at_312 rfl A1 (nat_idx (by omega)) (by rw [List.length_map, hl1]; omega) (List.mem_of_getElem? (i := 0) rfl) q_4 (fun h_149 W_150 A_151 => ?_)
                  exact cut313 h_149 (cs1.set (is.toInt.toNat) (nar .char (chr ((49 : Int32) + ((c_147 - (48 : Int32)) % (9 : Int32)))))) (by rw [List.length_set]; exact hl1) (lat_set hL1 (d9_lat b_c_147)) (ary_set A_151)
                · skip
                  refine Go.ifY 313 at_290 (by decide) (by decide) (flt hc290).2.2.2 ?_
                  exact cut313 h1 cs1 hl1 hL1 A1
              by_cases hc278 : y = (1 : Int32)
              · skip
                refine Go.icmpN 281 at_278 rfl (teq hc278).2 ?_
                refine Go.aload 283 at_281 rfl rfl rfl ?_
                refine Go.iload 285 at_283 rfl rfl ?_
                refine Go.bipush 287 (48 : Int32) at_285 rfl rfl ?_
                refine Go.castore (o.toInt.toNat) 288 at_287 rfl A0c (nat_idx (by omega)) (by rw [List.length_map, hl0]; omega) (List.mem_of_getElem? (i := 0) rfl) q_4 (fun h_152 W_153 A_154 => ?_)
                exact cut288 h_152 (cs0.set (o.toInt.toNat) (48 : Int32)) (by rw [List.length_set]; exact hl0) (lat_set hL0 (by decide)) (ary_set A_154)
              · skip
                refine Go.icmpY 288 at_278 (by decide) (by decide) (feq hc278).2 ?_
                exact cut288 h_96 cs0 hl0 hL0 A0c
            by_cases hc117 : pt = (0 : Int32)
            · skip
              refine Go.ifY 127 at_117 (by decide) (by decide) (teq hc117).1 ?_
              refine Go.iload 129 at_127 rfl rfl ?_
              exact cut129 _ (pt0 hc117)
            · skip
              refine Go.ifN 120 at_117 rfl (feq hc117).1 ?_
              refine Go.iload 122 at_120 rfl rfl ?_
              refine Go.iconst 123 (1 : Int32) at_122 rfl rfl ?_
              refine Go.iadd 124 at_123 rfl ?_
              refine Go.goto 129 at_124 (by decide) (by decide) ?_
              exact cut129 _ (pt1 b_pt hc117 (by omega) (by omega))
          by_cases hc85 : z = (0 : Int32)
          · skip
            refine Go.ifN 88 at_85 rfl (teq hc85).2 ?_
            refine Go.iload 90 at_88 rfl rfl ?_
            by_cases hc90 : n = (0 : Int32)
            · skip
              refine Go.ifN 93 at_90 rfl (teq hc90).2 ?_
              refine Go.iload 95 at_93 rfl rfl ?_
              by_cases hc95 : f = (0 : Int32)
              · skip
                refine Go.ifN 98 at_95 rfl (teq hc95).2 ?_
                refine Go.iconst 99 (1 : Int32) at_98 rfl rfl ?_
                refine Go.istore 101 #[.val (.int p0), .val (.long q1), .second, .val (.long q3), .second, .val (.int o), .val (.int (1 : Int32)), .val (.int n), .val (.int pt), .val (.int f), .val (.int ng), .val (.int hx), .unset, .unset, .unset, .unset, .unset, .unset, .unset, .unset] at_99 rfl rfl ?_
                exact cut101 _ (by decide)
              · skip
                refine Go.ifY 101 at_95 (by decide) (by decide) (feq hc95).2 ?_
                exact cut101 _ b_z
            · skip
              refine Go.ifY 101 at_90 (by decide) (by decide) (feq hc90).2 ?_
              exact cut101 _ b_z
          · skip
            refine Go.ifY 101 at_85 (by decide) (by decide) (feq hc85).2 ?_
            exact cut101 _ b_z
        by_cases hc73 : ((ushr p0 (9 : Int32)) &&& (1 : Int32)) = (0 : Int32)
        · skip
          refine Go.ifY 80 at_73 (by decide) (by decide) (teq hc73).1 ?_
          refine Go.iconst 81 (0 : Int32) at_80 rfl rfl ?_
          exact cut81 _
        · skip
          refine Go.ifN 76 at_73 rfl (feq hc73).1 ?_
          refine Go.iconst 77 (1 : Int32) at_76 rfl rfl ?_
          refine Go.goto 81 at_77 (by decide) (by decide) ?_
          exact cut81 _
      by_cases hc57 : ((ushr p0 (8 : Int32)) &&& (1 : Int32)) = (0 : Int32)
      · skip
        refine Go.ifY 64 at_57 (by decide) (by decide) (teq hc57).1 ?_
        refine Go.iconst 65 (0 : Int32) at_64 rfl rfl ?_
        exact cut65 _
      · skip
        refine Go.ifN 60 at_57 rfl (feq hc57).1 ?_
        refine Go.iconst 61 (1 : Int32) at_60 rfl rfl ?_
        refine Go.goto 65 at_61 (by decide) (by decide) ?_
        exact cut65 _
    by_cases hc36 : pt = (0 : Int32)
    · skip
      refine Go.ifY 48 at_36 (by decide) (by decide) (teq hc36).1 ?_
      refine Go.iconst 49 (0 : Int32) at_48 rfl rfl ?_
      exact cut49 _ (by decide)
    · skip
      refine Go.ifN 39 at_36 rfl (feq hc36).1 ?_
      refine Go.iloadN 40 at_39 rfl rfl ?_
      refine Go.bipush 42 (6 : Int32) at_40 rfl rfl ?_
      refine Go.iushr 43 at_42 rfl ?_
      refine Go.iconst 44 (3 : Int32) at_43 rfl rfl ?_
      refine Go.iand 45 at_44 rfl ?_
      refine Go.goto 49 at_45 (by decide) (by decide) ?_
      exact cut49 _ (c_and _ 3 (by decide))
  by_cases hc24 : ((ushr p0 (5 : Int32)) &&& (1 : Int32)) = (0 : Int32)
  · skip
    refine Go.ifY 31 at_24 (by decide) (by decide) (teq hc24).1 ?_
    refine Go.iconst 32 (0 : Int32) at_31 rfl rfl ?_
    exact cut32 _ (Or.inl rfl)
  · skip
    refine Go.ifN 27 at_24 rfl (feq hc24).1 ?_
    refine Go.iconst 28 (1 : Int32) at_27 rfl rfl ?_
    refine Go.goto 32 at_28 (by decide) (by decide) ?_
    exact cut32 _ (Or.inr rfl)
set_option maxRecDepth 65536 in
set_option maxHeartbeats 40000000 in
theorem comes_1 {Post : Tables → Env → Array Value → State → Outcome → State → Prop} (hpost : ∀ tb e args s v u, (limb_1_1.after args s (.returned v) u = true ∧ limb_1_2.after args s (.returned v) u = true ∧ True) → FrameEnd s (.returned v) u (Jvm.fieldLocs frame_1_writes args s ++ Jvm.arrayLocs frame_1_arrays args s ++ Jvm.staticLocs frame_1_statics s) 16 192 → Post tb e args s (.returned v) u) :
    ArmFor flags0 classFile x code maxLocals ret World_1 tables_1 room_1 Calls_1 rest_1 Pre_1 Post := by
  intro l hfl _ _ p e ha hc hk s m args below hf hA hF happ hP
  obtain ⟨hcalls, hrest, hpre⟩ := hP
  obtain ⟨-, -, -, hnamed, -, -, -, hat⟩ := (Spec.applies_iff hf).mp happ
  obtain ⟨hg, hn⟩ := and_e (Cond.before_iff.mp (show (Jvm.Cond.and given_1 narrow_1).before args s = true from hpre))
  obtain ⟨g0, k1⟩ := and_e hg
  obtain ⟨g1, k2⟩ := and_e k1
  obtain ⟨g2, k3⟩ := and_e k2
  have g3 := k3
  obtain ⟨w0, w1, w2, rfl⟩ : ∃ w0 w1 w2 : Value, args = #[w0, w1, w2] := by
    have hs : args.size = 3 := by simpa [Cond.value, given_1] using g0
    obtain ⟨L⟩ := args
    match L, hs with
    | [w0, w1, w2], _ => exact ⟨w0, w1, w2, rfl⟩
  have hw : HW _ s := fun d (hd : d ∈ tables_1) => atoms_spec (ws := Jvm.Cond.code x code maxLocals ret :: tables_1) hat d (List.mem_cons_of_mem _ hd)
  obtain ⟨hsets, hown0⟩ := atoms_of _ (rest_1_c_eq ▸ (show rest_1_c.before _ s = true from hrest))
  obtain ⟨p0, ea0⟩ := is_v g1
  obtain rfl : w0 = (.int p0) := Option.some.inj ea0
  obtain ⟨q1, ea1⟩ := isL_v g2
  obtain rfl : w1 = (.long q1) := Option.some.inj ea1
  obtain ⟨q3, ea2⟩ := isL_v g3
  obtain rfl : w2 = (.long q3) := Option.some.inj ea2
  obtain ⟨z, ez⟩ := is_v (Cond.before_iff.mp (hsets _ (List.mem_of_getElem? (i := 1) rfl)))
  have SC : Sta s s.heap "java/lang/String" "COMPACT_STRINGS" "Z" (.int z) := Sta.start ez (Or.inl (hsets _ (List.mem_of_getElem? (i := 0) rfl)))
  have hz : ¬ (z = (0 : Int32)) := gotF (Cond.eq_ints ez (Term.int_eval (0))) (not_v (Cond.before_iff.mp (hsets _ (List.mem_of_getElem? (i := 2) rfl))))

  obtain ⟨n, o, h1, h2, h3, _, L, _, rfl, rfl, -, N, -, hq⟩ := met_of_go (md := none) (desc := "(IJJ)Z") (ws := tables_1) pn_0 (fun m => ef_law m p0 q1 q3) (law_go (l := l) (Z := s) (n0 := s.heap.size) (h0 := s.heap) hw p0 q1 q3 z SC hz) p e ha hc hk s m _ below hf ((Spec.applies_iff_loose hf).mp happ).1 ⟨rfl, State.Warmed39.refl s, rfl, Old.start s, rfl⟩ trivial
  refine ⟨n, _, h1, h2, h3, hpost _ _ _ _ _ _ ⟨Cond.after_iff.mpr rfl, Cond.after_iff.mpr (eq_i res_at (Term.int_eval (1)) rfl), trivial⟩ ⟨hq.1, hq.2.1, (hq.2.2.sift fun y hy => Or.inr (N y hy)).mono (by decide) (by decide)⟩⟩
theorem main_1_1 : Claimed_1_1 := comes_1 fun _ _ _ _ _ _ h hF => ⟨h.1, hF⟩
theorem main_1_2 : Claimed_1_2 := comes_1 fun _ _ _ _ _ _ h hF => ⟨h.2.1, hF⟩
end Jvm.Pilot.@@N@@
namespace Jvm.Pilot.@@N@@
open Jvm Jvm.ClassFile Sem Op Lib Jvm.Free Jvm.Stand Jvm.Pilot.@@N@@.Jvm.D
/-! MADE BY PROGRAM (witnessworld.py) out of the Statement's table words and the real class files: 20 classes; the members and pool entries that the words name. The judged class is class 1, her method 1. -/
namespace start1
open Jvm.ClassFile
def u (s : String) : CpInfo := .utf8 (stringToUtf16 s)
/-- a pool by its gaps: so many unusable entries, then the entry; so many at the end -/
def gap : Nat → List CpInfo → List CpInfo
  | 0, r => r
  | n + 1, r => .unusable :: gap n r
def poolList (es : List (Nat × CpInfo)) (last : Nat) : List CpInfo := es.foldr (fun e r => gap e.1 (e.2 :: r)) (gap last [])
def pool (es : List (Nat × CpInfo)) (last : Nat) : Array CpInfo := ⟨poolList es last⟩
def fileOf (pool : Array CpInfo) (this : Nat) (attrs : Array Attribute := #[]) (ms : Array MethodInfo := #[]) (fl : Nat := 33) (sup : Nat := 0) (ifs : Array Nat := #[]) (fds : Array FieldInfo := #[]) : ClassFile where
  minorVersion := 0
  majorVersion := 65
  constantPool := pool
  accessFlags := fl
  thisClass := this
  superClass := sup
  interfaces := ifs
  fields := fds
  methods := ms
  attributes := attrs
def plain (name : String) (sup : Option ClassId) : Class where
  name := name
  kind := .ordinary
  loader := none
  accessFlags := 33
  super := sup
  interfaces := #[]
  cf := none
  fields := #[]
  methods := #[]
  instanceTypes := #[]
  staticTypes := #[]
  resolved := #[]
  callSites := []
  init := .initialized
  statics := none
  mirror := none

def pool0 : Array CpInfo := pool [(5, u "<init>"), (0, u "()V"), (1, .class_ 10), (1, u "java/lang/Object")] 113

def k0c0 : Code := { maxStack := 0, maxLocals := 1, code := object_method_1_code, exceptionTable := #[], attributes := #[] }
def k0m0 : Method := { name := "<init>", desc := "()V", sig := { parameters := [], returnType := none }, accessFlags := 1, code := some k0c0 }
/-- java/lang/Object -/
def k0 : Class := { plain "java/lang/Object" none with
  accessFlags := 33
  interfaces := #[]
  cf := some (fileOf pool0 8 #[] #[{ accessFlags := 1, nameIndex := 5, descriptorIndex := 6, attributes := #[] }] 33 0 #[] #[])
  fields := #[]
  methods := #[k0m0]
  instanceTypes := #[]
  staticTypes := #[]
  resolved := Array.replicate 124 none
  statics := none }

def pool1 : Array CpInfo := pool [(2, .class_ 4), (0, .nameAndType 5 6), (0, u "java/lang/Object"), (0, u "<init>"), (0, u "()V"), (0, .methodref 8 9), (0, .class_ 10), (0, .nameAndType 11 12), (0, u "com/example/sigfig/sigfig/NumeralHasPointPinLaw"), (0, u "digit"), (0, u "(JI)C"), (0, .methodref 8 14), (0, .nameAndType 15 16), (0, u "append"), (0, u "(J[CII)J"), (0, .class_ 18), (0, u "com/example/sigfig/sigfig/Numeral"), (0, .methodref 17 3), (0, .class_ 21), (0, u "java/lang/String"), (0, .methodref 20 23), (0, .nameAndType 5 24), (0, u "([C)V"), (0, .methodref 17 26), (0, .nameAndType 27 28), (0, u "set"), (0, u "(ZLjava/lang/String;IIIIJZJ)V"), (0, .methodref 17 30), (0, .nameAndType 31 32), (0, u "hasPoint"), (0, u "()Z"), (0, .long 15), (1, .long 10), (3, u "law"), (0, u "(IJJ)Z")] 5

def k1m0 : Method := { name := "<init>", desc := "()V", sig := { parameters := [], returnType := none }, accessFlags := 1, code := none }
def k1c1 : Code := { maxStack := 12, maxLocals := 20, code := code, exceptionTable := #[], attributes := #[] }
def k1m1 : Method := { name := "law", desc := "(IJJ)Z", sig := { parameters := [.int, .long, .long], returnType := some .boolean }, accessFlags := 9, code := some k1c1 }
def k1c2 : Code := { maxStack := 5, maxLocals := 3, code := method_3_code, exceptionTable := #[], attributes := #[] }
def k1m2 : Method := { name := "digit", desc := "(JI)C", sig := { parameters := [.long, .int], returnType := some .char }, accessFlags := 10, code := some k1c2 }
def k1c3 : Code := { maxStack := 5, maxLocals := 7, code := method_4_code, exceptionTable := #[], attributes := #[] }
def k1m3 : Method := { name := "append", desc := "(J[CII)J", sig := { parameters := [.long, (.array .char), .int, .int], returnType := some .long }, accessFlags := 10, code := some k1c3 }
/-- com/example/sigfig/sigfig/NumeralHasPointPinLaw -/
def k1 : Class := { plain "com/example/sigfig/sigfig/NumeralHasPointPinLaw" (some 0) with
  accessFlags := 49
  interfaces := #[]
  cf := some (fileOf pool1 8 #[] #[{ accessFlags := 1, nameIndex := 5, descriptorIndex := 6, attributes := #[] }, { accessFlags := 9, nameIndex := 39, descriptorIndex := 40, attributes := #[] }, { accessFlags := 10, nameIndex := 11, descriptorIndex := 12, attributes := #[] }, { accessFlags := 10, nameIndex := 15, descriptorIndex := 16, attributes := #[] }] 49 2 #[] #[])
  fields := #[]
  methods := #[k1m0, k1m1, k1m2, k1m3]
  instanceTypes := #[]
  staticTypes := #[]
  resolved := Array.replicate 46 none
  statics := none }

def pool2 : Array CpInfo := pool [(1, .class_ 2), (0, u "com/example/sigfig/sigfig/Numeral"), (2, .methodref 6 7), (0, .class_ 8), (0, .nameAndType 9 10), (0, u "java/lang/Object"), (0, u "<init>"), (0, u "()V"), (0, .fieldref 1 12), (0, .nameAndType 13 14), (0, u "negative"), (0, u "Z"), (0, .fieldref 1 16), (0, .nameAndType 17 18), (0, u "text"), (0, u "Ljava/lang/String;"), (0, .fieldref 1 20), (0, .nameAndType 21 22), (0, u "integerStart"), (0, u "I"), (0, .fieldref 1 24), (0, .nameAndType 25 22), (0, u "integerEnd"), (0, .fieldref 1 27), (0, .nameAndType 28 22), (0, u "fractionStart"), (0, .fieldref 1 30), (0, .nameAndType 31 22), (0, u "fractionEnd"), (0, .fieldref 1 33), (0, .nameAndType 34 35), (0, u "unscaled"), (0, u "J"), (0, .fieldref 1 37), (0, .nameAndType 38 14), (0, u "hasExponent"), (0, .fieldref 1 40), (0, .nameAndType 41 35), (0, u "exponent"), (17, u "set"), (0, u "(ZLjava/lang/String;IIIIJZJ)V"), (48, u "LONG_POWERS_OF_TEN"), (0, u "[J"), (137, u "MAX_EXPONENT"), (3, u "BINARY_DIGITS"), (1, u "BINARY_MAGNITUDE"), (1, u "LONG_DIGITS"), (1, u "LONG_PAIR_DIGITS"), (1, u "NOT_A_LONG"), (2, u "()Z"), (1, u "hasPoint")] 58

def k2c0 : Code := { maxStack := 1, maxLocals := 1, code := prog_14_method_1_code, exceptionTable := #[], attributes := #[] }
def k2m0 : Method := { name := "<init>", desc := "()V", sig := { parameters := [], returnType := none }, accessFlags := 0, code := some k2c0 }
def k2c1 : Code := { maxStack := 3, maxLocals := 12, code := prog_14_method_2_code, exceptionTable := #[], attributes := #[] }
def k2m1 : Method := { name := "set", desc := "(ZLjava/lang/String;IIIIJZJ)V", sig := { parameters := [.boolean, (.object "java/lang/String"), .int, .int, .int, .int, .long, .boolean, .long], returnType := none }, accessFlags := 0, code := some k2c1 }
def k2c2 : Code := { maxStack := 2, maxLocals := 1, code := prog_14_method_6_code, exceptionTable := #[], attributes := #[] }
def k2m2 : Method := { name := "hasPoint", desc := "()Z", sig := { parameters := [], returnType := some .boolean }, accessFlags := 0, code := some k2c2 }
/-- com/example/sigfig/sigfig/Numeral -/
def k2 : Class := { plain "com/example/sigfig/sigfig/Numeral" (some 0) with
  accessFlags := 48
  interfaces := #[]
  cf := some (fileOf pool2 1 #[] #[{ accessFlags := 0, nameIndex := 9, descriptorIndex := 10, attributes := #[] }, { accessFlags := 0, nameIndex := 59, descriptorIndex := 60, attributes := #[] }, { accessFlags := 0, nameIndex := 265, descriptorIndex := 263, attributes := #[] }] 48 6 #[] #[{ accessFlags := 24, nameIndex := 248, descriptorIndex := 35, attributes := #[] }, { accessFlags := 24, nameIndex := 252, descriptorIndex := 22, attributes := #[] }, { accessFlags := 24, nameIndex := 254, descriptorIndex := 22, attributes := #[] }, { accessFlags := 26, nameIndex := 256, descriptorIndex := 22, attributes := #[] }, { accessFlags := 26, nameIndex := 258, descriptorIndex := 22, attributes := #[] }, { accessFlags := 24, nameIndex := 260, descriptorIndex := 35, attributes := #[] }, { accessFlags := 24, nameIndex := 109, descriptorIndex := 110, attributes := #[] }, { accessFlags := 2, nameIndex := 13, descriptorIndex := 14, attributes := #[] }, { accessFlags := 2, nameIndex := 17, descriptorIndex := 18, attributes := #[] }, { accessFlags := 2, nameIndex := 21, descriptorIndex := 22, attributes := #[] }, { accessFlags := 2, nameIndex := 25, descriptorIndex := 22, attributes := #[] }, { accessFlags := 2, nameIndex := 28, descriptorIndex := 22, attributes := #[] }, { accessFlags := 2, nameIndex := 31, descriptorIndex := 22, attributes := #[] }, { accessFlags := 2, nameIndex := 34, descriptorIndex := 35, attributes := #[] }, { accessFlags := 2, nameIndex := 38, descriptorIndex := 14, attributes := #[] }, { accessFlags := 2, nameIndex := 41, descriptorIndex := 35, attributes := #[] }])
  fields := #[{ name := "MAX_EXPONENT", type := .long, accessFlags := 24, slot := 0, constantValue := 0 }, { name := "BINARY_DIGITS", type := .int, accessFlags := 24, slot := 1, constantValue := 0 }, { name := "BINARY_MAGNITUDE", type := .int, accessFlags := 24, slot := 2, constantValue := 0 }, { name := "LONG_DIGITS", type := .int, accessFlags := 26, slot := 3, constantValue := 0 }, { name := "LONG_PAIR_DIGITS", type := .int, accessFlags := 26, slot := 4, constantValue := 0 }, { name := "NOT_A_LONG", type := .long, accessFlags := 24, slot := 5, constantValue := 0 }, { name := "LONG_POWERS_OF_TEN", type := (.array .long), accessFlags := 24, slot := 6, constantValue := 0 }, { name := "negative", type := .boolean, accessFlags := 2, slot := 0, constantValue := 0 }, { name := "text", type := (.object "java/lang/String"), accessFlags := 2, slot := 1, constantValue := 0 }, { name := "integerStart", type := .int, accessFlags := 2, slot := 2, constantValue := 0 }, { name := "integerEnd", type := .int, accessFlags := 2, slot := 3, constantValue := 0 }, { name := "fractionStart", type := .int, accessFlags := 2, slot := 4, constantValue := 0 }, { name := "fractionEnd", type := .int, accessFlags := 2, slot := 5, constantValue := 0 }, { name := "unscaled", type := .long, accessFlags := 2, slot := 6, constantValue := 0 }, { name := "hasExponent", type := .boolean, accessFlags := 2, slot := 7, constantValue := 0 }, { name := "exponent", type := .long, accessFlags := 2, slot := 8, constantValue := 0 }]
  methods := #[k2m0, k2m1, k2m2]
  instanceTypes := #[.boolean, (.object "java/lang/String"), .int, .int, .int, .int, .long, .boolean, .long]
  staticTypes := #[.long, .int, .int, .int, .int, .long, (.array .long)]
  resolved := Array.replicate 324 none
  statics := none }

def pool3 : Array CpInfo := pool [(1, .class_ 2), (0, u "java/io/Serializable"), (0, .class_ 4), (0, u "java/lang/Object")] 2

/-- java/io/Serializable -/
def k3 : Class := { plain "java/io/Serializable" (some 0) with
  accessFlags := 1537
  interfaces := #[]
  cf := some (fileOf pool3 1 #[] #[] 1537 3 #[] #[])
  fields := #[]
  methods := #[]
  instanceTypes := #[]
  staticTypes := #[]
  resolved := Array.replicate 7 none
  statics := none }

def pool4 : Array CpInfo := pool [(1, .class_ 2), (0, u "java/lang/Comparable"), (0, .class_ 4), (0, u "java/lang/Object")] 7

/-- java/lang/Comparable -/
def k4 : Class := { plain "java/lang/Comparable" (some 0) with
  accessFlags := 1537
  interfaces := #[]
  cf := some (fileOf pool4 1 #[] #[] 1537 3 #[] #[])
  fields := #[]
  methods := #[]
  instanceTypes := #[]
  staticTypes := #[]
  resolved := Array.replicate 12 none
  statics := none }

def pool5 : Array CpInfo := pool [(2, .class_ 4), (1, u "java/lang/CharSequence"), (42, .class_ 48), (0, u "java/lang/CharSequence$1CodePointIterator"), (10, .class_ 60), (0, u "java/lang/CharSequence$1CharIterator"), (5, .class_ 67), (0, u "java/lang/Object")] 63

/-- java/lang/CharSequence -/
def k5 : Class := { plain "java/lang/CharSequence" (some 0) with
  accessFlags := 1537
  interfaces := #[]
  cf := some (fileOf pool5 2 #[.nestMembers #[47, 59]] #[] 1537 66 #[] #[])
  fields := #[]
  methods := #[]
  instanceTypes := #[]
  staticTypes := #[]
  resolved := Array.replicate 131 none
  statics := none }

def pool6 : Array CpInfo := pool [(1, .class_ 2), (0, u "java/lang/constant/Constable"), (0, .class_ 4), (0, u "java/lang/Object")] 6

/-- java/lang/constant/Constable -/
def k6 : Class := { plain "java/lang/constant/Constable" (some 0) with
  accessFlags := 1537
  interfaces := #[]
  cf := some (fileOf pool6 1 #[] #[] 1537 3 #[] #[])
  fields := #[]
  methods := #[]
  instanceTypes := #[]
  staticTypes := #[]
  resolved := Array.replicate 11 none
  statics := none }

def pool7 : Array CpInfo := pool [(1, .class_ 2), (0, u "java/lang/constant/ConstantDesc"), (0, .class_ 4), (0, u "java/lang/Object")] 32

/-- java/lang/constant/ConstantDesc -/
def k7 : Class := { plain "java/lang/constant/ConstantDesc" (some 0) with
  accessFlags := 1537
  interfaces := #[]
  cf := some (fileOf pool7 1 #[] #[] 1537 3 #[] #[])
  fields := #[]
  methods := #[]
  instanceTypes := #[]
  staticTypes := #[]
  resolved := Array.replicate 37 none
  statics := none }

def pool8 : Array CpInfo := pool [(1, .methodref 2 3), (0, .class_ 4), (0, .nameAndType 5 6), (0, u "java/lang/Object"), (0, u "<init>"), (0, u "()V"), (2, .fieldref 10 11), (0, .class_ 12), (0, .nameAndType 13 14), (0, u "java/lang/String"), (0, u "value"), (0, u "[B"), (0, .fieldref 10 16), (0, .nameAndType 17 18), (0, u "coder"), (0, u "B"), (2, u "hash"), (0, u "I"), (2, u "hashIsZero"), (0, u "Z"), (0, .methodref 10 28), (0, .nameAndType 5 29), (0, u "([CIILjava/lang/Void;)V"), (8, .fieldref 10 39), (0, .nameAndType 40 26), (0, u "COMPACT_STRINGS"), (1, .class_ 44), (1, u "java/lang/StringUTF16"), (0, u "compress"), (1, .methodref 42 48), (0, .nameAndType 49 50), (0, u "coderFromArrayLen"), (0, u "([BI)B"), (126, .methodref 42 178), (0, .nameAndType 45 179), (0, u "([CII)[B"), (395, .class_ 576), (0, u "java/lang/CharSequence"), (22, u "CASE_INSENSITIVE_ORDER"), (0, u "Ljava/util/Comparator;"), (409, u "([C)V"), (90, u "serialPersistentFields"), (0, u "[Ljava/io/ObjectStreamField;"), (0, .class_ 1104), (0, u "java/lang/String$CaseInsensitiveComparator"), (1, .class_ 1107), (0, u "java/io/Serializable"), (0, .class_ 1109), (0, u "java/lang/Comparable"), (0, .class_ 1111), (0, u "java/lang/constant/Constable"), (0, .class_ 1113), (0, u "java/lang/constant/ConstantDesc"), (2, u "serialVersionUID"), (0, u "J"), (3, u "REPL"), (0, u "C"), (2, u "LATIN1"), (1, u "UTF16")] 323

def k8m0 : Method := { name := "<init>", desc := "()V", sig := { parameters := [], returnType := none }, accessFlags := 1, code := none }
def k8c1 : Code := { maxStack := 5, maxLocals := 2, code := jdk_42_method_3_code, exceptionTable := #[], attributes := #[] }
def k8m1 : Method := { name := "<init>", desc := "([C)V", sig := { parameters := [(.array .char)], returnType := none }, accessFlags := 1, code := some k8c1 }
def k8c2 : Code := { maxStack := 4, maxLocals := 6, code := jdk_42_method_149_code, exceptionTable := #[], attributes := #[] }
def k8m2 : Method := { name := "<init>", desc := "([CIILjava/lang/Void;)V", sig := { parameters := [(.array .char), .int, .int, (.object "java/lang/Void")], returnType := none }, accessFlags := 2, code := some k8c2 }
/-- java/lang/String -/
def k8 : Class := { plain "java/lang/String" (some 0) with
  accessFlags := 49
  interfaces := #[3, 4, 5, 6, 7]
  cf := some (fileOf pool8 10 #[.nestMembers #[1103]] #[{ accessFlags := 1, nameIndex := 5, descriptorIndex := 6, attributes := #[] }, { accessFlags := 1, nameIndex := 5, descriptorIndex := 1010, attributes := #[] }, { accessFlags := 2, nameIndex := 5, descriptorIndex := 29, attributes := #[] }] 49 2 #[1106, 1108, 575, 1110, 1112] #[{ accessFlags := 18, nameIndex := 13, descriptorIndex := 14, attributes := #[] }, { accessFlags := 18, nameIndex := 17, descriptorIndex := 18, attributes := #[] }, { accessFlags := 2, nameIndex := 21, descriptorIndex := 22, attributes := #[] }, { accessFlags := 2, nameIndex := 25, descriptorIndex := 26, attributes := #[] }, { accessFlags := 26, nameIndex := 1116, descriptorIndex := 1117, attributes := #[] }, { accessFlags := 24, nameIndex := 40, descriptorIndex := 26, attributes := #[] }, { accessFlags := 26, nameIndex := 1101, descriptorIndex := 1102, attributes := #[] }, { accessFlags := 26, nameIndex := 1121, descriptorIndex := 1122, attributes := #[] }, { accessFlags := 25, nameIndex := 599, descriptorIndex := 600, attributes := #[] }, { accessFlags := 24, nameIndex := 1125, descriptorIndex := 18, attributes := #[] }, { accessFlags := 24, nameIndex := 1127, descriptorIndex := 18, attributes := #[] }])
  fields := #[{ name := "value", type := (.array .byte), accessFlags := 18, slot := 0, constantValue := 0 }, { name := "coder", type := .byte, accessFlags := 18, slot := 1, constantValue := 0 }, { name := "hash", type := .int, accessFlags := 2, slot := 2, constantValue := 0 }, { name := "hashIsZero", type := .boolean, accessFlags := 2, slot := 3, constantValue := 0 }, { name := "serialVersionUID", type := .long, accessFlags := 26, slot := 0, constantValue := 0 }, { name := "COMPACT_STRINGS", type := .boolean, accessFlags := 24, slot := 1, constantValue := 0 }, { name := "serialPersistentFields", type := (.array (.object "java/io/ObjectStreamField")), accessFlags := 26, slot := 2, constantValue := 0 }, { name := "REPL", type := .char, accessFlags := 26, slot := 3, constantValue := 0 }, { name := "CASE_INSENSITIVE_ORDER", type := (.object "java/util/Comparator"), accessFlags := 25, slot := 4, constantValue := 0 }, { name := "LATIN1", type := .byte, accessFlags := 24, slot := 5, constantValue := 0 }, { name := "UTF16", type := .byte, accessFlags := 24, slot := 6, constantValue := 0 }]
  methods := #[k8m0, k8m1, k8m2]
  instanceTypes := #[(.array .byte), .byte, .int, .boolean]
  staticTypes := #[.long, .boolean, (.array (.object "java/io/ObjectStreamField")), .char, (.object "java/util/Comparator"), .byte, .byte]
  resolved := Array.replicate 1451 none
  statics := some 0 }

def pool9 : Array CpInfo := pool [(6, .class_ 8), (1, u "java/lang/Object"), (0, u "<init>"), (0, u "()V"), (1, .class_ 14), (1, u "java/lang/StringUTF16"), (31, u "$assertionsDisabled"), (0, u "Z"), (13, u "HI_BYTE_SHIFT"), (0, u "I"), (2, u "LO_BYTE_SHIFT"), (49, .methodref 12 116), (0, .nameAndType 117 118), (0, u "compress"), (0, u "([CI[BII)I"), (3, u "([CII)[B"), (138, u "coderFromArrayLen"), (0, u "([BI)B"), (106, .class_ 371), (1, u "java/lang/StringUTF16$LinesSpliterator"), (58, u "MAX_LENGTH"), (196, .class_ 628), (0, u "java/lang/StringUTF16$CodePointsSpliterator"), (0, .class_ 630), (0, u "java/lang/StringUTF16$CharsSpliterator")] 4

def k9m0 : Method := { name := "<init>", desc := "()V", sig := { parameters := [], returnType := none }, accessFlags := 0, code := none }
def k9c1 : Code := { maxStack := 2, maxLocals := 2, code := jdk_52_method_15_code, exceptionTable := #[], attributes := #[] }
def k9m1 : Method := { name := "coderFromArrayLen", desc := "([BI)B", sig := { parameters := [(.array .byte), .int], returnType := some .byte }, accessFlags := 8, code := some k9c1 }
def k9c2 : Code := { maxStack := 5, maxLocals := 6, code := jdk_52_method_16_code, exceptionTable := #[], attributes := #[] }
def k9m2 : Method := { name := "compress", desc := "([CII)[B", sig := { parameters := [(.array .char), .int, .int], returnType := some (.array .byte) }, accessFlags := 9, code := some k9c2 }
def k9c3 : Code := { maxStack := 3, maxLocals := 7, code := jdk_52_method_21_code, exceptionTable := #[], attributes := #[] }
def k9m3 : Method := { name := "compress", desc := "([CI[BII)I", sig := { parameters := [(.array .char), .int, (.array .byte), .int, .int], returnType := some .int }, accessFlags := 9, code := some k9c3 }
/-- java/lang/StringUTF16 -/
def k9 : Class := { plain "java/lang/StringUTF16" (some 0) with
  accessFlags := 48
  interfaces := #[]
  cf := some (fileOf pool9 12 #[.nestMembers #[627, 629, 369]] #[{ accessFlags := 0, nameIndex := 9, descriptorIndex := 10, attributes := #[] }, { accessFlags := 8, nameIndex := 261, descriptorIndex := 262, attributes := #[] }, { accessFlags := 9, nameIndex := 117, descriptorIndex := 122, attributes := #[] }, { accessFlags := 9, nameIndex := 117, descriptorIndex := 118, attributes := #[] }] 48 6 #[] #[{ accessFlags := 26, nameIndex := 61, descriptorIndex := 62, attributes := #[] }, { accessFlags := 26, nameIndex := 65, descriptorIndex := 62, attributes := #[] }, { accessFlags := 24, nameIndex := 430, descriptorIndex := 62, attributes := #[] }, { accessFlags := 4120, nameIndex := 46, descriptorIndex := 47, attributes := #[] }])
  fields := #[{ name := "HI_BYTE_SHIFT", type := .int, accessFlags := 26, slot := 0, constantValue := 0 }, { name := "LO_BYTE_SHIFT", type := .int, accessFlags := 26, slot := 1, constantValue := 0 }, { name := "MAX_LENGTH", type := .int, accessFlags := 24, slot := 2, constantValue := 0 }, { name := "$assertionsDisabled", type := .boolean, accessFlags := 4120, slot := 3, constantValue := 0 }]
  methods := #[k9m0, k9m1, k9m2, k9m3]
  instanceTypes := #[]
  staticTypes := #[.int, .int, .int, .boolean]
  resolved := Array.replicate 635 none
  statics := none }

def pool10 : Array CpInfo := pool [(4, .class_ 6), (1, u "java/lang/Object"), (0, u "<init>"), (0, u "()V"), (5, .class_ 16), (1, u "java/lang/StringLatin1"), (104, u "$assertionsDisabled"), (0, u "Z"), (98, .class_ 223), (1, u "java/lang/StringLatin1$LinesSpliterator"), (166, .class_ 391), (0, u "java/lang/StringLatin1$CharsSpliterator")] 3

def k10m0 : Method := { name := "<init>", desc := "()V", sig := { parameters := [], returnType := none }, accessFlags := 0, code := none }
/-- java/lang/StringLatin1 -/
def k10 : Class := { plain "java/lang/StringLatin1" (some 0) with
  accessFlags := 48
  interfaces := #[]
  cf := some (fileOf pool10 14 #[.nestMembers #[390, 221]] #[{ accessFlags := 0, nameIndex := 7, descriptorIndex := 8, attributes := #[] }] 48 4 #[] #[{ accessFlags := 4120, nameIndex := 121, descriptorIndex := 122, attributes := #[] }])
  fields := #[{ name := "$assertionsDisabled", type := .boolean, accessFlags := 4120, slot := 0, constantValue := 0 }]
  methods := #[k10m0]
  instanceTypes := #[]
  staticTypes := #[.boolean]
  resolved := Array.replicate 395 none
  statics := none }

def pool11 : Array CpInfo := pool [(2, .class_ 4), (1, u "java/lang/Object"), (0, u "<init>"), (0, u "()V"), (17, .class_ 26), (1, u "jdk/internal/util/Preconditions"), (28, .class_ 56), (0, u "jdk/internal/util/Preconditions$4"), (57, .class_ 115), (0, u "jdk/internal/util/Preconditions$1"), (7, u "SIOOBE_FORMATTER"), (0, u "Ljava/util/function/BiFunction;"), (0, .class_ 126), (0, u "jdk/internal/util/Preconditions$2"), (3, u "AIOOBE_FORMATTER"), (0, .class_ 132), (0, u "jdk/internal/util/Preconditions$3"), (3, u "IOOBE_FORMATTER")] 57

def k11m0 : Method := { name := "<init>", desc := "()V", sig := { parameters := [], returnType := none }, accessFlags := 1, code := none }
/-- jdk/internal/util/Preconditions -/
def k11 : Class := { plain "jdk/internal/util/Preconditions" (some 0) with
  accessFlags := 33
  interfaces := #[]
  cf := some (fileOf pool11 24 #[.nestMembers #[55, 131, 125, 114]] #[{ accessFlags := 1, nameIndex := 5, descriptorIndex := 6, attributes := #[] }] 33 2 #[] #[{ accessFlags := 25, nameIndex := 123, descriptorIndex := 124, attributes := #[] }, { accessFlags := 25, nameIndex := 130, descriptorIndex := 124, attributes := #[] }, { accessFlags := 25, nameIndex := 136, descriptorIndex := 124, attributes := #[] }])
  fields := #[{ name := "SIOOBE_FORMATTER", type := (.object "java/util/function/BiFunction"), accessFlags := 25, slot := 0, constantValue := 0 }, { name := "AIOOBE_FORMATTER", type := (.object "java/util/function/BiFunction"), accessFlags := 25, slot := 1, constantValue := 0 }, { name := "IOOBE_FORMATTER", type := (.object "java/util/function/BiFunction"), accessFlags := 25, slot := 2, constantValue := 0 }]
  methods := #[k11m0]
  instanceTypes := #[]
  staticTypes := #[(.object "java/util/function/BiFunction"), (.object "java/util/function/BiFunction"), (.object "java/util/function/BiFunction")]
  resolved := Array.replicate 194 none
  statics := some 1 }

def pool12 : Array CpInfo := pool [(9, u "<init>"), (6, .class_ 18), (1, u "java/lang/Object"), (0, u "()V"), (1, .class_ 23), (1, u "jdk/internal/util/ArraysSupport"), (0, u "LOG2_ARRAY_LONG_INDEX_SCALE"), (0, u "I"), (2, u "U"), (0, u "Ljdk/internal/misc/Unsafe;"), (8, u "BIG_ENDIAN"), (0, u "Z"), (8, u "LOG2_BYTE_BIT_SIZE"), (4, u "LOG2_ARRAY_INT_INDEX_SCALE"), (54, u "JLA"), (0, u "Ljdk/internal/access/JavaLangAccess;"), (11, u "LOG2_ARRAY_BOOLEAN_INDEX_SCALE"), (9, u "LOG2_ARRAY_BYTE_INDEX_SCALE"), (5, u "LOG2_ARRAY_CHAR_INDEX_SCALE"), (5, u "LOG2_ARRAY_SHORT_INDEX_SCALE"), (18, u "LOG2_ARRAY_FLOAT_INDEX_SCALE"), (24, u "LOG2_ARRAY_DOUBLE_INDEX_SCALE"), (89, u "T_BOOLEAN"), (2, u "T_CHAR"), (1, u "T_FLOAT"), (1, u "T_DOUBLE"), (1, u "T_BYTE"), (1, u "T_SHORT"), (1, u "T_INT"), (1, u "T_LONG"), (1, u "SOFT_MAX_ARRAY_LENGTH")] 83

def k12m0 : Method := { name := "<init>", desc := "()V", sig := { parameters := [], returnType := none }, accessFlags := 2, code := none }
/-- jdk/internal/util/ArraysSupport -/
def k12 : Class := { plain "jdk/internal/util/ArraysSupport" (some 0) with
  accessFlags := 33
  interfaces := #[]
  cf := some (fileOf pool12 21 #[] #[{ accessFlags := 2, nameIndex := 9, descriptorIndex := 19, attributes := #[] }] 33 16 #[] #[{ accessFlags := 24, nameIndex := 28, descriptorIndex := 29, attributes := #[] }, { accessFlags := 26, nameIndex := 38, descriptorIndex := 39, attributes := #[] }, { accessFlags := 25, nameIndex := 121, descriptorIndex := 25, attributes := #[] }, { accessFlags := 25, nameIndex := 131, descriptorIndex := 25, attributes := #[] }, { accessFlags := 25, nameIndex := 137, descriptorIndex := 25, attributes := #[] }, { accessFlags := 25, nameIndex := 143, descriptorIndex := 25, attributes := #[] }, { accessFlags := 25, nameIndex := 53, descriptorIndex := 25, attributes := #[] }, { accessFlags := 25, nameIndex := 24, descriptorIndex := 25, attributes := #[] }, { accessFlags := 25, nameIndex := 162, descriptorIndex := 25, attributes := #[] }, { accessFlags := 25, nameIndex := 187, descriptorIndex := 25, attributes := #[] }, { accessFlags := 26, nameIndex := 48, descriptorIndex := 25, attributes := #[] }, { accessFlags := 25, nameIndex := 277, descriptorIndex := 25, attributes := #[] }, { accessFlags := 25, nameIndex := 280, descriptorIndex := 25, attributes := #[] }, { accessFlags := 25, nameIndex := 282, descriptorIndex := 25, attributes := #[] }, { accessFlags := 25, nameIndex := 284, descriptorIndex := 25, attributes := #[] }, { accessFlags := 25, nameIndex := 286, descriptorIndex := 25, attributes := #[] }, { accessFlags := 25, nameIndex := 288, descriptorIndex := 25, attributes := #[] }, { accessFlags := 25, nameIndex := 290, descriptorIndex := 25, attributes := #[] }, { accessFlags := 25, nameIndex := 292, descriptorIndex := 25, attributes := #[] }, { accessFlags := 26, nameIndex := 108, descriptorIndex := 109, attributes := #[] }, { accessFlags := 25, nameIndex := 294, descriptorIndex := 25, attributes := #[] }])
  fields := #[{ name := "U", type := (.object "jdk/internal/misc/Unsafe"), accessFlags := 24, slot := 0, constantValue := 0 }, { name := "BIG_ENDIAN", type := .boolean, accessFlags := 26, slot := 1, constantValue := 0 }, { name := "LOG2_ARRAY_BOOLEAN_INDEX_SCALE", type := .int, accessFlags := 25, slot := 2, constantValue := 0 }, { name := "LOG2_ARRAY_BYTE_INDEX_SCALE", type := .int, accessFlags := 25, slot := 3, constantValue := 0 }, { name := "LOG2_ARRAY_CHAR_INDEX_SCALE", type := .int, accessFlags := 25, slot := 4, constantValue := 0 }, { name := "LOG2_ARRAY_SHORT_INDEX_SCALE", type := .int, accessFlags := 25, slot := 5, constantValue := 0 }, { name := "LOG2_ARRAY_INT_INDEX_SCALE", type := .int, accessFlags := 25, slot := 6, constantValue := 0 }, { name := "LOG2_ARRAY_LONG_INDEX_SCALE", type := .int, accessFlags := 25, slot := 7, constantValue := 0 }, { name := "LOG2_ARRAY_FLOAT_INDEX_SCALE", type := .int, accessFlags := 25, slot := 8, constantValue := 0 }, { name := "LOG2_ARRAY_DOUBLE_INDEX_SCALE", type := .int, accessFlags := 25, slot := 9, constantValue := 0 }, { name := "LOG2_BYTE_BIT_SIZE", type := .int, accessFlags := 26, slot := 10, constantValue := 0 }, { name := "T_BOOLEAN", type := .int, accessFlags := 25, slot := 11, constantValue := 0 }, { name := "T_CHAR", type := .int, accessFlags := 25, slot := 12, constantValue := 0 }, { name := "T_FLOAT", type := .int, accessFlags := 25, slot := 13, constantValue := 0 }, { name := "T_DOUBLE", type := .int, accessFlags := 25, slot := 14, constantValue := 0 }, { name := "T_BYTE", type := .int, accessFlags := 25, slot := 15, constantValue := 0 }, { name := "T_SHORT", type := .int, accessFlags := 25, slot := 16, constantValue := 0 }, { name := "T_INT", type := .int, accessFlags := 25, slot := 17, constantValue := 0 }, { name := "T_LONG", type := .int, accessFlags := 25, slot := 18, constantValue := 0 }, { name := "JLA", type := (.object "jdk/internal/access/JavaLangAccess"), accessFlags := 26, slot := 19, constantValue := 0 }, { name := "SOFT_MAX_ARRAY_LENGTH", type := .int, accessFlags := 25, slot := 20, constantValue := 0 }]
  methods := #[k12m0]
  instanceTypes := #[]
  staticTypes := #[(.object "jdk/internal/misc/Unsafe"), .boolean, .int, .int, .int, .int, .int, .int, .int, .int, .int, .int, .int, .int, .int, .int, .int, .int, .int, (.object "jdk/internal/access/JavaLangAccess"), .int]
  resolved := Array.replicate 378 none
  statics := none }

def pool13 : Array CpInfo := pool [(1, u "java/lang/Cloneable"), (0, .class_ 1), (0, u "java/lang/Object"), (0, .class_ 3)] 3

/-- java/lang/Cloneable -/
def k13 : Class := { plain "java/lang/Cloneable" (some 0) with
  accessFlags := 1537
  interfaces := #[]
  cf := some (fileOf pool13 2 #[] #[] 1537 4 #[] #[])
  fields := #[]
  methods := #[]
  instanceTypes := #[]
  staticTypes := #[]
  resolved := Array.replicate 8 none
  statics := none }

/-- the primitive byte -/
def k14 : Class := { plain "byte" none with kind := .primitive 'B', accessFlags := 0x411 }
/-- [B -/
def k15 : Class := { plain "[B" (some 0) with kind := .array 14 .byte, interfaces := #[13, 3], accessFlags := 1041 }

/-- the primitive char -/
def k16 : Class := { plain "char" none with kind := .primitive 'C', accessFlags := 0x411 }
/-- [C -/
def k17 : Class := { plain "[C" (some 0) with kind := .array 16 .char, interfaces := #[13, 3], accessFlags := 1041 }

/-- the primitive int -/
def k18 : Class := { plain "int" none with kind := .primitive 'I', accessFlags := 0x411 }
/-- [I -/
def k19 : Class := { plain "[I" (some 0) with kind := .array 18 .int, interfaces := #[13, 3], accessFlags := 1041 }

def heap : Heap := #[{ cls := 8, slots := #[.long 0, .int 1, .null, .int 0, .null, .int 0, .int 0], vm := .statics 8 },
  { cls := 11, slots := #[.null, .null, .null], vm := .statics 11 }]
def classes : Array Class := #[k0, k1, k2, k3, k4, k5, k6, k7, k8, k9, k10, k11, k12, k13, k14, k15, k16, k17, k18, k19]
def interned : List (Array UInt16 × Addr) := []
def slotsUsed : Nat := 10
def theMethod : MethodId := ⟨1, 1⟩
def args0 : Array Value := #[.int 1, .long 2, .long 3]
def aboutOver (below : List Frame) : State where
  vm := { classes := classes, interned := interned.toArray }
  heap := heap
  slotsUsed := slotsUsed
  threads := #[{ frames := .invoking theMethod args0 :: below }]
def below0 : List Frame := [.native { method := ⟨0, 0⟩, args := #[] }]
def about1 : State := aboutOver below0
def p0 : Program := .bare "" "" ""
def e0 : Env := launch0.env 0 0 0
theorem w_frames : about1.frames = Frame.invoking theMethod args0 :: below0 := rfl
set_option maxRecDepth 65536 in
theorem w_args : argsFit about1.vm theMethod args0 = true := by decide +kernel
set_option maxRecDepth 65536 in
theorem w_heap : heapFits about1 = true := by decide +kernel
set_option maxRecDepth 65536 in
theorem w_runnable : about1.curStatus? = some .runnable := by decide +kernel
set_option maxRecDepth 65536 in
theorem w_alone : about1.alone = true := by decide +kernel
set_option maxRecDepth 65536 in
theorem w_named : about1.methodNamed? x = some theMethod := by decide +kernel
set_option maxRecDepth 65536 in
theorem w_hears : about1.hears theMethod below0 = true := by decide +kernel
set_option maxRecDepth 65536 in
theorem w_ripe : about1.ripe theMethod args0 below0 = true := by decide +kernel
theorem w_running : about1.status = .running := rfl
set_option maxRecDepth 65536 in
theorem w_room : about1.hasRoom e0.platform room_1 = true :=
  launch0.hasRoom_least _ room_1 (by decide +kernel) (by decide +kernel) (by decide +kernel) (by decide +kernel) (by decide +kernel) (by decide +kernel)
theorem allAtoms_all (ts : List Jvm.Cond) (a : Array Jvm.Value) (st : Jvm.State) : (allAtoms ts).before a st = ts.all (fun c => c.before a st) := by
  induction ts with
  | nil => rfl
  | cons c t ih =>
    show (Jvm.Cond.and c (allAtoms t)).before a st = _
    rw [Jvm.Cond.before_and, ih, List.all_cons]
def words1 : List Jvm.Cond := Jvm.Cond.code x code maxLocals ret :: tables_1
/-- a 'code' word, met by the world's own term for the bytes: nothing is compared byte by byte -/
theorem code_word {y : MethodName} {bytes : ByteArray} {mx : Nat} {rt : Option FieldType} {a : Array Value} {s : State} {m : MethodId} {meth : Method} {c : Code} (h1 : s.methodNamed? y = some m) (h2 : s.vm.method? m = some meth) (h3 : meth.code = some c) (h4 : c.code = bytes)
    (h5 : (c.maxLocals == mx && c.exceptionTable.isEmpty && decide (c.maxStack ≤ mostOperands) && decide (meth.sig.returnType = rt) && !meth.locks && decide (parseMethodDescriptor y.desc = some meth.sig)) = true) : (Jvm.Cond.code y bytes mx rt).before a s = true := by
  simp only [Bool.and_eq_true, beq_iff_eq, Bool.not_eq_true', decide_eq_true_eq] at h5
  obtain ⟨⟨⟨⟨⟨g1, g2⟩, g3⟩, g4⟩, g5⟩, g6⟩ := h5
  simp [Cond.before, Cond.holds, Cond.value, h1, h2, h3, h4, g1, g2, g3, g4, g5, g6]
def isCode : Jvm.Cond → Bool
  | .code _ _ _ _ => true
  | _ => false
theorem all_split {L : List Jvm.Cond} {P : Jvm.Cond → Bool} (h1 : L.all (fun c => isCode c || P c) = true) (h2 : ∀ c ∈ L.filter isCode, P c = true) : L.all P = true := by
  refine List.all_eq_true.mpr fun c hc => ?_
  have h := List.all_eq_true.mp h1 c hc
  rcases Bool.eq_false_or_eq_true (isCode c) with hi | hi
  · exact h2 c (List.mem_filter.mpr ⟨hc, hi⟩)
  · simpa [hi] using h
set_option maxRecDepth 65536 in
theorem w_c0 : (Jvm.Cond.code x code maxLocals ret).before args0 about1 = true := code_word (m := ⟨1, 1⟩) (meth := k1m1) (c := k1c1) (by decide +kernel) rfl rfl rfl (by decide +kernel)
set_option maxRecDepth 65536 in
theorem w_c1 : (Jvm.Cond.code ({ cls := "com/example/sigfig/sigfig/NumeralHasPointPinLaw", name := "digit", desc := "(JI)C" } : Jvm.MethodName) method_3_code (3 : Nat) (Option.some Jvm.ClassFile.FieldType.char)).before args0 about1 = true := code_word (m := ⟨1, 2⟩) (meth := k1m2) (c := k1c2) (by decide +kernel) rfl rfl rfl (by decide +kernel)
set_option maxRecDepth 65536 in
theorem w_c2 : (Jvm.Cond.code ({ cls := "com/example/sigfig/sigfig/NumeralHasPointPinLaw", name := "append", desc := "(J[CII)J" } : Jvm.MethodName) method_4_code (7 : Nat) (Option.some Jvm.ClassFile.FieldType.long)).before args0 about1 = true := code_word (m := ⟨1, 3⟩) (meth := k1m3) (c := k1c3) (by decide +kernel) rfl rfl rfl (by decide +kernel)
set_option maxRecDepth 65536 in
theorem w_c3 : (Jvm.Cond.code ({ cls := "com/example/sigfig/sigfig/Numeral", name := "<init>", desc := "()V" } : Jvm.MethodName) prog_14_method_1_code (1 : Nat) (Option.none : Option Jvm.ClassFile.FieldType)).before args0 about1 = true := code_word (m := ⟨2, 0⟩) (meth := k2m0) (c := k2c0) (by decide +kernel) rfl rfl rfl (by decide +kernel)
set_option maxRecDepth 65536 in
theorem w_c4 : (Jvm.Cond.code ({ cls := "java/lang/Object", name := "<init>", desc := "()V" } : Jvm.MethodName) object_method_1_code (1 : Nat) (Option.none : Option Jvm.ClassFile.FieldType)).before args0 about1 = true := code_word (m := ⟨0, 0⟩) (meth := k0m0) (c := k0c0) (by decide +kernel) rfl rfl rfl (by decide +kernel)
set_option maxRecDepth 65536 in
theorem w_c5 : (Jvm.Cond.code ({ cls := "java/lang/String", name := "<init>", desc := "([C)V" } : Jvm.MethodName) jdk_42_method_3_code (2 : Nat) (Option.none : Option Jvm.ClassFile.FieldType)).before args0 about1 = true := code_word (m := ⟨8, 1⟩) (meth := k8m1) (c := k8c1) (by decide +kernel) rfl rfl rfl (by decide +kernel)
set_option maxRecDepth 65536 in
theorem w_c6 : (Jvm.Cond.code ({ cls := "java/lang/String", name := "<init>", desc := "([CIILjava/lang/Void;)V" } : Jvm.MethodName) jdk_42_method_149_code (6 : Nat) (Option.none : Option Jvm.ClassFile.FieldType)).before args0 about1 = true := code_word (m := ⟨8, 2⟩) (meth := k8m2) (c := k8c2) (by decide +kernel) rfl rfl rfl (by decide +kernel)
set_option maxRecDepth 65536 in
theorem w_c7 : (Jvm.Cond.code ({ cls := "java/lang/StringUTF16", name := "compress", desc := "([CII)[B" } : Jvm.MethodName) jdk_52_method_16_code (6 : Nat) (Option.some (Jvm.ClassFile.FieldType.array Jvm.ClassFile.FieldType.byte))).before args0 about1 = true := code_word (m := ⟨9, 2⟩) (meth := k9m2) (c := k9c2) (by decide +kernel) rfl rfl rfl (by decide +kernel)
set_option maxRecDepth 65536 in
theorem w_c8 : (Jvm.Cond.code ({ cls := "java/lang/StringUTF16", name := "compress", desc := "([CI[BII)I" } : Jvm.MethodName) jdk_52_method_21_code (7 : Nat) (Option.some Jvm.ClassFile.FieldType.int)).before args0 about1 = true := code_word (m := ⟨9, 3⟩) (meth := k9m3) (c := k9c3) (by decide +kernel) rfl rfl rfl (by decide +kernel)
set_option maxRecDepth 65536 in
theorem w_c9 : (Jvm.Cond.code ({ cls := "java/lang/StringUTF16", name := "coderFromArrayLen", desc := "([BI)B" } : Jvm.MethodName) jdk_52_method_15_code (2 : Nat) (Option.some Jvm.ClassFile.FieldType.byte)).before args0 about1 = true := code_word (m := ⟨9, 1⟩) (meth := k9m1) (c := k9c1) (by decide +kernel) rfl rfl rfl (by decide +kernel)
set_option maxRecDepth 65536 in
theorem w_c10 : (Jvm.Cond.code ({ cls := "com/example/sigfig/sigfig/Numeral", name := "set", desc := "(ZLjava/lang/String;IIIIJZJ)V" } : Jvm.MethodName) prog_14_method_2_code (12 : Nat) (Option.none : Option Jvm.ClassFile.FieldType)).before args0 about1 = true := code_word (m := ⟨2, 1⟩) (meth := k2m1) (c := k2c1) (by decide +kernel) rfl rfl rfl (by decide +kernel)
set_option maxRecDepth 65536 in
theorem w_c11 : (Jvm.Cond.code ({ cls := "com/example/sigfig/sigfig/Numeral", name := "hasPoint", desc := "()Z" } : Jvm.MethodName) prog_14_method_6_code (1 : Nat) (Option.some Jvm.ClassFile.FieldType.boolean)).before args0 about1 = true := code_word (m := ⟨2, 2⟩) (meth := k2m2) (c := k2c2) (by decide +kernel) rfl rfl rfl (by decide +kernel)
def codes1 : List Jvm.Cond := [Jvm.Cond.code x code maxLocals ret, Jvm.Cond.code ({ cls := "com/example/sigfig/sigfig/NumeralHasPointPinLaw", name := "digit", desc := "(JI)C" } : Jvm.MethodName) method_3_code (3 : Nat) (Option.some Jvm.ClassFile.FieldType.char), Jvm.Cond.code ({ cls := "com/example/sigfig/sigfig/NumeralHasPointPinLaw", name := "append", desc := "(J[CII)J" } : Jvm.MethodName) method_4_code (7 : Nat) (Option.some Jvm.ClassFile.FieldType.long), Jvm.Cond.code ({ cls := "com/example/sigfig/sigfig/Numeral", name := "<init>", desc := "()V" } : Jvm.MethodName) prog_14_method_1_code (1 : Nat) (Option.none : Option Jvm.ClassFile.FieldType), Jvm.Cond.code ({ cls := "java/lang/Object", name := "<init>", desc := "()V" } : Jvm.MethodName) object_method_1_code (1 : Nat) (Option.none : Option Jvm.ClassFile.FieldType), Jvm.Cond.code ({ cls := "java/lang/String", name := "<init>", desc := "([C)V" } : Jvm.MethodName) jdk_42_method_3_code (2 : Nat) (Option.none : Option Jvm.ClassFile.FieldType), Jvm.Cond.code ({ cls := "java/lang/String", name := "<init>", desc := "([CIILjava/lang/Void;)V" } : Jvm.MethodName) jdk_42_method_149_code (6 : Nat) (Option.none : Option Jvm.ClassFile.FieldType), Jvm.Cond.code ({ cls := "java/lang/StringUTF16", name := "compress", desc := "([CII)[B" } : Jvm.MethodName) jdk_52_method_16_code (6 : Nat) (Option.some (Jvm.ClassFile.FieldType.array Jvm.ClassFile.FieldType.byte)), Jvm.Cond.code ({ cls := "java/lang/StringUTF16", name := "compress", desc := "([CI[BII)I" } : Jvm.MethodName) jdk_52_method_21_code (7 : Nat) (Option.some Jvm.ClassFile.FieldType.int), Jvm.Cond.code ({ cls := "java/lang/StringUTF16", name := "coderFromArrayLen", desc := "([BI)B" } : Jvm.MethodName) jdk_52_method_15_code (2 : Nat) (Option.some Jvm.ClassFile.FieldType.byte), Jvm.Cond.code ({ cls := "com/example/sigfig/sigfig/Numeral", name := "set", desc := "(ZLjava/lang/String;IIIIJZJ)V" } : Jvm.MethodName) prog_14_method_2_code (12 : Nat) (Option.none : Option Jvm.ClassFile.FieldType), Jvm.Cond.code ({ cls := "com/example/sigfig/sigfig/Numeral", name := "hasPoint", desc := "()Z" } : Jvm.MethodName) prog_14_method_6_code (1 : Nat) (Option.some Jvm.ClassFile.FieldType.boolean)]
set_option maxRecDepth 65536 in
theorem codes_eq : words1.filter isCode = codes1 := rfl
theorem w_codes : ∀ c ∈ words1.filter isCode, c.before args0 about1 = true := by
  rw [codes_eq]
  intro c hc
  simp only [codes1, List.mem_cons, List.not_mem_nil, or_false] at hc
  rcases hc with rfl | rfl | rfl | rfl | rfl | rfl | rfl | rfl | rfl | rfl | rfl | rfl
  · exact w_c0
  · exact w_c1
  · exact w_c2
  · exact w_c3
  · exact w_c4
  · exact w_c5
  · exact w_c6
  · exact w_c7
  · exact w_c8
  · exact w_c9
  · exact w_c10
  · exact w_c11
set_option maxRecDepth 65536 in
theorem w_t1 : (words1.take 24).all (fun c => isCode c || c.before args0 about1) = true := by decide +kernel
set_option maxRecDepth 65536 in
theorem w_t2 : ((words1.drop 24).take 24).all (fun c => isCode c || c.before args0 about1) = true := by decide +kernel
set_option maxRecDepth 65536 in
theorem w_t3 : (((words1.drop 24).drop 24).take 24).all (fun c => isCode c || c.before args0 about1) = true := by decide +kernel
set_option maxRecDepth 65536 in
theorem w_t4 : (((words1.drop 24).drop 24).drop 24).all (fun c => isCode c || c.before args0 about1) = true := by decide +kernel
theorem w_tables : (allAtoms (Jvm.Cond.code x code maxLocals ret :: tables_1)).before args0 about1 = true := by
  rw [allAtoms_all]
  show words1.all (fun c => c.before args0 about1) = true
  refine all_split ?_ w_codes
  rw [← List.take_append_drop 24 words1, List.all_append, w_t1, ← List.take_append_drop 24 (words1.drop 24), List.all_append, w_t2, ← List.take_append_drop 24 ((words1.drop 24).drop 24), List.all_append, w_t3, w_t4]
  rfl
set_option maxRecDepth 65536 in
theorem w_rest : rest_1_c.before args0 about1 = true := by decide +kernel
set_option maxRecDepth 65536 in
theorem w_case : (Jvm.Cond.and given_1 narrow_1).before args0 about1 = true := by decide +kernel
theorem w_applies : (headSpec (Jvm.Cond.code x code maxLocals ret :: tables_1) room_1).applies x e0.platform about1 = true :=
  (Spec.applies_iff w_frames).mpr ⟨w_running, w_runnable, w_alone, w_named, w_hears, w_ripe, w_room, w_tables⟩
theorem atStart : AtStart classFile x code maxLocals ret World_1 tables_1 room_1 Calls_1 rest_1 Pre_1 launch0 p0 e0 about1 theMethod args0 below0 :=
  ⟨lists_1, trivial, launch0.admits_env _ _ _, launch0.least_env, fairChoices_fair.cas, fairChoices_fair.clock, w_frames, w_args, w_heap, w_applies, trivial, w_rest, w_case⟩
end start1
theorem witness_1 : WitnessClaimed_1 := ⟨start1.p0, start1.e0, start1.about1, start1.theMethod, start1.args0, start1.below0, start1.atStart⟩
end Jvm.Pilot.@@N@@
